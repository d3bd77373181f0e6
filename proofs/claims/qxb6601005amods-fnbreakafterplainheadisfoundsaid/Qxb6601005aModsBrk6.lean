import Derived.Test.Qxb6601005aModsBrk5
namespace Go.Proofs.Qxb6601005aMods
open Go.RowKit

def TokAt (w : World) (g r : Nat) : Prop := ∀ i, i < (tok r).length → w.cell? ⟨g, 0 + i, none⟩ = some (.int .u8 ((tok r).getD i 0))
theorem TokAt.below {w w' : World} {g r : Nat} (h : TokAt w g r) {B : Nat} (hb : Below B w w') (hg : g < B) : TokAt w' g r := fun i hi => (hb.cell (by exact hg)).trans (h i hi)

/-- head, token, rest, one behind the other -/
def whole (f fr : Nat → Int) (h r n2 : Nat) : List Int := cutAt f 0 h ++ tok r ++ cutAt fr 0 n2
theorem whole_length (f fr : Nat → Int) (h r n2 : Nat) : (whole f fr h r n2).length = h + (tok r).length + n2 := by simp [whole, cutAt]; omega
theorem whole_head (f fr : Nat → Int) (h r n2 i : Nat) (hi : i < h) : (whole f fr h r n2).getD i 0 = f i := by
  unfold whole
  rw [List.getD_eq_getElem?_getD, List.append_assoc, List.getElem?_append_left (by rw [cutAt_length]; exact hi), ← List.getD_eq_getElem?_getD, cutAt_getD _ _ _ _ hi, Nat.zero_add]
theorem whole_tok (f fr : Nat → Int) (h r n2 i : Nat) (hi : i < (tok r).length) : (whole f fr h r n2).getD (h + i) 0 = (tok r).getD i 0 := by
  unfold whole
  rw [List.getD_eq_getElem?_getD, List.append_assoc, List.getElem?_append_right (by rw [cutAt_length]; omega), cutAt_length, Nat.add_sub_cancel_left, List.getElem?_append_left hi, ← List.getD_eq_getElem?_getD]
theorem whole_rest (f fr : Nat → Int) (h r n2 i : Nat) (hi : i < n2) : (whole f fr h r n2).getD (h + (tok r).length + i) 0 = fr i := by
  unfold whole
  have hl : (cutAt f 0 h ++ tok r).length = h + (tok r).length := by simp [cutAt]
  rw [List.getD_eq_getElem?_getD, List.getElem?_append_right (by omega), hl, Nat.add_sub_cancel_left, ← List.getD_eq_getElem?_getD, cutAt_getD _ _ _ _ hi, Nat.zero_add]
theorem tok_u8 (r : Nat) : ∀ x ∈ tok r, 0 ≤ x ∧ x ≤ 255 := by
  intro x hx
  unfold tok at hx
  split at hx <;> simp at hx <;> omega
theorem tok_len (r : Nat) : 1 ≤ (tok r).length ∧ (tok r).length ≤ 3 := by unfold tok; split <;> simp
theorem whole_u8 (f fr : Nat → Int) (h r n2 : Nat) (hf : ∀ i, i < h → 0 ≤ f i ∧ f i ≤ 255) (hr : ∀ i, i < n2 → 0 ≤ fr i ∧ fr i ≤ 255) : ∀ i, i < h + (tok r).length + n2 → 0 ≤ (whole f fr h r n2).getD i 0 ∧ (whole f fr h r n2).getD i 0 ≤ 255 := by
  intro i hi
  by_cases h1 : i < h
  · rw [whole_head _ _ _ _ _ _ h1]; exact hf i h1
  · by_cases h2 : i < h + (tok r).length
    · rw [show i = h + (i - h) by omega, whole_tok _ _ _ _ _ _ (by omega)]
      have hx : i - h < (tok r).length := by omega
      rw [List.getD_eq_getElem?_getD, List.getElem?_eq_getElem hx, Option.getD_some]
      exact tok_u8 r _ (List.getElem_mem hx)
    · rw [show i = h + (tok r).length + (i - (h + (tok r).length)) by omega, whole_rest _ _ _ _ _ _ (by omega)]
      exact hr _ (by omega)
theorem eb_congr {f g : Nat → Int} {d : Nat} (h : ∀ i, i < d → f i = g i) : Eb f d ↔ Eb g d := by
  unfold Eb
  by_cases h1 : 1 ≤ d
  · by_cases h2 : 2 ≤ d
    · by_cases h3 : 3 ≤ d
      · rw [h (d - 1) (by omega), h (d - 2) (by omega), h (d - 3) (by omega)]
      · rw [h (d - 1) (by omega), h (d - 2) (by omega)]; omega
    · rw [h (d - 1) (by omega)]; omega
  · omega

theorem whole_line (f fr : Nat → Int) (h r n2 : Nat) (wide : Bool) (h6 : r < 6) (noE : ∀ d, 1 ≤ d → d ≤ h → ¬ Eb f d) (hw : wide = true ↔ (r = 2 ∧ 0 < n2 ∧ fr 0 = 10)) :
    Line (fun i => (whole f fr h r n2).getD i 0) h r (h + (tok r).length + n2) wide := by
  refine ⟨fun d h1 h2 => ?_, h6, fun i hi => whole_tok f fr h r n2 i hi, by omega, ?_⟩
  · rw [eb_congr (g := f) (fun i hi => whole_head f fr h r n2 i (by omega))]
    exact noE d h1 h2
  · rw [hw]
    constructor
    · rintro ⟨rfl, h1, h2⟩
      have hl : (tok 2).length = 1 := rfl
      have := whole_rest f fr h 2 n2 0 h1
      rw [hl] at this
      refine ⟨rfl, by rw [hl]; omega, ?_⟩
      show (whole f fr h 2 n2).getD (h + 1) 0 = 10
      rw [← h2]; exact this
    · rintro ⟨rfl, h1, h2⟩
      have hl : (tok 2).length = 1 := rfl
      rw [hl] at h1
      have := whole_rest f fr h 2 n2 0 (by omega)
      rw [hl] at this
      exact ⟨rfl, by omega, by rw [← this]; exact h2⟩

/-- the bytes of the whole -/
def Fn (f fr : Nat → Int) (h r n2 : Nat) : Nat → Int := fun i => (whole f fr h r n2).getD i 0

theorem src_zero {w : World} {g n c : Nat} {f : Nat → Int} (h : Src w (some ⟨g, 0, none⟩) n c f) (hn : 1 ≤ n) : w.cell? ⟨g, 0, none⟩ = some (.int .u8 (f 0)) := by
  rcases h with ⟨h, _⟩ | ⟨g', e1, _, _, e4⟩
  · cases h
  · cases e1
    exact e4 0 (by omega)

end Go.Proofs.Qxb6601005aMods
