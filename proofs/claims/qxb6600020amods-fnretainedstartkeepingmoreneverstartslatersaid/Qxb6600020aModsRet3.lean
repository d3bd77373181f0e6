import Derived.Test.Qxb6600020aModsRet2
namespace Go.Proofs.Qxb6600020aMods
open Go.RowKit

theorem info33 : (Trym.prog.info? 33).map (fun i => (i.zero, i.size, i.bytes)) = some (some (.agg #[.int .i64 0, .int .i32 0, .int .i32 0, .int .i64 0, .bool false]), 5, 32) := by kernel_rfl

/-- Of the first k segments the cells are laid; every cell of the block is there and may be written. -/
def Laying (w : World) (g n k : Nat) (ss : List (Int × Int)) : Prop :=
  g < w.heap.size ∧ (∀ j, j < n * 5 → ∃ v, w.cell? ⟨g, j, none⟩ = some v) ∧ (∀ j, w.frozen? ⟨g, j, none⟩ = false) ∧ SegsAt w g (ss.take k)

theorem bas_take {ss : List (Int × Int)} {k i : Nat} (h : i < k) : bas (ss.take k) i = bas ss i := by
  unfold bas; simp [List.getD_eq_getElem?_getD, h]
theorem lse_take {ss : List (Int × Int)} {k i : Nat} (h : i < k) : lse (ss.take k) i = lse ss i := by
  unfold lse; simp [List.getD_eq_getElem?_getD, h]
theorem bas_zip {A B : List Int} {i : Nat} (hA : i < A.length) (hB : i < B.length) : bas (A.zip B) i = A[i] := by
  unfold bas; rw [List.getD_eq_getElem?_getD, List.getElem?_eq_getElem (by simp; omega), Option.getD_some, List.getElem_zip]
theorem lse_zip {A B : List Int} {i : Nat} (hA : i < A.length) (hB : i < B.length) : lse (A.zip B) i = B[i] := by
  unfold lse; rw [List.getD_eq_getElem?_getD, List.getElem?_eq_getElem (by simp; omega), Option.getD_some, List.getElem_zip]

def seg5 (a b : Int) : List Value := [.int .i64 a, .int .i32 0, .int .i32 0, .int .i64 b, .bool false]

theorem size_setCells (b : Nat) : ∀ (vs : List Value) (o : Nat) (w : World), (w.setCells b o vs).heap.size = w.heap.size
  | [], _, _ => rfl
  | v :: r, o, w => by rw [World.setCells, size_setCells b r]; simp [World.setCell]

theorem below_setCells {B b : Nat} (hb : B ≤ b) : ∀ (vs : List Value) (o : Nat) {w0 w : World}, Below B w0 w → Below B w0 (w.setCells b o vs)
  | [], _, _, _, h => h
  | v :: r, o, w0, w, h => below_setCells hb r (o + 1) (h.setCell (by exact hb) v)

theorem laying_step {w : World} {g n k : Nat} {ss : List (Int × Int)} (hn : ss.length = n) (hk : k < n) (h : Laying w g n k ss) :
    Laying (w.setCells g (k * 5) (seg5 (bas ss k) (lse ss k))).drew g n (k + 1) ss := by
  obtain ⟨h1, h2, h3, h4⟩ := h
  have hin : ∀ j (hj : j < 5), (w.setCells g (k * 5) (seg5 (bas ss k) (lse ss k))).cell? ⟨g, k * 5 + j, none⟩ = some ((seg5 (bas ss k) (lse ss k))[j]'hj) := fun j hj =>
    World.cell?_setCells_in g (seg5 (bas ss k) (lse ss k)) (k * 5) w (fun j hj => by obtain ⟨v, hv⟩ := h2 (k * 5 + j) (by simp [seg5] at hj; omega); rw [hv]; rfl) j hj
  have hout : ∀ j, (j < k * 5 ∨ k * 5 + 5 ≤ j) → (w.setCells g (k * 5) (seg5 (bas ss k) (lse ss k))).cell? ⟨g, j, none⟩ = w.cell? ⟨g, j, none⟩ := fun j hj =>
    World.cell?_setCells_out g _ _ _ _ (fun _ _ => hj)
  refine ⟨by simpa [size_setCells] using h1, fun j hj => ?_, fun j => ?_, fun i hi => ?_⟩
  · rw [World.cell?_drew]
    by_cases hr : j < k * 5 ∨ k * 5 + 5 ≤ j
    · rw [hout j hr]; exact h2 j hj
    · have := hin (j - k * 5) (by omega)
      rw [show k * 5 + (j - k * 5) = j by omega] at this
      exact ⟨_, this⟩
  · rw [World.frozen?_drew, World.frozen?_setCells]; exact h3 j
  · simp only [World.cell?_drew]
    simp only [List.length_take] at hi
    have hik : i < k + 1 := by omega
    rw [bas_take hik, lse_take hik]
    by_cases he : i = k
    · subst he
      exact ⟨hin 0 (by omega), hin 1 (by omega), hin 2 (by omega), hin 3 (by omega), hin 4 (by omega)⟩
    · have hi' : i < k := by omega
      rw [hout _ (by omega), hout _ (by omega), hout _ (by omega), hout _ (by omega), hout _ (by omega)]
      have := h4 i (by simp; omega)
      rwa [bas_take hi', lse_take hi'] at this

def put5 (w : World) (g o : Nat) (a b : Int) : World :=
  (((((w.setCell ⟨g, o, none⟩ (.int .i64 a)).setCell ⟨g, o + 1, none⟩ (.int .i32 0)).setCell ⟨g, o + 2, none⟩ (.int .i32 0)).setCell ⟨g, o + 3, none⟩ (.int .i64 b)).setCell ⟨g, o + 4, none⟩ (.bool false)).drew
theorem put5_eq (w : World) (g o : Nat) (a b : Int) : (w.setCells g o (seg5 a b)).drew = put5 w g o a b := rfl

theorem laying_zip {w w1 : World} {g n k : Nat} {A B : List Int} (hA : A.length = n) (hB : B.length = n) (hk : k < n) (ha : k < A.length) (hb : k < B.length) (h : Laying w g n k (A.zip B)) (hw : Below g w1 w) :
    Laying (put5 w g (k * 5) A[k] B[k]) g n (k + 1) (A.zip B) ∧ Below g w1 (put5 w g (k * 5) A[k] B[k]) := by
  have := laying_step (by simp [hA, hB]) hk h
  rw [bas_zip ha hb, lse_zip ha hb] at this
  rw [← put5_eq]
  exact ⟨this, (below_setCells (Nat.le_refl _) _ _ hw).drew⟩

theorem laying_start {w w0 : World} {n : Nat} {xs : List Value} {ss : List (Int × Int)} (h1 : w0.ownsRow w.heap.size 33 5 (.slice (some ⟨w.heap.size, 0, none⟩) n n) n xs) :
    Laying w0 w.heap.size n 0 ss := by
  have hlen := h1.1
  refine ⟨(h1.lt _ rfl).2, fun j hj => ?_, fun j => h1.frozenAt j, fun i hi => by simp at hi⟩
  rw [h1.cellAt j hj, List.getElem?_eq_getElem (by omega)]
  exact ⟨_, rfl⟩

set_option maxHeartbeats 400000 in
theorem segs_any (b0 o0 c0 b1 o1 c1 n : Nat) (A B : List Int) (w : World) (hA : A.length = n) (hB : B.length = n) (h1 : 1 ≤ n) (h2 : n ≤ 65536) (hb0 : b0 < w.heap.size) (hb1 : b1 < w.heap.size)
    (hc0 : ∀ i, i < n → w.cell? ⟨b0, o0 + i, none⟩ = some (.int .i64 (A.getD i 0))) (hc1 : ∀ i, i < n → w.cell? ⟨b1, o1 + i, none⟩ = some (.int .i64 (B.getD i 0))) :
    Calls Trym.prog 14 #[.slice (some ⟨b0, o0, none⟩) n c0, .slice (some ⟨b1, o1, none⟩) n c1] w fun e w' => e = .returned (.slice (some ⟨w.heap.size, 0, none⟩) n n) ∧ SegsAt w' w.heap.size (A.zip B) ∧ w.heap.size < w'.heap.size ∧ Below w.heap.size w w' := by
  obtain ⟨i0, hi, hz0, hz1, hz2⟩ := info_parts info33
  go_enter Trym.func14, Trym.ntmps14
  go_wp2_with (at_make; refine wpList_make_full _ rfl _ _ 29 rfl w.heap.size 33 i0 (.agg #[.int .i64 0, .int .i32 0, .int .i32 0, .int .i64 0, .bool false]) 5 Trym.underlying29 hi hz0 hz1 _ _ _ _ n rfl rfl rfl rfl ?b2 ?b3 (Nat.le_refl _) ?_)
  case b2 => rw [hz2]; omega
  case b3 => unfold maxLen; omega
  intro w0 hown0 hgrow0
  have hL0 : Laying w0 w.heap.size n 0 (A.zip B) := laying_start hown0
  have hb00 : Below w.heap.size w w0 := (Below.refl _ _).grown hgrow0 (Nat.le_refl _) (fun k h => by cases h)
  clear hown0 hgrow0
  go_wp2
  go_loopw [6] (fun si wr => ∃ k : Nat, k ≤ n ∧ si = .int .i64 k ∧ Laying wr w.heap.size n k (A.zip B) ∧ Below w.heap.size w wr) (fun si _ => n - (intOf si).toNat)
  case atStart => exact ⟨0, Nat.zero_le _, rfl, hL0, hb00⟩
  case round =>
    obtain ⟨k, hk, rfl, hL, hb⟩ := hrel
    have HL := hL
    obtain ⟨L1, L2, L3, L4⟩ := hL
    by_cases hlt : k < n
    · have g0 : wr.cell? ⟨b0, o0 + k, none⟩ = some (.int .i64 (A.getD k 0)) := (hb.cell (by exact hb0)).trans (hc0 k hlt)
      have g1 : wr.cell? ⟨b1, o1 + k, none⟩ = some (.int .i64 (B.getD k 0)) := (hb.cell (by exact hb1)).trans (hc1 k hlt)
      obtain ⟨x0, e0⟩ := L2 (k * 5) (by omega)
      obtain ⟨x1, e1⟩ := L2 (k * 5 + 1) (by omega)
      obtain ⟨x2, e2⟩ := L2 (k * 5 + 2) (by omega)
      obtain ⟨x3, e3⟩ := L2 (k * 5 + 3) (by omega)
      obtain ⟨x4, e4⟩ := L2 (k * 5 + 4) (by omega)
      have f0 := L3 (k * 5)
      have f1 := L3 (k * 5 + 1)
      have f2 := L3 (k * 5 + 2)
      have f3 := L3 (k * 5 + 3)
      have f4 := L3 (k * 5 + 4)
      have HS := laying_zip hA hB hlt (by omega) (by omega) HL hb
      unfold put5 at HS
      clear hc0 hc1 L2 L3 HL
      go_wp2
      go_region
      all_goals go_wp2
      all_goals go_roundw
      case rel => exact ⟨k + 1, by omega, by go_num, HS.1, HS.2⟩
      case measure => simp [intOf]; omega
    · have hkn : k = n := by omega
      have HF : SegsAt wr w.heap.size (A.zip B) := by
        have : (A.zip B).take k = A.zip B := List.take_of_length_le (by simp; omega)
        rwa [this] at L4
      clear hkn
      go_wp2
      go_ret
      exact ⟨rfl, HF, L1, hb⟩
end Go.Proofs.Qxb6600020aMods
