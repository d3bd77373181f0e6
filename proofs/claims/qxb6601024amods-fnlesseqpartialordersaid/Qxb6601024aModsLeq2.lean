import Derived.Test.Qxb6601024aModsLeq1
namespace Go.Proofs.Qxb6601024aMods
open Go.RowKit

theorem info26 : (Trym.prog.info? 26).map (fun i => (i.zero, i.size, i.bytes)) = some (some (.int .u64 0), 1, 8) := by kernel_rfl

/-- Of the first k words the cells are laid; every cell of the block is there and may be written. -/
def Laying (w : World) (g n k : Nat) (f : Nat → Int) : Prop :=
  g < w.heap.size ∧ (∀ j, j < n → ∃ v, w.cell? ⟨g, j, none⟩ = some v) ∧ (∀ j, w.frozen? ⟨g, j, none⟩ = false) ∧ ∀ i, i < k → w.cell? ⟨g, i, none⟩ = some (.int .u64 (f i))

theorem laying_step {w : World} {g n k : Nat} {f : Nat → Int} (hk : k < n) (h : Laying w g n k f) : Laying (w.setCell ⟨g, k, none⟩ (.int .u64 (f k))) g n (k + 1) f := by
  obtain ⟨h1, h2, h3, h4⟩ := h
  obtain ⟨v, hv⟩ := h2 k hk
  have hs : (w.setCell ⟨g, k, none⟩ (.int .u64 (f k))).cell? ⟨g, k, none⟩ = some (.int .u64 (f k)) := World.cell?_setCell_same _ _ _ hv
  have ho : ∀ j, j ≠ k → (w.setCell ⟨g, k, none⟩ (.int .u64 (f k))).cell? ⟨g, j, none⟩ = w.cell? ⟨g, j, none⟩ := fun j hj => World.cell?_setCell_other _ _ _ _ (fun e => hj (congrArg Addr.off e).symm)
  refine ⟨by simpa [World.setCell] using h1, fun j hj => ?_, fun j => ?_, fun i hi => ?_⟩
  · by_cases he : j = k
    · subst he; exact ⟨_, hs⟩
    · rw [ho j he]; exact h2 j hj
  · rw [World.frozen?_setCell]; exact h3 j
  · by_cases he : i = k
    · subst he; exact hs
    · rw [ho i he]; exact h4 i (by omega)

theorem laying_start {w w0 : World} {n : Nat} {xs : List Value} {f : Nat → Int} (h1 : w0.ownsRow w.heap.size 26 1 (.slice (some ⟨w.heap.size, 0, none⟩) n n) n xs) :
    Laying w0 w.heap.size n 0 f := by
  have hlen := h1.1
  refine ⟨(h1.lt _ rfl).2, fun j hj => ?_, fun j => h1.frozenAt j, fun i hi => by omega⟩
  rw [h1.cellAt j (by omega), List.getElem?_eq_getElem (by omega)]
  exact ⟨_, rfl⟩

theorem nil22 : ∀ (w : World) (a : Option Addr) (n c n' c' : Nat), (binOp .eql 22 (.slice a n c) (.slice none n' c')).run Trym.prog w = .ok (.bool a.isNone) w :=
  fun w a n c n' c' => Lib.run_eql_slice_nil w _ _ a n c n' c' Trym.underlying22

theorem clone_nil (n c : Nat) (w : World) : Calls Trym.prog 10 #[.slice none n c] w fun e w' => e = .returned (.slice none 0 0) ∧ w = w' := by
  have q22 := nil22
  go_enter Trym.func10, Trym.ntmps10
  go_wp2
  go_ret
  exact ⟨rfl, rfl⟩

set_option maxHeartbeats 400000 in
theorem clone_some (b o n c : Nat) (f : Nat → Int) (w : World) (hm : n ≤ 1048576) (hb0 : b < w.heap.size) (hc : WordsAt w b o n f) :
    Calls Trym.prog 10 #[.slice (some ⟨b, o, none⟩) n c] w fun e w' => e = .returned (.slice (some ⟨w.heap.size, 0, none⟩) n n) ∧ WordsAt w' w.heap.size 0 n f ∧ w.heap.size < w'.heap.size ∧ Below w.heap.size w w' := by
  obtain ⟨i0, hi, hz0, hz1, hz2⟩ := info_parts info26
  have q22 := nil22
  go_enter Trym.func10, Trym.ntmps10
  go_wp2_with (at_make; refine wpList_make_full _ rfl _ _ 22 rfl w.heap.size 26 i0 (.int .u64 0) 1 Trym.underlying22 hi hz0 hz1 _ _ _ _ n rfl rfl rfl rfl ?b2 ?b3 (Nat.le_refl _) ?_)
  case b2 => rw [hz2]; omega
  case b3 => unfold maxLen; omega
  intro w0 hown0 hgrow0
  have hL0 : Laying w0 w.heap.size n 0 f := laying_start hown0
  have hb00 : Below w.heap.size w w0 := (Below.refl _ _).grown hgrow0 (Nat.le_refl _) (fun k h => by cases h)
  clear hown0 hgrow0
  go_wp2
  go_loopw [4] (fun si wr => ∃ k : Nat, k ≤ n ∧ si = .int .i64 k ∧ Laying wr w.heap.size n k f ∧ Below w.heap.size w wr) (fun si _ => n - (intOf si).toNat)
  case atStart => exact ⟨0, Nat.zero_le _, rfl, hL0, hb00⟩
  case round =>
    obtain ⟨k, hk, rfl, hL, hb⟩ := hrel
    by_cases hlt : k < n
    · have HS := laying_step hlt hL
      have hB := hb.setCell (p := ⟨w.heap.size, k, none⟩) (Nat.le_refl _) (.int .u64 (f k))
      obtain ⟨L1, L2, L3, L4⟩ := hL
      obtain ⟨x, ex⟩ := L2 k hlt
      have fk := L3 k
      have g0 := (hb.cell (p := ⟨b, o + k, none⟩) hb0).trans (hc k hlt)
      clear hc L2 L3 L4
      go_wp2
      go_roundw
      case rel => exact ⟨k + 1, by omega, by go_num, HS, hB⟩
      case measure => simp [intOf]; omega
    · obtain ⟨L1, L2, L3, L4⟩ := hL
      have HF : WordsAt wr w.heap.size 0 n f := fun i hi => by rw [Nat.zero_add]; exact L4 i (by omega)
      clear L2 L3 L4
      go_wp2
      go_ret
      exact ⟨rfl, HF, L1, hb⟩

set_option maxHeartbeats 400000 in
theorem clone_zero (a : Addr) (c : Nat) (w : World) :
    Calls Trym.prog 10 #[.slice (some a) 0 c] w fun e w' => e = .returned (.slice (some ⟨w.heap.size, 0, none⟩) 0 0) ∧ Below w.heap.size w w' := by
  obtain ⟨i0, hi, hz0, hz1, hz2⟩ := info_parts info26
  have q22 := nil22
  go_enter Trym.func10, Trym.ntmps10
  go_wp2_with (at_make; refine wpList_make_full _ rfl _ _ 22 rfl w.heap.size 26 i0 (.int .u64 0) 1 Trym.underlying22 hi hz0 hz1 _ _ _ _ 0 rfl rfl rfl rfl ?b2 ?b3 (Nat.le_refl _) ?_)
  case b2 => omega
  case b3 => exact Nat.zero_le _
  intro w0 hown0 hgrow0
  have hb00 : Below w.heap.size w w0 := (Below.refl _ _).grown hgrow0 (Nat.le_refl _) (fun k h => by cases h)
  clear hown0 hgrow0
  go_wp2
  go_loop [4] (fun si => si = .int .i64 0) (fun _ => 0)
  case atStart => rfl
  case round =>
    subst hrel
    go_wp2
    go_ret
    exact ⟨rfl, hb00⟩

theorem clone_any (a : Option Addr) (n c : Nat) (f : Nat → Int) (w : World) (h0 : a = none → n = 0) (h : Wd w a n f) :
    Calls Trym.prog 10 #[.slice a n c] w fun e w' => (∃ ao cc, e = .returned (.slice ao n cc) ∧ Wd w' ao n f) ∧ Below w.heap.size w w' := by
  cases a with
  | none =>
    obtain rfl := h0 rfl
    exact (clone_nil 0 c w).mono fun e w' ⟨q1, q2⟩ => by subst q2; exact ⟨⟨none, 0, q1, h⟩, Below.refl _ _⟩
  | some x =>
    by_cases hn : n = 0
    · subst hn
      exact (clone_zero x c w).mono fun e w' ⟨q1, q2⟩ => ⟨⟨_, _, q1, ⟨h.1, h.2.1, fun h => by omega⟩⟩, q2⟩
    · obtain ⟨b, o, e1, e2, e3⟩ := h.2.2 (by omega)
      obtain rfl := Option.some.inj e1
      exact (clone_some b o n c f w h.1 e2 e3).mono fun e w' ⟨q1, q2, q3, q4⟩ => ⟨⟨_, _, q1, ⟨h.1, h.2.1, fun _ => ⟨w.heap.size, 0, rfl, q3, q2⟩⟩⟩, q4⟩
end Go.Proofs.Qxb6601024aMods
