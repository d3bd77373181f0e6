import Derived.Test.Qxb6600020aModsRet1
namespace Go.Proofs.Qxb6600020aMods
open Go.RowKit

def bas (ss : List (Int × Int)) (i : Nat) : Int := (ss.getD i (0, 0)).1
def lse (ss : List (Int × Int)) (i : Nat) : Int := (ss.getD i (0, 0)).2

/-- what 'retainedStart' comes to: i segments are still to be looked at -/
def rsGo (ss : List (Int × Int)) : Nat → Int → Int → Int
  | 0, _, _ => bas ss 0
  | i + 1, keep, start => if bas ss i < lse ss i then (if keep ≤ 0 then start else rsGo ss i (keep - 1) (bas ss i)) else rsGo ss i keep start
def rs (ss : List (Int × Int)) (keep : Int) : Int := rsGo ss (ss.length - 1) keep (bas ss (ss.length - 1))

/-- the segments lie in block g -/
def SegsAt (w : World) (g : Nat) (ss : List (Int × Int)) : Prop :=
  ∀ i, i < ss.length → w.cell? ⟨g, i * 5, none⟩ = some (.int .i64 (bas ss i)) ∧ w.cell? ⟨g, i * 5 + 1, none⟩ = some (.int .i32 0) ∧ w.cell? ⟨g, i * 5 + 2, none⟩ = some (.int .i32 0) ∧
    w.cell? ⟨g, i * 5 + 3, none⟩ = some (.int .i64 (lse ss i)) ∧ w.cell? ⟨g, i * 5 + 4, none⟩ = some (.bool false)

theorem SegsAt.below {w w' : World} {g : Nat} {ss : List (Int × Int)} (h : SegsAt w g ss) {B : Nat} (hb : Below B w w') (hg : g < B) : SegsAt w' g ss := by
  intro i hi
  obtain ⟨h0, h1, h2, h3, h4⟩ := h i hi
  exact ⟨(hb.cell (by exact hg)).trans h0, (hb.cell (by exact hg)).trans h1, (hb.cell (by exact hg)).trans h2, (hb.cell (by exact hg)).trans h3, (hb.cell (by exact hg)).trans h4⟩

set_option maxHeartbeats 400000 in
theorem ret_any (g : Nat) (ss : List (Int × Int)) (n : Nat) (keep : Int) (w : World) (hn : ss.length = n) (h1 : 1 ≤ n) (h2 : n ≤ 65536) (hg : g < w.heap.size) (hk1 : -9223372036854775808 ≤ keep) (hk2 : keep ≤ 9223372036854775807) (hs : SegsAt w g ss) :
    Calls Trym.prog 26 #[.slice (some ⟨g, 0, none⟩) n n, .int .i64 keep] w fun e w' => e = .returned (.int .i64 (rs ss keep)) ∧ Below w.heap.size w w' := by
  obtain ⟨c0, c1, c2, c3, c4⟩ := hs (n - 1) (by omega)
  go_enter Trym.func26, Trym.ntmps26
  go_wp2
  go_loopw [1, 5, 6] (fun sk st si wr => ∃ (j : Nat) (kp s : Int), j + 1 ≤ n ∧ si = .int .i64 ((j : Int) - 1) ∧ sk = .int .i64 kp ∧ st = .int .i64 s ∧ -9223372036854775808 ≤ kp ∧ kp ≤ 9223372036854775807 ∧ Hid (rsGo ss j kp s = rs ss keep) ∧ Below w.heap.size w wr)
    (fun _ _ si _ => (intOf si + 1).toNat)
  case atStart => exact ⟨n - 1, keep, bas ss (n - 1), by omega, by congr 1; omega, rfl, rfl, hk1, hk2, by unfold Hid rs; rw [hn], Below.refl _ _⟩
  case round =>
    obtain ⟨j, kp, s, hj, rfl, rfl, rfl, hp1, hp2, HR, hb⟩ := hrel
    have hs' : SegsAt wr g ss := hs.below hb hg
    clear c0 c1 c2 c3 c4
    rcases j with _ | m
    · obtain ⟨c0, c1, c2, c3, c4⟩ := hs' 0 (by omega)
      rw [Nat.zero_mul] at c0
      go_wp2
      go_ret
      exact ⟨ret_int HR.out, hb⟩
    · have e : (((m + 1 : Nat) : Int) - 1) = (m : Int) := by omega
      rw [e]
      obtain ⟨c0, c1, c2, c3, c4⟩ := hs' m (by omega)
      have hgr : g < wr.heap.size := Nat.lt_of_lt_of_le hg hb.size
      by_cases hl : bas ss m < lse ss m
      · by_cases hk : kp ≤ 0
        · go_wp2_with (go_at_call 16; refine (leased_yes _ _ _ hl).mono ?_; rintro e w' ⟨rfl, hb1, hz1⟩)
          go_ret
          exact ⟨ret_int (by rw [← HR.out, rsGo, if_pos hl, if_pos hk]), hb.trans (hb1.mono hb.size)⟩
        · have HF : Hid (rsGo ss m (kp - 1) (bas ss m) = rs ss keep) := by unfold Hid; rw [← HR.out, rsGo, if_pos hl, if_neg hk]
          go_wp2_with (go_at_call 16; refine (leased_yes _ _ _ hl).mono ?_; rintro e w' ⟨rfl, hb1, hz1⟩; have d0 := (hb1.cell (p := ⟨g, m * 5, none⟩) hgr).trans c0)
          go_roundw
          case rel => exact ⟨m, kp - 1, bas ss m, by omega, rfl, rfl, rfl, by omega, by omega, HF, hb.trans (hb1.mono hb.size)⟩
          case measure => simp [intOf]
      · have HF : Hid (rsGo ss m kp s = rs ss keep) := by unfold Hid; rw [← HR.out, rsGo, if_neg hl]
        go_wp2_with (go_at_call 16; refine (leased_no _ _ _ (by omega)).mono ?_; rintro e w' ⟨rfl, hb1, hz1⟩)
        go_roundw
        case rel => exact ⟨m, kp, s, by omega, rfl, rfl, rfl, by omega, by omega, HF, hb.trans (hb1.mono hb.size)⟩
        case measure => simp [intOf]
end Go.Proofs.Qxb6600020aMods
