import Derived.Test.Qxb6600020aModsRet4
import Derived.Deep.QuietTactic
import Derived.BigQuiet
namespace Go.Proofs.Qxb6600020aMods
open Go.RowKit

/-- the bases do not decrease among the first k -/
def Asc (ss : List (Int × Int)) (k : Nat) : Prop := ∀ i, i + 1 < k → bas ss i ≤ bas ss (i + 1)
theorem Asc.zero {ss : List (Int × Int)} {k : Nat} (h : Asc ss k) : ∀ j, j < k → bas ss 0 ≤ bas ss j
  | 0, _ => Int.le_refl _
  | j + 1, hj => Int.le_trans (h.zero j (by omega)) (h j hj)

theorem rsGo_bounds (ss : List (Int × Int)) (n : Nat) (ha : Asc ss n) : ∀ (j : Nat) (kp s : Int), j < n → bas ss j ≤ s → bas ss 0 ≤ rsGo ss j kp s ∧ rsGo ss j kp s ≤ s
  | 0, kp, s, hj, hs => ⟨Int.le_refl _, hs⟩
  | j + 1, kp, s, hj, hs => by
    have hz := ha.zero (j + 1) hj
    have hst := ha j hj
    unfold rsGo
    split
    · split
      · exact ⟨by omega, Int.le_refl _⟩
      · have := rsGo_bounds ss n ha j (kp - 1) (bas ss j) (by omega) (Int.le_refl _)
        omega
    · exact rsGo_bounds ss n ha j kp s (by omega) (by omega)

theorem rsGo_more (ss : List (Int × Int)) (n : Nat) (ha : Asc ss n) : ∀ (j : Nat) (kp s : Int), j < n → bas ss j ≤ s → rsGo ss j (kp + 1) s ≤ rsGo ss j kp s
  | 0, kp, s, hj, hs => Int.le_refl _
  | j + 1, kp, s, hj, hs => by
    have hst := ha j hj
    unfold rsGo
    by_cases hl : bas ss j < lse ss j
    · simp only [hl, if_true]
      by_cases h0 : kp ≤ 0
      · rw [if_pos h0]
        split
        · exact Int.le_refl _
        · have := rsGo_bounds ss n ha j (kp + 1 - 1) (bas ss j) (by omega) (Int.le_refl _)
          omega
      · rw [if_neg h0, if_neg (by omega)]
        have := rsGo_more ss n ha j (kp - 1) (bas ss j) (by omega) (Int.le_refl _)
        rwa [show kp - 1 + 1 = kp + 1 - 1 by omega] at this
    · simp only [hl, if_false]
      exact rsGo_more ss n ha j kp s (by omega) (by omega)

/-- THE PLAIN LAW -/
theorem rs_more (ss : List (Int × Int)) (h1 : 1 ≤ ss.length) (ha : Asc ss ss.length) (keep : Int) :
    bas ss 0 ≤ rs ss (keep + 1) ∧ rs ss (keep + 1) ≤ rs ss keep ∧ rs ss keep ≤ bas ss (ss.length - 1) := by
  unfold rs
  exact ⟨(rsGo_bounds ss _ ha _ _ _ (by omega) (Int.le_refl _)).1, rsGo_more ss _ ha _ _ _ (by omega) (Int.le_refl _), (rsGo_bounds ss _ ha _ _ _ (by omega) (Int.le_refl _)).2⟩

set_option maxHeartbeats 400000 in
theorem bytesK_yes (a0 : Option Addr) (len0 cap0 : Nat) (a1 : Option Addr) (len1 cap1 : Nat) (k : Int) (w : World) (h : len0 + len1 ≤ 1048576) :
    Calls Trym.prog 17 #[.slice a0 len0 cap0, .slice a1 len1 cap1, .int .i64 k] w fun e w' => e = .returned (.bool true) ∧ w = w' := by
  go_enter Trym.func17, Trym.ntmps17
  go_wp2
  go_ret
  exact ⟨rfl, rfl⟩

set_option maxHeartbeats 400000 in
theorem bytesK_no (a0 : Option Addr) (len0 cap0 : Nat) (a1 : Option Addr) (len1 cap1 : Nat) (k : Int) (w : World) (h : ¬ len0 + len1 ≤ 1048576) (h0 : len0 ≤ maxLen) (h1 : len1 ≤ maxLen) :
    Calls Trym.prog 17 #[.slice a0 len0 cap0, .slice a1 len1 cap1, .int .i64 k] w fun e w' => e = .returned (.bool false) ∧ w = w' := by
  unfold maxLen at h0 h1
  by_cases c0 : 1048576 < len0
  · go_enter Trym.func17, Trym.ntmps17
    go_wp2
    go_ret
    exact ⟨rfl, rfl⟩
  · by_cases c1 : 1048576 < len1
    · go_enter Trym.func17, Trym.ntmps17
      go_wp2
      go_ret
      exact ⟨rfl, rfl⟩
    · go_enter Trym.func17, Trym.ntmps17
      go_wp2
      go_ret
      exact ⟨rfl, rfl⟩

theorem below_drewN {B : Nat} {a w : World} (h : Below B a w) (n : Nat) : Below B a (w.drewN n) := ⟨h.os, h.tape, h.output, h.size, h.block⟩
end Go.Proofs.Qxb6600020aMods
