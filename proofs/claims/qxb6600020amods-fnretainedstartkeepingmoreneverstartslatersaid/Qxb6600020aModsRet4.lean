import Derived.Test.Qxb6600020aModsRet3
namespace Go.Proofs.Qxb6600020aMods
open Go.RowKit

theorem zret_any (g : Nat) (ss : List (Int × Int)) (n : Nat) (keep : Int) (w : World) (hn : ss.length = n) (h1 : 1 ≤ n) (h2 : n ≤ 65536) (hg : g < w.heap.size) (hk1 : -9223372036854775808 ≤ keep) (hk2 : keep ≤ 9223372036854775807) (hs : SegsAt w g ss) :
    Calls Trym.prog 15 #[.slice (some ⟨g, 0, none⟩) n n, .int .i64 keep] w fun e w' => e = .returned (.int .i64 (rs ss keep)) ∧ Below w.heap.size w w' := by
  go_enter Trym.func15, Trym.ntmps15
  go_wp2_with (go_at_call 26; refine (ret_any g ss n keep _ hn h1 h2 hg hk1 hk2 hs).mono ?_; rintro e w' ⟨rfl, hb⟩)
  go_ret
  exact ⟨rfl, hb⟩

/-- of the first k segments, how many are leased -/
def cnt (ss : List (Int × Int)) : Nat → Nat
  | 0 => 0
  | k + 1 => if bas ss k < lse ss k then cnt ss k + 1 else cnt ss k
theorem cnt_le (ss : List (Int × Int)) : ∀ k, cnt ss k ≤ k
  | 0 => Nat.le_refl _
  | k + 1 => by have := cnt_le ss k; unfold cnt; split <;> omega
/-- the base of the t-th leased segment among the first k, counted from zero -/
def wantTo (ss : List (Int × Int)) (t : Int) : Nat → Int
  | 0 => bas ss 0
  | k + 1 => if bas ss k < lse ss k ∧ (cnt ss k : Int) = t then bas ss k else wantTo ss t k

theorem rsGo_low (ss : List (Int × Int)) (kp : Int) (h : kp ≤ 0) : ∀ (j : Nat) (s : Int), rsGo ss j kp s = if cnt ss j = 0 then bas ss 0 else s
  | 0, s => by simp [rsGo, cnt]
  | j + 1, s => by
    unfold rsGo cnt
    by_cases hl : bas ss j < lse ss j
    · simp [hl, h]
    · simp only [hl, if_false]; exact rsGo_low ss kp h j s
theorem rsGo_high (ss : List (Int × Int)) : ∀ (j : Nat) (kp : Int) (s : Int), 0 < kp → rsGo ss j kp s = if (cnt ss j : Int) ≤ kp then bas ss 0 else wantTo ss (cnt ss j - kp) j
  | 0, kp, s, h => by simp [rsGo, cnt]; intro h'; omega
  | j + 1, kp, s, h => by
    unfold rsGo cnt wantTo
    by_cases hl : bas ss j < lse ss j
    · simp only [hl, if_true, true_and]
      rw [if_neg (by omega : ¬ kp ≤ 0)]
      by_cases h1 : kp = 1
      · subst h1
        rw [show (1 : Int) - 1 = 0 from rfl, rsGo_low ss 0 (by omega)]
        by_cases h0 : cnt ss j = 0
        · rw [if_pos h0, if_pos (by omega)]
        · rw [if_neg h0, if_neg (by omega), if_pos (by omega)]
      · rw [rsGo_high ss j (kp - 1) _ (by omega)]
        by_cases h2 : (cnt ss j : Int) ≤ kp - 1
        · rw [if_pos h2, if_pos (by omega)]
        · rw [if_neg h2, if_neg (by omega), if_neg (by omega)]
          congr 1; omega
    · simp only [hl, if_false, false_and]
      exact rsGo_high ss j kp s h

/-- THE PLAIN LAW -/
theorem rs_model (ss : List (Int × Int)) (keep : Int) : rs ss keep =
    if (cnt ss (ss.length - 1) : Int) ≤ (if keep < 0 then 0 else keep) then bas ss 0 else if keep ≤ 0 then bas ss (ss.length - 1) else wantTo ss (cnt ss (ss.length - 1) - keep) (ss.length - 1) := by
  unfold rs
  by_cases h : keep ≤ 0
  · rw [rsGo_low ss keep h]
    by_cases h0 : cnt ss (ss.length - 1) = 0
    · rw [if_pos h0, if_pos (by split <;> omega)]
    · rw [if_neg h0, if_neg (by split <;> omega), if_pos h]
  · rw [rsGo_high ss _ keep _ (by omega), if_neg (by omega : ¬ keep < 0), if_neg h]
end Go.Proofs.Qxb6600020aMods
