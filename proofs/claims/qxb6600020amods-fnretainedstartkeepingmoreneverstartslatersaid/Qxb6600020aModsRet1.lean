import Derived.Test.Qxb6600020aModsRows
import Derived.WalkKit
import Derived.WalkSpells
import Derived.WalkLawsBesides
namespace Go.Proofs.Qxb6600020aMods
open Go.RowKit

theorem ret_int {k : IntKind} {a b : Int} (h : a = b) : Ending.returned (.int k a) = .returned (.int k b) := by rw [h]
theorem ret_bool {a b : Bool} (h : a = b) : Ending.returned (.bool a) = .returned (.bool b) := by rw [h]

/-- a segment as a value -/
def segV (b l : Int) : Value := .agg #[.int .i64 b, .int .i32 0, .int .i32 0, .int .i64 l, .bool false]

set_option maxHeartbeats 400000 in
theorem leased_any (b l : Int) (w : World) :
    Calls Trym.prog 16 #[segV b l] w fun e w' => e = .returned (.bool (decide (b < l))) ∧ Below w.heap.size w w' ∧ w.heap.size ≤ w'.heap.size := by
  unfold segV
  go_enter Trym.func16, Trym.ntmps16
  go_wp2
  go_ret
  exact ⟨rfl, (Below.refl _ _).alloc (Nat.le_refl _) _, by simp⟩

theorem leased_yes (b l : Int) (w : World) (h : b < l) :
    Calls Trym.prog 16 #[segV b l] w fun e w' => e = .returned (.bool true) ∧ Below w.heap.size w w' ∧ w.heap.size ≤ w'.heap.size :=
  (leased_any b l w).mono fun e w' ⟨h1, h2⟩ => ⟨by rw [h1, decide_eq_true h], h2⟩
theorem leased_no (b l : Int) (w : World) (h : ¬ b < l) :
    Calls Trym.prog 16 #[segV b l] w fun e w' => e = .returned (.bool false) ∧ Below w.heap.size w w' ∧ w.heap.size ≤ w'.heap.size :=
  (leased_any b l w).mono fun e w' ⟨h1, h2⟩ => ⟨by rw [h1, decide_eq_false h], h2⟩

-- zzBytes of the two laws over segments: whether the lengths sum to at most 2^20
set_option maxHeartbeats 400000 in
theorem bytesM_yes (a0 : Option Addr) (len0 cap0 : Nat) (a1 : Option Addr) (len1 cap1 : Nat) (k : Int) (w : World) (h : len0 + len1 ≤ 1048576) :
    Calls Trym.prog 13 #[.slice a0 len0 cap0, .slice a1 len1 cap1, .int .i64 k] w fun e w' => e = .returned (.bool true) ∧ w = w' := by
  go_enter Trym.func13, Trym.ntmps13
  go_wp2
  go_ret
  exact ⟨rfl, rfl⟩

set_option maxHeartbeats 400000 in
theorem bytesM_no (a0 : Option Addr) (len0 cap0 : Nat) (a1 : Option Addr) (len1 cap1 : Nat) (k : Int) (w : World) (h : ¬ len0 + len1 ≤ 1048576) (h0 : len0 ≤ maxLen) (h1 : len1 ≤ maxLen) :
    Calls Trym.prog 13 #[.slice a0 len0 cap0, .slice a1 len1 cap1, .int .i64 k] w fun e w' => e = .returned (.bool false) ∧ w = w' := by
  unfold maxLen at h0 h1
  by_cases c0 : 1048576 < len0
  · go_enter Trym.func13, Trym.ntmps13
    go_wp2
    go_ret
    exact ⟨rfl, rfl⟩
  · by_cases c1 : 1048576 < len1
    · go_enter Trym.func13, Trym.ntmps13
      go_wp2
      go_ret
      exact ⟨rfl, rfl⟩
    · go_enter Trym.func13, Trym.ntmps13
      go_wp2
      go_ret
      exact ⟨rfl, rfl⟩
end Go.Proofs.Qxb6600020aMods
