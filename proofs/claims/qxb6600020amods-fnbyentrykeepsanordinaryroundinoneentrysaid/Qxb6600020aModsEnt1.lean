import Derived.Test.Qxb6600020aModsRows
import Derived.WalkKit
import Derived.WalkSpells
import Derived.WalkLawsBesides
namespace Go.Proofs.Qxb6600020aMods
open Go.RowKit

theorem ret_boolE {a b : Bool} (h : a = b) : Ending.returned (.bool a) = .returned (.bool b) := by rw [h]

/-- the sum of the first k strings' lengths, c more for each -/
def sumTo (f : Nat → ByteArray) (c : Nat) : Nat → Nat
  | 0 => 0
  | k + 1 => sumTo f c k + (c + (f k).size)

/-- zzBytes: it says yes only where each string is at most 2^20 bytes long. -/
def Small (f : Nat → ByteArray) (n : Nat) : Prop := ∀ i, i < n → (f i).size ≤ 1048576

set_option maxHeartbeats 400000 in
theorem bytesE_some (b o n c : Nat) (f : Nat → ByteArray) (w : World) (hm : n ≤ maxLen) (hf : ∀ i, i < n → (f i).size ≤ maxLen) (hc : ∀ i, i < n → w.cell? ⟨b, o + i, none⟩ = some (.string (f i))) :
    Calls Trym.prog 10 #[.slice (some ⟨b, o, none⟩) n c] w fun e w' => (e = .returned (.bool false) ∨ (e = .returned (.bool true) ∧ Small f n)) ∧ w = w' := by
  unfold maxLen at hm hf
  by_cases h0 : 1048576 < n
  · go_enter Trym.func10, Trym.ntmps10
    go_wp2
    go_ret
    exact ⟨.inl rfl, rfl⟩
  · have t0 : decide ((1048576 : Int) < (n : Int)) = false := decide_eq_false (by omega)
    go_enter Trym.func10, Trym.ntmps10
    go_wp2
    go_loop [3, 4] (fun sz si => ∃ k z : Nat, k ≤ n ∧ si = .int .i64 k ∧ sz = .int .i64 z ∧ z ≤ 1048576 ∧ Small f k) (fun _ si => n - (intOf si).toNat)
    case atStart => exact ⟨0, n, Nat.zero_le _, rfl, rfl, by omega, fun i hi => by omega⟩
    case round =>
      obtain ⟨k, z, hk, rfl, rfl, hz, hsm⟩ := hrel
      by_cases hlt : k < n
      · have hck := hc k hlt
        have hfk := hf k hlt
        by_cases h1 : 1048576 < (f k).size
        · go_wp2
          go_ret
          exact ⟨.inl rfl, rfl⟩
        · have hsm' : Small f (k + 1) := fun i hi => by
            by_cases he : i = k
            · subst he; omega
            · exact hsm i (by omega)
          by_cases h2 : 1048576 < z + (f k).size
          · go_wp2
            go_ret
            exact ⟨.inl rfl, rfl⟩
          · go_wp2
            go_round
            case rel => exact ⟨k + 1, z + (f k).size, by omega, by go_num, by go_num, by omega, hsm'⟩
            case measure => simp [intOf]; omega
      · have hkn : Hid (k = n) := by unfold Hid; omega
        go_wp2
        go_ret
        exact ⟨.inr ⟨rfl, by rw [← hkn.out]; exact hsm⟩, rfl⟩

set_option maxHeartbeats 400000 in
theorem bytesE_zero (a : Option Addr) (c : Nat) (w : World) :
    Calls Trym.prog 10 #[.slice a 0 c] w fun e w' => e = .returned (.bool true) ∧ w = w' := by
  go_enter Trym.func10, Trym.ntmps10
  go_wp2
  go_loop [3, 4] (fun sz si => si = .int .i64 0 ∧ sz = .int .i64 0) (fun _ si => 0)
  case atStart => exact ⟨rfl, rfl⟩
  case round =>
    obtain ⟨rfl, rfl⟩ := hrel
    go_wp2
    go_ret
    exact ⟨rfl, rfl⟩
end Go.Proofs.Qxb6600020aMods
