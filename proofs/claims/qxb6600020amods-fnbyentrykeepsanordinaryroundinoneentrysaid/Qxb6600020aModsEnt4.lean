import Derived.Test.Qxb6600020aModsEnt3
namespace Go.Proofs.Qxb6600020aMods
open Go.RowKit

theorem zby_zero (a : Option Addr) (c : Nat) (w : World) :
    Calls Trym.prog 12 #[.slice a 0 c] w fun e w' => e = .returned (.slice none 0 0) ∧ w = w' := by
  go_enter Trym.func12, Trym.ntmps12
  go_wp2_with (go_at_call 25; refine (byEntry_zero _ _ _).mono ?_; rintro e w' ⟨rfl, rfl⟩)
  go_ret
  exact ⟨rfl, rfl⟩

theorem zby_some (g n : Nat) (f : Nat → ByteArray) (w : World) (h1 : 1 ≤ n) (h2 : n ≤ 65536) (hs : sumTo f 0 n ≤ 1048576) (hc : StrsAt w g n f) :
    Calls Trym.prog 12 #[.slice (some ⟨g, 0, none⟩) n n] w fun e w' => (∃ r c, e = .returned (.slice (some ⟨r, 0, none⟩) 1 c) ∧ w'.cell? ⟨r, 0, none⟩ = some (.slice (some ⟨g, 0, none⟩) n n)) ∧ Below w.heap.size w w' := by
  go_enter Trym.func12, Trym.ntmps12
  go_wp2_with (go_at_call 25; refine (byEntry_some g n f _ h1 h2 hs hc).mono ?_; rintro e w' ⟨⟨r, c, rfl, hcell⟩, hb⟩)
  go_ret
  exact ⟨⟨r, c, rfl, hcell⟩, hb⟩

set_option maxHeartbeats 400000 in
theorem ent_nil (w : World) : Calls Trym.prog 3 #[.slice none 0 0] w fun e w' => e = .returned (.bool true) ∧ Below w.heap.size w w' := by
  go_enter Trym.func3, Trym.ntmps3
  go_wp2_with (go_at_call 10; refine (bytesE_zero _ _ _).mono ?_; rintro e w' ⟨rfl, rfl⟩)
  go_loop [3, 4] (fun st si => st = .int .i64 0 ∧ si = .int .i64 0) (fun _ _ => 0)
  case atStart => exact ⟨rfl, rfl⟩
  case round =>
    obtain ⟨rfl, rfl⟩ := hrel
    go_wp2_with (first | (go_at_call 11; refine (clone_nil _).mono ?_; rintro e w' ⟨rfl, rfl⟩) | (go_at_call 12; refine (zby_zero _ _ _).mono ?_; rintro e w' ⟨rfl, rfl⟩))
    go_ret
    exact ⟨rfl, Below.refl _ _⟩

set_option maxHeartbeats 400000 in
theorem ent_zero (a : Addr) (c : Nat) (w : World) : Calls Trym.prog 3 #[.slice (some a) 0 c] w fun e w' => e = .returned (.bool true) ∧ Below w.heap.size w w' := by
  go_enter Trym.func3, Trym.ntmps3
  go_wp2_with (go_at_call 10; refine (bytesE_zero _ _ _).mono ?_; rintro e w' ⟨rfl, rfl⟩)
  go_loop [3, 4] (fun st si => st = .int .i64 0 ∧ si = .int .i64 0) (fun _ _ => 0)
  case atStart => exact ⟨rfl, rfl⟩
  case round =>
    obtain ⟨rfl, rfl⟩ := hrel
    go_wp2_with (first | (go_at_call 11; refine (clone_zero _ _ _).mono ?_; rintro e w1 ⟨rfl, hb1⟩) | (go_at_call 12; refine (zby_zero _ _ _).mono ?_; rintro e w' ⟨rfl, rfl⟩))
    go_ret
    exact ⟨rfl, hb1⟩

set_option maxHeartbeats 400000 in
theorem ent_large (b o n c : Nat) (f : Nat → ByteArray) (w : World) (h1 : 65536 < n) (hm : n ≤ maxLen) (hf : ∀ i, i < n → (f i).size ≤ maxLen) (hc : ∀ i, i < n → w.cell? ⟨b, o + i, none⟩ = some (.string (f i))) :
    Calls Trym.prog 3 #[.slice (some ⟨b, o, none⟩) n c] w fun e w' => e = .returned (.bool true) ∧ Below w.heap.size w w' := by
  have HC := bytesE_some b o n c f w hm hf hc
  have HH : Hid (Calls Trym.prog 10 #[.slice (some ⟨b, o, none⟩) n c] w fun e w' => (e = .returned (.bool false) ∨ (e = .returned (.bool true) ∧ Small f n)) ∧ w = w') := HC
  clear HC hc hf
  go_enter Trym.func3, Trym.ntmps3
  go_wp2_with fail
  refine HH.out.mono ?_
  rintro e w' ⟨h, rfl⟩
  rcases h with rfl | ⟨rfl, _⟩
  · go_wp2
    go_ret
    exact ⟨rfl, Below.refl _ _⟩
  · go_wp2
    go_ret
    exact ⟨rfl, Below.refl _ _⟩

set_option maxHeartbeats 1000000 in
theorem ent_main (b o n c : Nat) (f : Nat → ByteArray) (w : World) (h1 : 1 ≤ n) (h2 : n ≤ 65536) (hb0 : b < w.heap.size) (hf : ∀ i, i < n → (f i).size ≤ maxLen) (hc : ∀ i, i < n → w.cell? ⟨b, o + i, none⟩ = some (.string (f i))) :
    Calls Trym.prog 3 #[.slice (some ⟨b, o, none⟩) n c] w fun e w' => e = .returned (.bool true) ∧ Below w.heap.size w w' := by
  have HH : Hid (Calls Trym.prog 10 #[.slice (some ⟨b, o, none⟩) n c] w fun e w' => (e = .returned (.bool false) ∨ (e = .returned (.bool true) ∧ Small f n)) ∧ w = w') := bytesE_some b o n c f w (by unfold maxLen; omega) hf hc
  have HCL : Hid (Calls Trym.prog 11 #[.slice (some ⟨b, o, none⟩) n c] w fun e w' => e = .returned (.slice (some ⟨w.heap.size, 0, none⟩) n n) ∧ StrsAt w' w.heap.size n f ∧ w.heap.size < w'.heap.size ∧ Below w.heap.size w w') := clone_some b o n c f w h2 hb0 hc
  have t3 : decide ((65536 : Int) < (n : Int)) = false := decide_eq_false (by omega)
  have t4 : ((n : Int) == 0) = false := beq_eq_false_iff_ne.2 (by omega)
  clear hf
  go_enter Trym.func3, Trym.ntmps3
  go_wp2_with fail
  refine HH.out.mono ?_
  rintro e w' ⟨h, rfl⟩
  rcases h with rfl | ⟨rfl, hsm⟩
  · go_wp2
    go_ret
    exact ⟨rfl, Below.refl _ _⟩
  · go_wp2
    go_loop [3, 4] (fun st si => ∃ k : Nat, k ≤ n ∧ si = .int .i64 k ∧ st = .int .i64 (sumTo f 16 k) ∧ sumTo f 16 k ≤ 1048576) (fun _ si => n - (intOf si).toNat)
    case atStart => exact ⟨0, Nat.zero_le _, rfl, rfl, Nat.zero_le _⟩
    case round =>
      obtain ⟨k, hk, rfl, rfl, hle⟩ := hrel
      by_cases hlt : k < n
      · have g0 := hc k hlt
        have hfk := hsm k hlt
        have HE : Hid (sumTo f 16 (k + 1) = sumTo f 16 k + (16 + (f k).size)) := by unfold Hid; rw [sumTo]
        clear hc
        by_cases hgt : 1048576 < sumTo f 16 k + (16 + (f k).size)
        · go_wp2
          go_ret
          exact ⟨rfl, Below.refl _ _⟩
        · go_wp2
          go_round
          case rel => exact ⟨k + 1, by omega, by go_num, by rw [HE.out]; go_num, by rw [HE.out]; omega⟩
          case measure => simp [intOf]; omega
      · have hsum : sumTo f 0 n ≤ 1048576 := by
          have := sumTo_le f 16 n
          have := sumTo_mono f 16 (show n ≤ k by omega)
          omega
        clear hc hsm
        go_wp2_with fail
        refine HCL.out.mono ?_
        rintro e w1 ⟨rfl, hs1, hz1, hb1⟩
        go_wp2_with fail
        refine (zby_some _ n f _ h1 h2 hsum hs1).mono ?_
        rintro e w2 ⟨⟨r, cr, rfl, hcr⟩, hb2⟩
        have hs2 : StrsAt w2 w.heap.size n f := hs1.below hb2 hz1
        have hbw : Below w.heap.size w w2 := hb1.trans (hb2.mono (by omega))
        clear hs1 hb1 hb2
        go_wp2
        go_loopw [7] (fun si wr => ∃ j : Nat, j ≤ n ∧ si = .int .i64 j ∧ StrsAt wr w.heap.size n f ∧ Below w.heap.size w wr) (fun si _ => n - (intOf si).toNat)
        case atStart => exact ⟨0, Nat.zero_le _, rfl, hs2, hbw⟩
        case round =>
          obtain ⟨j, hj, rfl, hsr, hbr⟩ := hrel
          by_cases hjn : j < n
          · have g0 := hsr j hjn
            go_wp2
            go_region
            all_goals go_wp2
            all_goals go_roundw
            case rel => exact ⟨j + 1, by omega, by go_num, fun i hi => hsr i hi, hbr.drew⟩
            case measure => simp [intOf]; omega
          · go_wp2
            go_ret
            exact ⟨rfl, hbr⟩
end Go.Proofs.Qxb6600020aMods
