import Derived.Test.Qxb6600020aModsEnt2
namespace Go.Proofs.Qxb6600020aMods
open Go.RowKit

theorem sumTo_mono (f : Nat → ByteArray) (c : Nat) {j k : Nat} (h : j ≤ k) : sumTo f c j ≤ sumTo f c k := by
  induction k with
  | zero => rw [show j = 0 by omega]; exact Nat.le_refl _
  | succ k ih =>
    by_cases he : j = k + 1
    · rw [he]; exact Nat.le_refl _
    · exact Nat.le_trans (ih (by omega)) (by rw [sumTo]; omega)
theorem sumTo_le (f : Nat → ByteArray) (c : Nat) : ∀ k, sumTo f 0 k ≤ sumTo f c k
  | 0 => Nat.le_refl _
  | k + 1 => by have := sumTo_le f c k; unfold sumTo; omega

theorem own_one {w : World} {base : Nat} {e : TypeId} {v x : Value} (h : w.ownsRow base e 1 v 1 [x]) : ∃ r c, v = .slice (some ⟨r, 0, none⟩) 1 c ∧ w.cell? ⟨r, 0, none⟩ = some x := by
  rcases h.2 with ⟨_, h0⟩ | ⟨g, cap, cur, hv, _⟩
  · omega
  · subst hv
    exact ⟨g, cap, rfl, by rw [h.cellAt 0 (by omega)]; rfl⟩

set_option maxHeartbeats 400000 in
theorem byEntry_zero (a : Option Addr) (c : Nat) (w : World) :
    Calls Trym.prog 25 #[.slice a 0 c] w fun e w' => e = .returned (.slice none 0 0) ∧ w = w' := by
  go_enter Trym.func25, Trym.ntmps25
  go_wp2
  go_loop [3, 4, 5, 10] (fun sr sa sz si => sr = .slice none 0 0 ∧ sa = .int .i64 0 ∧ sz = .int .i64 0 ∧ si = .int .i64 0) (fun _ _ _ _ => 0)
  case atStart => exact ⟨rfl, rfl, rfl, rfl⟩
  case round =>
    obtain ⟨rfl, rfl, rfl, rfl⟩ := hrel
    go_wp2
    go_ret
    exact ⟨rfl, rfl⟩

set_option maxHeartbeats 400000 in
theorem byEntry_some (g n : Nat) (f : Nat → ByteArray) (w : World) (h1 : 1 ≤ n) (h2 : n ≤ 65536) (hs : sumTo f 0 n ≤ 1048576) (hc : StrsAt w g n f) :
    Calls Trym.prog 25 #[.slice (some ⟨g, 0, none⟩) n n] w fun e w' => (∃ r c, e = .returned (.slice (some ⟨r, 0, none⟩) 1 c) ∧ w'.cell? ⟨r, 0, none⟩ = some (.slice (some ⟨g, 0, none⟩) n n)) ∧ Below w.heap.size w w' := by
  obtain ⟨i0, hi, hz0, hz1, hz2⟩ := info_parts info22
  go_enter Trym.func25, Trym.ntmps25
  go_wp2
  go_loop [3, 4, 5, 10] (fun sr sa ss si => ∃ k : Nat, k ≤ n ∧ si = .int .i64 k ∧ ss = .int .i64 (sumTo f 0 k) ∧ sr = .slice none 0 0 ∧ sa = .int .i64 0) (fun _ _ _ si => n - (intOf si).toNat)
  case atStart => exact ⟨0, Nat.zero_le _, rfl, rfl, rfl, rfl⟩
  case round =>
    obtain ⟨k, hk, rfl, rfl, rfl, rfl⟩ := hrel
    by_cases hlt : k < n
    · have g0 := hc k hlt
      have hsk : sumTo f 0 k + (f k).size ≤ 1048576 := by
        have := sumTo_mono f 0 (show k + 1 ≤ n by omega)
        rw [sumTo] at this; omega
      have HE : Hid (sumTo f 0 (k + 1) = sumTo f 0 k + (f k).size) := by unfold Hid; rw [sumTo]; omega
      by_cases h0 : 0 < k
      · go_wp2
        go_round
        case rel => exact ⟨k + 1, by omega, by go_num, by rw [HE.out]; go_num, rfl, rfl⟩
        case measure => simp [intOf]; omega
      · go_wp2
        go_round
        case rel => exact ⟨k + 1, by omega, by go_num, by rw [HE.out]; go_num, rfl, rfl⟩
        case measure => simp [intOf]; omega
    · have hpos : (0 : Int) < (n : Int) := by omega
      go_wp2_with (at_builtin; refine wpList_append_own _ rfl (.tmp 42) (.tmp 46) 25 rfl w.heap.size 22 i0 (.slice none 0 0) 1 24 Trym.underlying25 hi hz0 hz1 hz2 rfl (by decide) _ 0 [] rfl (World.ownsRow_nil _ _ _ _) ⟨w.heap.size, 0, none⟩ 1 1 [.slice (some ⟨g, 0, none⟩) n n] rfl rfl ?c1 ?c2 ?c3 ?c4 ?c5 ?_)
      case c2 => first | rfl | (intro u hu; simp at hu; subst hu; rfl)
      case c3 => unfold maxLen; omega
      intro v' w1 hown hgrow _
      have hex := own_one hown
      have hbel : Below w.heap.size w w1 := ((Below.refl w.heap.size w).alloc (Nat.le_refl _) _).grown hgrow (by simp) (fun k hk => by cases hk)
      clear hown hgrow
      obtain ⟨r, c, hv, hcell⟩ := hex
      rw [hv]
      go_wp2
      go_ret
      exact ⟨⟨r, c, rfl, hcell⟩, hbel⟩
end Go.Proofs.Qxb6600020aMods
