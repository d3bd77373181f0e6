import Derived.Test.Qxb6601005aModsBrk2
namespace Go.Proofs.Qxb6601005aMods
open Go.RowKit

theorem zbreak_at (b n c m : Nat) (f : Nat → Int) (w : World) (hm : n ≤ 2097152) (hnc : n ≤ c) (hb0 : b < w.heap.size) (hf : ∀ i, i < n → 0 ≤ f i ∧ f i ≤ 255) (hc : BytesAt w b 0 n f) (h6 : m < 6) (hy : Sfx f n (brks m)) (hn : ∀ j, j < m → ¬ Sfx f n (brks j)) :
    Calls Trym.prog 11 #[.slice (some ⟨b, 0, none⟩) n c] w fun e w' => e = .returned (.slice (some ⟨b, n - (brks m).length, none⟩) (brks m).length (c - (n - (brks m).length))) ∧ Below w.heap.size w w' := by
  have HC : Hid (Calls Trym.prog 19 #[.slice (some ⟨b, 0, none⟩) n c] w fun e w' => e = .returned (.slice (some ⟨b, n - (brks m).length, none⟩) (brks m).length (c - (n - (brks m).length))) ∧ Below w.heap.size w w') := break_at b n c m f w hm hnc hb0 hf hc h6 hy hn
  clear hf hc hy hn
  generalize (brks m).length = L at *
  go_enter Trym.func11, Trym.ntmps11
  go_wp2_with (go_at_call 19; refine HC.out.mono ?_; rintro e w' ⟨rfl, hb⟩)
  go_ret
  exact ⟨rfl, hb⟩

/-- the six breaks, as breakTokenB1 numbers them -/
def tok : Nat → List Int
  | 0 => [10] | 1 => [13, 10] | 2 => [13] | 3 => [194, 133] | 4 => [226, 128, 168] | _ => [226, 128, 169]

theorem new_cells (w : World) (cs : List Int) : ∀ i, i < cs.length → (w.alloc (.cells (cs.map (Value.int .u8)).toArray 5)).cell? ⟨w.heap.size, 0 + i, none⟩ = some (.int .u8 (cs.getD i 0)) := by
  intro i hi
  rw [Nat.zero_add, cell_of_row _ _ _ _ _ _ (heap_alloc_new w _)]
  simp [List.getD_eq_getElem?_getD, hi]
theorem below_new (w : World) (o : Obj) : Below w.heap.size w (w.alloc o) ∧ w.heap.size < (w.alloc o).heap.size := ⟨(Below.refl _ _).alloc (Nat.le_refl _) _, by simp⟩

set_option maxHeartbeats 400000 in
theorem tok0 (k : Int) (w : World) (h0 : 0 ≤ k) (h1 : k ≤ 255) (hr : k % 6 = 0) :
    Calls Trym.prog 16 #[.int .u8 k] w fun e w' => e = .returned (.slice (some ⟨w.heap.size, 0, none⟩) 1 1) ∧ (∀ i, i < 1 → w'.cell? ⟨w.heap.size, 0 + i, none⟩ = some (.int .u8 ((tok 0).getD i 0))) ∧ Below w.heap.size w w' ∧ w.heap.size < w'.heap.size := by
  go_enter Trym.func16, Trym.ntmps16
  go_wp2
  go_ret
  exact ⟨rfl, new_cells w (tok 0), below_new w _⟩
set_option maxHeartbeats 400000 in
theorem tok1 (k : Int) (w : World) (h0 : 0 ≤ k) (h1 : k ≤ 255) (hr : k % 6 = 1) :
    Calls Trym.prog 16 #[.int .u8 k] w fun e w' => e = .returned (.slice (some ⟨w.heap.size, 0, none⟩) 2 2) ∧ (∀ i, i < 2 → w'.cell? ⟨w.heap.size, 0 + i, none⟩ = some (.int .u8 ((tok 1).getD i 0))) ∧ Below w.heap.size w w' ∧ w.heap.size < w'.heap.size := by
  go_enter Trym.func16, Trym.ntmps16
  go_wp2
  go_ret
  exact ⟨rfl, new_cells w (tok 1), below_new w _⟩
set_option maxHeartbeats 400000 in
theorem tok2 (k : Int) (w : World) (h0 : 0 ≤ k) (h1 : k ≤ 255) (hr : k % 6 = 2) :
    Calls Trym.prog 16 #[.int .u8 k] w fun e w' => e = .returned (.slice (some ⟨w.heap.size, 0, none⟩) 1 1) ∧ (∀ i, i < 1 → w'.cell? ⟨w.heap.size, 0 + i, none⟩ = some (.int .u8 ((tok 2).getD i 0))) ∧ Below w.heap.size w w' ∧ w.heap.size < w'.heap.size := by
  go_enter Trym.func16, Trym.ntmps16
  go_wp2
  go_ret
  exact ⟨rfl, new_cells w (tok 2), below_new w _⟩
set_option maxHeartbeats 400000 in
theorem tok3 (k : Int) (w : World) (h0 : 0 ≤ k) (h1 : k ≤ 255) (hr : k % 6 = 3) :
    Calls Trym.prog 16 #[.int .u8 k] w fun e w' => e = .returned (.slice (some ⟨w.heap.size, 0, none⟩) 2 2) ∧ (∀ i, i < 2 → w'.cell? ⟨w.heap.size, 0 + i, none⟩ = some (.int .u8 ((tok 3).getD i 0))) ∧ Below w.heap.size w w' ∧ w.heap.size < w'.heap.size := by
  go_enter Trym.func16, Trym.ntmps16
  go_wp2
  go_ret
  exact ⟨rfl, new_cells w (tok 3), below_new w _⟩
set_option maxHeartbeats 400000 in
theorem tok4 (k : Int) (w : World) (h0 : 0 ≤ k) (h1 : k ≤ 255) (hr : k % 6 = 4) :
    Calls Trym.prog 16 #[.int .u8 k] w fun e w' => e = .returned (.slice (some ⟨w.heap.size, 0, none⟩) 3 3) ∧ (∀ i, i < 3 → w'.cell? ⟨w.heap.size, 0 + i, none⟩ = some (.int .u8 ((tok 4).getD i 0))) ∧ Below w.heap.size w w' ∧ w.heap.size < w'.heap.size := by
  go_enter Trym.func16, Trym.ntmps16
  go_wp2
  go_ret
  exact ⟨rfl, new_cells w (tok 4), below_new w _⟩
set_option maxHeartbeats 400000 in
theorem tok5 (k : Int) (w : World) (h0 : 0 ≤ k) (h1 : k ≤ 255) (hr : k % 6 = 5) :
    Calls Trym.prog 16 #[.int .u8 k] w fun e w' => e = .returned (.slice (some ⟨w.heap.size, 0, none⟩) 3 3) ∧ (∀ i, i < 3 → w'.cell? ⟨w.heap.size, 0 + i, none⟩ = some (.int .u8 ((tok 5).getD i 0))) ∧ Below w.heap.size w w' ∧ w.heap.size < w'.heap.size := by
  go_enter Trym.func16, Trym.ntmps16
  go_wp2
  go_ret
  exact ⟨rfl, new_cells w (tok 5), below_new w _⟩

theorem tok_any (k : Int) (r : Nat) (w : World) (h0 : 0 ≤ k) (h1 : k ≤ 255) (h6 : r < 6) (hr : k % 6 = r) :
    Calls Trym.prog 16 #[.int .u8 k] w fun e w' => e = .returned (.slice (some ⟨w.heap.size, 0, none⟩) (tok r).length (tok r).length) ∧ (∀ i, i < (tok r).length → w'.cell? ⟨w.heap.size, 0 + i, none⟩ = some (.int .u8 ((tok r).getD i 0))) ∧ Below w.heap.size w w' ∧ w.heap.size < w'.heap.size := by
  rcases (show r = 0 ∨ r = 1 ∨ r = 2 ∨ r = 3 ∨ r = 4 ∨ r = 5 by omega) with rfl | rfl | rfl | rfl | rfl | rfl
  · exact tok0 k w h0 h1 hr
  · exact tok1 k w h0 h1 hr
  · exact tok2 k w h0 h1 hr
  · exact tok3 k w h0 h1 hr
  · exact tok4 k w h0 h1 hr
  · exact tok5 k w h0 h1 hr

set_option maxHeartbeats 400000 in
theorem nobreak_some (b o n c : Nat) (f : Nat → Int) (w : World) (hm : n ≤ 1048576) (hnc : n ≤ c) (hc : BytesAt w b o n f) :
    Calls Trym.prog 15 #[.slice (some ⟨b, o, none⟩) n c] w fun e w' => (e = .returned (.bool false) ∨ e = .returned (.bool true) ∧ ∀ d, 1 ≤ d → d ≤ n → ¬ Eb f d) ∧ w = w' := by
  go_enter Trym.func15, Trym.ntmps15
  go_wp2
  go_loop [3] (fun si => ∃ k : Nat, 1 ≤ k ∧ k ≤ n + 1 ∧ si = .int .i64 k ∧ ∀ d, 1 ≤ d → d < k → ¬ Eb f d) (fun si => n + 1 - (intOf si).toNat)
  case atStart => exact ⟨1, by omega, by omega, rfl, fun d h1 h2 => by omega⟩
  case round =>
    obtain ⟨k, hk1, hk, rfl, hno⟩ := hrel
    by_cases hlt : k ≤ n
    · have HC : Hid (BytesAt w b o k f) := hc.take hlt
      clear hc
      by_cases he : Eb f k
      · go_wp2_with (go_at_call 18; refine (ends_yes b o k _ f _ hk1 (by omega) HC.out he).mono ?_; rintro e w' ⟨rfl, rfl⟩)
        go_ret
        exact ⟨.inl rfl, rfl⟩
      · have hno' : ∀ d, 1 ≤ d → d < k + 1 → ¬ Eb f d := fun d h1 h2 => by
          by_cases hd : d = k
          · subst hd; exact he
          · exact hno d h1 (by omega)
        go_wp2_with (go_at_call 18; refine (ends_no b o k _ f _ hk1 (by omega) HC.out he).mono ?_; rintro e w' ⟨rfl, rfl⟩)
        go_round
        case rel => exact ⟨k + 1, by omega, by omega, by go_num, hno'⟩
        case measure => simp [intOf]; omega
    · go_wp2
      go_ret
      exact ⟨.inr ⟨rfl, fun d h1 h2 => hno d h1 (by omega)⟩, rfl⟩

set_option maxHeartbeats 400000 in
theorem nobreak_zero (a : Option Addr) (c : Nat) (w : World) :
    Calls Trym.prog 15 #[.slice a 0 c] w fun e w' => e = .returned (.bool true) ∧ w = w' := by
  go_enter Trym.func15, Trym.ntmps15
  go_wp2
  go_loop [3] (fun si => si = .int .i64 1) (fun _ => 0)
  case atStart => rfl
  case round =>
    subst hrel
    go_wp2
    go_ret
    exact ⟨rfl, rfl⟩

set_option maxHeartbeats 400000 in
theorem same_yes (b1 o1 c1 b2 o2 c2 L : Nat) (f : Nat → Int) (w : World) (hL : L ≤ 1048576) (h1 : BytesAt w b1 o1 L f) (h2 : BytesAt w b2 o2 L f) :
    Calls Trym.prog 13 #[.slice (some ⟨b1, o1, none⟩) L c1, .slice (some ⟨b2, o2, none⟩) L c2] w fun e w' => e = .returned (.bool true) ∧ Below w.heap.size w w' := by
  go_enter Trym.func13, Trym.ntmps13
  go_wp2
  go_loopw [5] (fun si wr => ∃ k : Nat, k ≤ L ∧ si = .int .i64 k ∧ BytesAt wr b1 o1 L f ∧ BytesAt wr b2 o2 L f ∧ Below w.heap.size w wr) (fun si _ => L - (intOf si).toNat)
  case atStart => exact ⟨0, Nat.zero_le _, rfl, h1, h2, Below.refl _ _⟩
  case round =>
    obtain ⟨k, hk, rfl, g1, g2, hb⟩ := hrel
    by_cases hlt : k < L
    · have d1 := g1 k hlt
      have d2 := g2 k hlt
      go_wp2
      go_region
      all_goals go_wp2
      all_goals go_roundw
      case rel => exact ⟨k + 1, by omega, by go_num, fun i hi => g1 i hi, fun i hi => g2 i hi, hb.drew⟩
      case measure => simp [intOf]; omega
    · go_wp2
      go_ret
      exact ⟨rfl, hb⟩

set_option maxHeartbeats 400000 in
theorem bytesB_yes (a0 : Option Addr) (len0 cap0 : Nat) (a1 : Option Addr) (len1 cap1 : Nat) (k : Int) (w : World) (h : len0 + len1 ≤ 1048576) :
    Calls Trym.prog 14 #[.slice a0 len0 cap0, .int .u8 k, .slice a1 len1 cap1] w fun e w' => e = .returned (.bool true) ∧ w = w' := by
  go_enter Trym.func14, Trym.ntmps14
  go_wp2
  go_ret
  exact ⟨rfl, rfl⟩

set_option maxHeartbeats 400000 in
theorem bytesB_no (a0 : Option Addr) (len0 cap0 : Nat) (a1 : Option Addr) (len1 cap1 : Nat) (k : Int) (w : World) (h : ¬ len0 + len1 ≤ 1048576) (h0 : len0 ≤ maxLen) (h1 : len1 ≤ maxLen) :
    Calls Trym.prog 14 #[.slice a0 len0 cap0, .int .u8 k, .slice a1 len1 cap1] w fun e w' => e = .returned (.bool false) ∧ w = w' := by
  unfold maxLen at h0 h1
  by_cases c0 : 1048576 < len0
  · go_enter Trym.func14, Trym.ntmps14
    go_wp2
    go_ret
    exact ⟨rfl, rfl⟩
  · by_cases c1 : 1048576 < len1
    · go_enter Trym.func14, Trym.ntmps14
      go_wp2
      go_ret
      exact ⟨rfl, rfl⟩
    · go_enter Trym.func14, Trym.ntmps14
      go_wp2
      go_ret
      exact ⟨rfl, rfl⟩
end Go.Proofs.Qxb6601005aMods
