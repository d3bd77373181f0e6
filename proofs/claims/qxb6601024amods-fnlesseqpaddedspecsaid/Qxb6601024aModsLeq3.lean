import Derived.Test.Qxb6601024aModsLeq2
namespace Go.Proofs.Qxb6601024aMods
open Go.RowKit

/-! ### THE PLAIN LAWS -/
theorem pt_nonneg {f : Nat → Int} {n : Nat} (h : ∀ i, i < n → 0 ≤ f i) (i : Nat) : 0 ≤ pt f n i := by
  unfold pt; split
  · exact h i (by assumption)
  · exact Int.le_refl _
theorem le_padded {f g : Nat → Int} {n m : Nat} (hf : ∀ i, i < n → 0 ≤ f i) (hg : ∀ i, i < m → 0 ≤ g i) : LeP f n g m ↔ ∀ j, j < max n m → pt f n j ≤ pt g m j := by
  constructor
  · intro h j hj
    by_cases hn : j < n
    · have hp := pt_nonneg hg j
      rcases h j hn with h0 | ⟨h1, h2⟩
      · have : pt f n j = 0 := by unfold pt; rw [if_pos hn, h0]
        omega
      · unfold pt; rw [if_pos hn, if_pos h1]; exact h2
    · have hp := pt_nonneg hg j
      have : pt f n j = 0 := by unfold pt; rw [if_neg hn]
      omega
  · intro h j hj
    have h1 := h j (by omega)
    have h2 := hf j hj
    have h3 : pt f n j = f j := by unfold pt; rw [if_pos hj]
    by_cases hm : j < m
    · have h4 : pt g m j = g j := by unfold pt; rw [if_pos hm]
      exact .inr ⟨hm, by omega⟩
    · have h4 : pt g m j = 0 := by unfold pt; rw [if_neg hm]
      exact .inl (by omega)
theorem le_refl' (f : Nat → Int) (n : Nat) : LeP f n f n := fun _ hj => .inr ⟨hj, Int.le_refl _⟩
theorem le_trans' {f g h : Nat → Int} {n m l : Nat} (hf : ∀ i, i < n → 0 ≤ f i) (h1 : LeP f n g m) (h2 : LeP g m h l) : LeP f n h l := by
  intro j hj
  have h0 := hf j hj
  rcases h1 j hj with q | ⟨q1, q2⟩
  · exact .inl q
  · rcases h2 j q1 with r | ⟨r1, r2⟩
    · exact .inl (by omega)
    · exact .inr ⟨r1, by omega⟩
def SameP (f : Nat → Int) (n : Nat) (g : Nat → Int) (m : Nat) : Prop := ∀ j, j < max n m → pt f n j = pt g m j
theorem le_anti {f g : Nat → Int} {n m : Nat} (hf : ∀ i, i < n → 0 ≤ f i) (hg : ∀ i, i < m → 0 ≤ g i) : (LeP f n g m ∧ LeP g m f n) ↔ SameP f n g m := by
  rw [le_padded hf hg, le_padded hg hf]
  constructor
  · rintro ⟨h1, h2⟩ j hj
    have a := h1 j hj
    have b := h2 j (by omega)
    omega
  · intro h
    exact ⟨fun j hj => by have := h j hj; omega, fun j hj => by have := h j (by omega); omega⟩

/-! ### THE WALKS -/
set_option maxHeartbeats 1000000 in
theorem same_any (a : Option Addr) (n c : Nat) (f : Nat → Int) (b : Option Addr) (m d : Nat) (g : Nat → Int) (w : World) (h1 : Wd w a n f) (h2 : Wd w b m g) :
    Calls Trym.prog 16 #[.slice a n c, .slice b m d] w fun e w' => (e = .returned (.bool true) ∧ SameP f n g m ∨ e = .returned (.bool false) ∧ ¬ SameP f n g m) ∧ w = w' := by
  have W1 : Hid (Wd w a n f) := h1
  have W2 : Hid (Wd w b m g) := h2
  have hn := h1.1
  have hm := h2.1
  obtain ⟨N, hN⟩ : ∃ N, N = max n m := ⟨_, rfl⟩
  have HN : Hid (N = max n m) := hN
  have hNb : N ≤ 1048576 := by omega
  have HL : Hid (Calls Trym.prog 11 #[.int .i64 n, .int .i64 m] w fun e w' => e = .returned (.int .i64 N) ∧ w = w') := by rw [hN]; exact longer_any n m w
  clear h1 h2 hN
  go_enter Trym.func16, Trym.ntmps16
  go_wp2_with fail
  refine HL.out.mono ?_
  rintro e w' ⟨rfl, rfl⟩
  go_wp2
  go_loop [6] (fun si => ∃ k : Nat, k ≤ N ∧ si = .int .i64 k ∧ ∀ j, j < k → pt f n j = pt g m j) (fun si => N - (intOf si).toNat)
  case atStart => exact ⟨0, Nat.zero_le _, rfl, fun j hj => by omega⟩
  case round =>
    obtain ⟨k, hk, rfl, hno⟩ := hrel
    by_cases hlt : k < N
    · have P1 : Hid (Calls Trym.prog 12 #[.slice a n c, .int .i64 k] w fun e w' => e = .returned (.int .u64 (pt f n k)) ∧ w = w') := part_any a n c k f w W1.out
      have P2 : Hid (Calls Trym.prog 12 #[.slice b m d, .int .i64 k] w fun e w' => e = .returned (.int .u64 (pt g m k)) ∧ w = w') := part_any b m d k g w W2.out
      have HO : Hid (∀ j, j < k → pt f n j = pt g m j) := hno
      clear hno
      by_cases he : pt f n k = pt g m k
      · have e1 : (pt f n k != pt g m k) = false := by rw [bne_eq_false_iff_eq]; exact he
        have hno' : Hid (∀ j, j < k + 1 → pt f n j = pt g m j) := fun j hj => by
          by_cases hjk : j = k
          · subst hjk; exact he
          · exact HO.out j (by omega)
        clear he
        go_wp2_with fail
        refine P1.out.mono ?_
        rintro e w' ⟨rfl, rfl⟩
        go_wp2_with fail
        refine P2.out.mono ?_
        rintro e w' ⟨rfl, rfl⟩
        go_wp2
        go_round
        case rel => exact ⟨k + 1, by omega, by go_num, hno'.out⟩
        case measure => simp [intOf]; omega
      · have e1 : (pt f n k != pt g m k) = true := by rw [bne_iff_ne]; exact he
        have HB : Hid (¬ SameP f n g m) := fun h => he (h k (by have := HN.out; omega))
        clear he
        go_wp2_with fail
        refine P1.out.mono ?_
        rintro e w' ⟨rfl, rfl⟩
        go_wp2_with fail
        refine P2.out.mono ?_
        rintro e w' ⟨rfl, rfl⟩
        go_wp2
        go_ret
        exact ⟨.inr ⟨rfl, HB.out⟩, rfl⟩
    · have HB : Hid (SameP f n g m) := fun j hj => hno j (by have := HN.out; omega)
      clear hno
      go_wp2
      go_ret
      exact ⟨.inl ⟨rfl, HB.out⟩, rfl⟩

set_option maxHeartbeats 400000 in
theorem bytesP_yes (a0 : Option Addr) (len0 cap0 : Nat) (a1 : Option Addr) (len1 cap1 : Nat) (w : World) (h : len0 + len1 ≤ 1048576) :
    Calls Trym.prog 9 #[.slice a0 len0 cap0, .slice a1 len1 cap1] w fun e w' => e = .returned (.bool true) ∧ w = w' := by
  go_enter Trym.func9, Trym.ntmps9
  go_wp2
  go_ret
  exact ⟨rfl, rfl⟩

set_option maxHeartbeats 400000 in
theorem bytesP_no (a0 : Option Addr) (len0 cap0 : Nat) (a1 : Option Addr) (len1 cap1 : Nat) (w : World) (h : ¬ len0 + len1 ≤ 1048576) (h0 : len0 ≤ maxLen) (h1 : len1 ≤ maxLen) :
    Calls Trym.prog 9 #[.slice a0 len0 cap0, .slice a1 len1 cap1] w fun e w' => e = .returned (.bool false) ∧ w = w' := by
  unfold maxLen at h0 h1
  by_cases c0 : 1048576 < len0
  · go_enter Trym.func9, Trym.ntmps9
    go_wp2
    go_ret
    exact ⟨rfl, rfl⟩
  · by_cases c1 : 1048576 < len1
    · go_enter Trym.func9, Trym.ntmps9
      go_wp2
      go_ret
      exact ⟨rfl, rfl⟩
    · go_enter Trym.func9, Trym.ntmps9
      go_wp2
      go_ret
      exact ⟨rfl, rfl⟩

set_option maxHeartbeats 400000 in
theorem pad_early (a0 : Option Addr) (n c : Nat) (a1 : Option Addr) (m d : Nat) (w : World) (m0 : n ≤ maxLen) (m1 : m ≤ maxLen) (h : ¬ n + m ≤ 131072) :
    Calls Trym.prog 3 #[.slice a0 n c, .slice a1 m d] w fun e w' => e = .returned (.bool true) ∧ Below w.heap.size w w' := by
  by_cases c0 : n + m ≤ 1048576
  · by_cases c1 : 131072 < n
    · go_enter Trym.func3, Trym.ntmps3
      go_wp2_with (go_at_call 9; refine (bytesP_yes _ _ _ _ _ _ _ c0).mono ?_; rintro e w' ⟨rfl, rfl⟩)
      go_ret
      exact ⟨rfl, Below.refl _ _⟩
    · by_cases c2 : 131072 < m
      · go_enter Trym.func3, Trym.ntmps3
        go_wp2_with (go_at_call 9; refine (bytesP_yes _ _ _ _ _ _ _ c0).mono ?_; rintro e w' ⟨rfl, rfl⟩)
        go_ret
        exact ⟨rfl, Below.refl _ _⟩
      · go_enter Trym.func3, Trym.ntmps3
        go_wp2_with (go_at_call 9; refine (bytesP_yes _ _ _ _ _ _ _ c0).mono ?_; rintro e w' ⟨rfl, rfl⟩)
        go_ret
        exact ⟨rfl, Below.refl _ _⟩
  · go_enter Trym.func3, Trym.ntmps3
    go_wp2_with (go_at_call 9; refine (bytesP_no _ _ _ _ _ _ _ c0 m0 m1).mono ?_; rintro e w' ⟨rfl, rfl⟩)
    go_ret
    exact ⟨rfl, Below.refl _ _⟩

set_option maxHeartbeats 1000000 in
theorem pad_main (a0 : Option Addr) (n c : Nat) (f : Nat → Int) (a1 : Option Addr) (m d : Nat) (g : Nat → Int) (w : World) (h : n + m ≤ 131072) (z0 : a0 = none → n = 0) (z1 : a1 = none → m = 0) (h1 : Wd w a0 n f) (h2 : Wd w a1 m g) :
    Calls Trym.prog 3 #[.slice a0 n c, .slice a1 m d] w fun e w' => e = .returned (.bool true) ∧ Below w.heap.size w w' := by
  have Z1 : Hid (a1 = none → m = 0) := z1
  have W1 : Hid (Wd w a0 n f) := h1
  have W2 : Hid (Wd w a1 m g) := h2
  have LP : Hid (LeP f n g m ↔ ∀ j, j < max n m → pt f n j ≤ pt g m j) := le_padded h1.2.1 h2.2.1
  have C1 : Hid (Calls Trym.prog 10 #[.slice a0 n c] w fun e w' => (∃ ao cc, e = .returned (.slice ao n cc) ∧ Wd w' ao n f) ∧ Below w.heap.size w w') := clone_any a0 n c f w z0 h1
  obtain ⟨N, hN⟩ : ∃ N, N = max n m := ⟨_, rfl⟩
  have HN : Hid (N = max n m) := hN
  have hNb : N ≤ 1048576 := by omega
  have HL : Hid (∀ w, Calls Trym.prog 11 #[.int .i64 n, .int .i64 m] w fun e w' => e = .returned (.int .i64 N) ∧ w = w') := by intro w; rw [hN]; exact longer_any n m w
  have t1 : decide ((131072 : Int) < (n : Int)) = false := decide_eq_false (by omega)
  have t2 : decide ((131072 : Int) < (m : Int)) = false := decide_eq_false (by omega)
  have t3 : decide ((131072 : Int) < (n : Int) + (m : Int)) = false := decide_eq_false (by omega)
  clear z0 z1 h1 h2 hN
  go_enter Trym.func3, Trym.ntmps3
  go_wp2_with fail
  refine (bytesP_yes _ _ _ _ _ _ _ (by omega)).mono ?_
  rintro e w' ⟨rfl, rfl⟩
  go_wp2_with fail
  refine C1.out.mono ?_
  rintro e w1 ⟨⟨ao, cc, rfl, q1⟩, hb1⟩
  have V2 : Hid (Wd w1 a1 m g) := W2.out.below hb1 (Nat.le_refl _)
  have V1 : Hid (Wd w1 ao n f) := q1
  clear q1
  go_wp2_with fail
  refine (clone_any a1 m d g w1 Z1.out V2.out).mono ?_
  rintro e w2 ⟨⟨ao2, cc2, rfl, q2⟩, hb2⟩
  have U2 : Hid (Wd w2 ao2 m g) := q2
  have U1 : Hid (Wd w2 ao n f) := V1.out.below hb2 (Nat.le_refl _)
  have B2 : Hid (Below w.heap.size w w2) := hb1.trans (hb2.mono hb1.size)
  clear q2 hb1 hb2
  go_wp2_with fail
  refine (HL.out w2).mono ?_
  rintro e w' ⟨rfl, rfl⟩
  go_wp2
  go_loop [5, 7] (fun sw si => ∃ k : Nat, k ≤ N ∧ si = .int .i64 k ∧ (sw = .bool true ∧ (∀ j, j < k → pt f n j ≤ pt g m j) ∨ sw = .bool false ∧ ∃ j, j < N ∧ pt g m j < pt f n j)) (fun _ si => N - (intOf si).toNat)
  case atStart => exact ⟨0, Nat.zero_le _, rfl, .inl ⟨rfl, fun j hj => by omega⟩⟩
  case round =>
    obtain ⟨k, hk, rfl, hwant⟩ := hrel
    by_cases hlt : k < N
    · have P1 : Hid (Calls Trym.prog 12 #[.slice ao n cc, .int .i64 k] w2 fun e w' => e = .returned (.int .u64 (pt f n k)) ∧ w2 = w') := part_any ao n cc k f w2 U1.out
      have P2 : Hid (Calls Trym.prog 12 #[.slice ao2 m cc2, .int .i64 k] w2 fun e w' => e = .returned (.int .u64 (pt g m k)) ∧ w2 = w') := part_any ao2 m cc2 k g w2 U2.out
      by_cases he : pt g m k < pt f n k
      · have HE : Hid (∃ j, j < N ∧ pt g m j < pt f n j) := ⟨k, hlt, he⟩
        rcases hwant with ⟨rfl, _⟩ | ⟨rfl, _⟩
        · go_wp2_with fail
          refine P1.out.mono ?_
          rintro e w' ⟨rfl, rfl⟩
          go_wp2_with fail
          refine P2.out.mono ?_
          rintro e w' ⟨rfl, rfl⟩
          go_wp2
          go_round
          case rel => exact ⟨k + 1, by omega, by go_num, .inr ⟨rfl, HE.out⟩⟩
          case measure => simp [intOf]; omega
        · go_wp2_with fail
          refine P1.out.mono ?_
          rintro e w' ⟨rfl, rfl⟩
          go_wp2_with fail
          refine P2.out.mono ?_
          rintro e w' ⟨rfl, rfl⟩
          go_wp2
          go_round
          case rel => exact ⟨k + 1, by omega, by go_num, .inr ⟨rfl, HE.out⟩⟩
          case measure => simp [intOf]; omega
      · rcases hwant with ⟨rfl, hno⟩ | ⟨rfl, hex⟩
        · have HO : Hid (∀ j, j < k + 1 → pt f n j ≤ pt g m j) := fun j hj => by
            by_cases hjk : j = k
            · subst hjk; omega
            · exact hno j (by omega)
          clear hno
          go_wp2_with fail
          refine P1.out.mono ?_
          rintro e w' ⟨rfl, rfl⟩
          go_wp2_with fail
          refine P2.out.mono ?_
          rintro e w' ⟨rfl, rfl⟩
          go_wp2
          go_round
          case rel => exact ⟨k + 1, by omega, by go_num, .inl ⟨rfl, HO.out⟩⟩
          case measure => simp [intOf]; omega
        · have HE : Hid (∃ j, j < N ∧ pt g m j < pt f n j) := hex
          clear hex
          go_wp2_with fail
          refine P1.out.mono ?_
          rintro e w' ⟨rfl, rfl⟩
          go_wp2_with fail
          refine P2.out.mono ?_
          rintro e w' ⟨rfl, rfl⟩
          go_wp2
          go_round
          case rel => exact ⟨k + 1, by omega, by go_num, .inr ⟨rfl, HE.out⟩⟩
          case measure => simp [intOf]; omega
    · rcases hwant with ⟨rfl, hno⟩ | ⟨rfl, hex⟩
      · have HY : Hid (LeP f n g m) := LP.out.2 fun j hj => hno j (by have := HN.out; omega)
        clear hno
        go_wp2_with fail
        refine (less_any ao n cc f ao2 m cc2 g w2 U1.out U2.out).mono ?_
        rintro e w' ⟨hd, rfl⟩
        rcases hd with ⟨rfl, _⟩ | ⟨rfl, hno⟩
        · go_wp2
          go_ret
          exact ⟨rfl, B2.out⟩
        · exact absurd HY.out hno
      · have HY : Hid (¬ LeP f n g m) := fun h => by
          obtain ⟨j, hj, hjn⟩ := hex
          have := LP.out.1 h j (by have := HN.out; omega)
          omega
        clear hex
        go_wp2_with fail
        refine (less_any ao n cc f ao2 m cc2 g w2 U1.out U2.out).mono ?_
        rintro e w' ⟨hd, rfl⟩
        rcases hd with ⟨rfl, hyes⟩ | ⟨rfl, _⟩
        · exact absurd hyes HY.out
        · go_wp2
          go_ret
          exact ⟨rfl, B2.out⟩
end Go.Proofs.Qxb6601024aMods
