import Derived.Test.Qxb6601024aModsLeq3
namespace Go.Proofs.Qxb6601024aMods
open Go.RowKit

set_option maxHeartbeats 400000 in
theorem bytesO_yes (a0 : Option Addr) (len0 cap0 : Nat) (a1 : Option Addr) (len1 cap1 : Nat) (a2 : Option Addr) (len2 cap2 : Nat) (w : World) (h : len0 + len1 + len2 ≤ 1048576) :
    Calls Trym.prog 17 #[.slice a0 len0 cap0, .slice a1 len1 cap1, .slice a2 len2 cap2] w fun e w' => e = .returned (.bool true) ∧ w = w' := by
  go_enter Trym.func17, Trym.ntmps17
  go_wp2
  go_ret
  exact ⟨rfl, rfl⟩

set_option maxHeartbeats 400000 in
theorem bytesO_no (a0 : Option Addr) (len0 cap0 : Nat) (a1 : Option Addr) (len1 cap1 : Nat) (a2 : Option Addr) (len2 cap2 : Nat) (w : World) (h : ¬ len0 + len1 + len2 ≤ 1048576) (h0 : len0 ≤ maxLen) (h1 : len1 ≤ maxLen) (h2 : len2 ≤ maxLen) :
    Calls Trym.prog 17 #[.slice a0 len0 cap0, .slice a1 len1 cap1, .slice a2 len2 cap2] w fun e w' => e = .returned (.bool false) ∧ w = w' := by
  unfold maxLen at h0 h1 h2
  by_cases c0 : 1048576 < len0
  · go_enter Trym.func17, Trym.ntmps17
    go_wp2
    go_ret
    exact ⟨rfl, rfl⟩
  · by_cases c1 : 1048576 < len1
    · go_enter Trym.func17, Trym.ntmps17
      go_wp2
      go_ret
      exact ⟨rfl, rfl⟩
    · by_cases c2 : 1048576 < len0 + len1
      · go_enter Trym.func17, Trym.ntmps17
        go_wp2
        go_ret
        exact ⟨rfl, rfl⟩
      · by_cases c3 : 1048576 < len2
        · go_enter Trym.func17, Trym.ntmps17
          go_wp2
          go_ret
          exact ⟨rfl, rfl⟩
        · go_enter Trym.func17, Trym.ntmps17
          go_wp2
          go_ret
          exact ⟨rfl, rfl⟩

set_option maxHeartbeats 1000000 in
theorem ord_early (a0 : Option Addr) (n c : Nat) (a1 : Option Addr) (m d : Nat) (a2 : Option Addr) (l e2 : Nat) (w : World) (m0 : n ≤ maxLen) (m1 : m ≤ maxLen) (m2 : l ≤ maxLen) (h : ¬ n + m + l ≤ 131072) :
    Calls Trym.prog 5 #[.slice a0 n c, .slice a1 m d, .slice a2 l e2] w fun e w' => e = .returned (.bool true) ∧ Below w.heap.size w w' := by
  by_cases c0 : n + m + l ≤ 1048576
  · by_cases c1 : 131072 < n
    · go_enter Trym.func5, Trym.ntmps5
      go_wp2_with (go_at_call 17; refine (bytesO_yes _ _ _ _ _ _ _ _ _ _ c0).mono ?_; rintro e w' ⟨rfl, rfl⟩)
      go_ret
      exact ⟨rfl, Below.refl _ _⟩
    · by_cases c2 : 131072 < m
      · go_enter Trym.func5, Trym.ntmps5
        go_wp2_with (go_at_call 17; refine (bytesO_yes _ _ _ _ _ _ _ _ _ _ c0).mono ?_; rintro e w' ⟨rfl, rfl⟩)
        go_ret
        exact ⟨rfl, Below.refl _ _⟩
      · by_cases c3 : 131072 < l
        · go_enter Trym.func5, Trym.ntmps5
          go_wp2_with (go_at_call 17; refine (bytesO_yes _ _ _ _ _ _ _ _ _ _ c0).mono ?_; rintro e w' ⟨rfl, rfl⟩)
          go_ret
          exact ⟨rfl, Below.refl _ _⟩
        · go_enter Trym.func5, Trym.ntmps5
          go_wp2_with (go_at_call 17; refine (bytesO_yes _ _ _ _ _ _ _ _ _ _ c0).mono ?_; rintro e w' ⟨rfl, rfl⟩)
          go_ret
          exact ⟨rfl, Below.refl _ _⟩
  · go_enter Trym.func5, Trym.ntmps5
    go_wp2_with (go_at_call 17; refine (bytesO_no _ _ _ _ _ _ _ _ _ _ c0 m0 m1 m2).mono ?_; rintro e w' ⟨rfl, rfl⟩)
    go_ret
    exact ⟨rfl, Below.refl _ _⟩

set_option maxHeartbeats 2000000 in
theorem ord_main (a0 : Option Addr) (n c : Nat) (f : Nat → Int) (a1 : Option Addr) (m d : Nat) (g : Nat → Int) (a2 : Option Addr) (l e2 : Nat) (k : Nat → Int) (w : World) (h : n + m + l ≤ 131072) (z0 : a0 = none → n = 0) (z1 : a1 = none → m = 0) (z2 : a2 = none → l = 0)
    (h0 : Wd w a0 n f) (h1 : Wd w a1 m g) (h2 : Wd w a2 l k) :
    Calls Trym.prog 5 #[.slice a0 n c, .slice a1 m d, .slice a2 l e2] w fun e w' => e = .returned (.bool true) ∧ Below w.heap.size w w' := by
  have Z1 : Hid (a1 = none → m = 0) := z1
  have Z2 : Hid (a2 = none → l = 0) := z2
  have W1 : Hid (Wd w a1 m g) := h1
  have W2 : Hid (Wd w a2 l k) := h2
  have AN : Hid ((LeP f n g m ∧ LeP g m f n) ↔ SameP f n g m) := le_anti h0.2.1 h1.2.1
  have TR : Hid (LeP f n g m → LeP g m k l → LeP f n k l) := fun p q => le_trans' h0.2.1 p q
  have C0 : Hid (Calls Trym.prog 10 #[.slice a0 n c] w fun e w' => (∃ ao cc, e = .returned (.slice ao n cc) ∧ Wd w' ao n f) ∧ Below w.heap.size w w') := clone_any a0 n c f w z0 h0
  have t1 : decide ((131072 : Int) < (n : Int)) = false := decide_eq_false (by omega)
  have t2 : decide ((131072 : Int) < (m : Int)) = false := decide_eq_false (by omega)
  have t3 : decide ((131072 : Int) < (l : Int)) = false := decide_eq_false (by omega)
  have t4 : decide ((131072 : Int) < (n : Int) + (m : Int) + (l : Int)) = false := decide_eq_false (by omega)
  clear z0 z1 z2 h0 h1 h2
  go_enter Trym.func5, Trym.ntmps5
  go_wp2_with fail
  refine (bytesO_yes _ _ _ _ _ _ _ _ _ _ (by omega)).mono ?_
  rintro e w' ⟨rfl, rfl⟩
  go_wp2_with fail
  refine C0.out.mono ?_
  rintro e w1 ⟨⟨x0, y0, rfl, q0⟩, hb1⟩
  have V0 : Hid (Wd w1 x0 n f) := q0
  have V1 : Hid (Wd w1 a1 m g) := W1.out.below hb1 (Nat.le_refl _)
  have V2 : Hid (Wd w1 a2 l k) := W2.out.below hb1 (Nat.le_refl _)
  clear q0
  go_wp2_with fail
  refine (clone_any a1 m d g w1 Z1.out V1.out).mono ?_
  rintro e w2 ⟨⟨x1, y1, rfl, q1⟩, hb2⟩
  have U0 : Hid (Wd w2 x0 n f) := V0.out.below hb2 (Nat.le_refl _)
  have U1 : Hid (Wd w2 x1 m g) := q1
  have U2 : Hid (Wd w2 a2 l k) := V2.out.below hb2 (Nat.le_refl _)
  clear q1
  go_wp2_with fail
  refine (clone_any a2 l e2 k w2 Z2.out U2.out).mono ?_
  rintro e w3 ⟨⟨x2, y2, rfl, q2⟩, hb3⟩
  have T0 : Hid (Wd w3 x0 n f) := U0.out.below hb3 (Nat.le_refl _)
  have T1 : Hid (Wd w3 x1 m g) := U1.out.below hb3 (Nat.le_refl _)
  have T2 : Hid (Wd w3 x2 l k) := q2
  have B3 : Hid (Below w.heap.size w w3) := (hb1.trans (hb2.mono hb1.size)).trans (hb3.mono (Nat.le_trans hb1.size hb2.size))
  clear q2 hb1 hb2 hb3
  go_wp2_with fail
  refine (less_any x0 n y0 f x0 n y0 f w3 T0.out T0.out).mono ?_
  rintro e w' ⟨hd, rfl⟩
  rcases hd with ⟨rfl, _⟩ | ⟨rfl, hno⟩
  case inr => exact absurd (le_refl' f n) hno
  go_wp2_with fail
  refine (less_any x0 n y0 f x1 m y1 g w3 T0.out T1.out).mono ?_
  rintro e w' ⟨hd, rfl⟩
  rcases hd with ⟨rfl, tu⟩ | ⟨rfl, tu⟩
  · have TU : Hid (LeP f n g m) := tu
    clear tu
    go_wp2_with fail
    refine (less_any x1 m y1 g x0 n y0 f w3 T1.out T0.out).mono ?_
    rintro e w' ⟨hd, rfl⟩
    rcases hd with ⟨rfl, ut⟩ | ⟨rfl, ut⟩
    · have UT : Hid (SameP f n g m) := AN.out.1 ⟨TU.out, ut⟩
      clear ut
      go_wp2_with fail
      refine (same_any x0 n y0 f x1 m y1 g w3 T0.out T1.out).mono ?_
      rintro e w' ⟨hd, rfl⟩
      rcases hd with ⟨rfl, _⟩ | ⟨rfl, sm⟩
      case inr => exact absurd UT.out sm
      go_wp2_with fail
      refine (less_any x1 m y1 g x2 l y2 k w3 T1.out T2.out).mono ?_
      rintro e w' ⟨hd, rfl⟩
      rcases hd with ⟨rfl, uv⟩ | ⟨rfl, _⟩
      · have TV : Hid (LeP f n k l) := TR.out TU.out uv
        clear uv
        go_wp2_with fail
        refine (less_any x0 n y0 f x2 l y2 k w3 T0.out T2.out).mono ?_
        rintro e w' ⟨hd, rfl⟩
        rcases hd with ⟨rfl, _⟩ | ⟨rfl, tv⟩
        case inr => exact absurd TV.out tv
        go_wp2
        go_ret
        exact ⟨rfl, B3.out⟩
      · go_wp2
        go_ret
        exact ⟨rfl, B3.out⟩
    · have UT : Hid (¬ SameP f n g m) := fun s => ut (AN.out.2 s).2
      clear ut
      go_wp2_with fail
      refine (same_any x0 n y0 f x1 m y1 g w3 T0.out T1.out).mono ?_
      rintro e w' ⟨hd, rfl⟩
      rcases hd with ⟨rfl, sm⟩ | ⟨rfl, _⟩
      case inl => exact absurd sm UT.out
      go_wp2_with fail
      refine (less_any x1 m y1 g x2 l y2 k w3 T1.out T2.out).mono ?_
      rintro e w' ⟨hd, rfl⟩
      rcases hd with ⟨rfl, uv⟩ | ⟨rfl, _⟩
      · have TV : Hid (LeP f n k l) := TR.out TU.out uv
        clear uv
        go_wp2_with fail
        refine (less_any x0 n y0 f x2 l y2 k w3 T0.out T2.out).mono ?_
        rintro e w' ⟨hd, rfl⟩
        rcases hd with ⟨rfl, _⟩ | ⟨rfl, tv⟩
        case inr => exact absurd TV.out tv
        go_wp2
        go_ret
        exact ⟨rfl, B3.out⟩
      · go_wp2
        go_ret
        exact ⟨rfl, B3.out⟩
  · have TU : Hid (¬ SameP f n g m) := fun s => tu (AN.out.2 s).1
    clear tu
    go_wp2_with fail
    refine (less_any x1 m y1 g x0 n y0 f w3 T1.out T0.out).mono ?_
    rintro e w' ⟨hd, rfl⟩
    rcases hd with ⟨rfl, _⟩ | ⟨rfl, _⟩
    · go_wp2_with fail
      refine (same_any x0 n y0 f x1 m y1 g w3 T0.out T1.out).mono ?_
      rintro e w' ⟨hd, rfl⟩
      rcases hd with ⟨rfl, sm⟩ | ⟨rfl, _⟩
      case inl => exact absurd sm TU.out
      go_wp2
      go_ret
      exact ⟨rfl, B3.out⟩
    · go_wp2_with fail
      refine (same_any x0 n y0 f x1 m y1 g w3 T0.out T1.out).mono ?_
      rintro e w' ⟨hd, rfl⟩
      rcases hd with ⟨rfl, sm⟩ | ⟨rfl, _⟩
      case inl => exact absurd sm TU.out
      go_wp2
      go_ret
      exact ⟨rfl, B3.out⟩
end Go.Proofs.Qxb6601024aMods
