import Derived.Test.Qxb6601005aModsLin3
namespace Go.Proofs.Qxb6601005aMods
open Go.RowKit

set_option maxRecDepth 100000 in
set_option maxHeartbeats 400000 in
theorem line_zero (a : Option Addr) (c : Nat) (w : World) :
    Calls Trym.prog 17 #[.slice a 0 c] w fun e w' => e = .returned (.int .i64 0) ∧ w = w' := by
  go_enter Trym.func17, Trym.ntmps17
  go_wp2
  go_loop [3] (fun si => si = .int .i64 0) (fun _ => 0)
  case atStart => rfl
  case round =>
    subst hrel
    go_wp2
    go_ret
    exact ⟨rfl, rfl⟩

theorem zline_zero (a : Option Addr) (c : Nat) (w : World) :
    Calls Trym.prog 8 #[.slice a 0 c] w fun e w' => e = .returned (.int .i64 0) ∧ w = w' := by
  go_enter Trym.func8, Trym.ntmps8
  go_wp2_with (go_at_call 17; refine (line_zero _ _ _).mono ?_; rintro e w' ⟨rfl, rfl⟩)
  go_ret
  exact ⟨rfl, rfl⟩

theorem zline_some (b n c : Nat) (f : Nat → Int) (w : World) (hm : n ≤ 2097152) (hc : BytesAt w b 0 n f) :
    Calls Trym.prog 8 #[.slice (some ⟨b, 0, none⟩) n c] w fun e w' => (∃ R : Nat, e = .returned (.int .i64 R) ∧ LE f n R) ∧ w = w' := by
  go_enter Trym.func8, Trym.ntmps8
  go_wp2_with (go_at_call 17; refine (line_some b n c f _ hm hc).mono ?_; rintro e w' ⟨⟨R, rfl, hR⟩, rfl⟩)
  go_ret
  exact ⟨⟨R, rfl, hR⟩, rfl⟩

set_option maxHeartbeats 400000 in
theorem least_zero (a : Option Addr) (c : Nat) (w : World) :
    Calls Trym.prog 9 #[.slice a 0 c] w fun e w' => e = .returned (.int .i64 0) ∧ w = w' := by
  go_enter Trym.func9, Trym.ntmps9
  go_wp2
  go_loop [3] (fun si => si = .int .i64 1) (fun _ => 0)
  case atStart => rfl
  case round =>
    subst hrel
    go_wp2
    go_ret
    exact ⟨rfl, rfl⟩

/-- what the model of the law comes to -/
def ME (f : Nat → Int) (n R : Nat) : Prop :=
  (∃ e, 1 ≤ e ∧ e ≤ n ∧ Eb f e ∧ (∀ d, 1 ≤ d → d < e → ¬ Eb f d) ∧ R = if f (e - 1) = 13 ∧ e < n ∧ f e = 10 then e + 1 else e) ∨ ((∀ d, 1 ≤ d → d ≤ n → ¬ Eb f d) ∧ R = n)

set_option maxHeartbeats 1000000 in
theorem least_some (b n c : Nat) (f : Nat → Int) (w : World) (hm : n ≤ 2097152) (hnc : n ≤ c) (hcm : c ≤ 9223372036854775807) (hc : BytesAt w b 0 n f) :
    Calls Trym.prog 9 #[.slice (some ⟨b, 0, none⟩) n c] w fun e w' => (∃ R : Nat, e = .returned (.int .i64 R) ∧ ME f n R) ∧ w = w' := by
  go_enter Trym.func9, Trym.ntmps9
  go_wp2
  go_loop [3] (fun si => ∃ k : Nat, 1 ≤ k ∧ k ≤ n + 1 ∧ si = .int .i64 k ∧ ∀ d, 1 ≤ d → d < k → ¬ Eb f d) (fun si => n + 1 - (intOf si).toNat)
  case atStart => exact ⟨1, by omega, by omega, rfl, fun d h1 h2 => by omega⟩
  case round =>
    obtain ⟨k, hk1, hk, rfl, hno⟩ := hrel
    by_cases hlt : k ≤ n
    · have HC : Hid (BytesAt w b 0 k f) := hc.take hlt
      by_cases he : Eb f k
      · have c0 := hc (k - 1) (by omega)
        rw [Nat.zero_add] at c0
        by_cases hx : f (k - 1) = 13
        · by_cases hl2 : k < n
          · have c1 := hc k hl2
            rw [Nat.zero_add] at c1
            by_cases hy : f k = 10
            · have HM : Hid (ME f n (k + 1)) := .inl ⟨k, hk1, hlt, he, hno, by rw [if_pos ⟨hx, hl2, hy⟩]⟩
              clear hc
              go_wp2_with (go_at_call 18; refine (ends_yes b 0 k _ f _ hk1 (by omega) HC.out he).mono ?_; rintro e w' ⟨rfl, rfl⟩)
              go_ret
              exact ⟨⟨k + 1, ret_int (by omega), HM.out⟩, rfl⟩
            · have HM : Hid (ME f n k) := .inl ⟨k, hk1, hlt, he, hno, by rw [if_neg (fun h => hy h.2.2)]⟩
              have e1 : (f k == 10) = false := beq_eq_false_iff_ne.2 hy
              clear hc
              go_wp2_with (go_at_call 18; refine (ends_yes b 0 k _ f _ hk1 (by omega) HC.out he).mono ?_; rintro e w' ⟨rfl, rfl⟩)
              go_ret
              exact ⟨⟨k, rfl, HM.out⟩, rfl⟩
          · have HM : Hid (ME f n k) := .inl ⟨k, hk1, hlt, he, hno, by rw [if_neg (fun h => hl2 h.2.1)]⟩
            clear hc
            go_wp2_with (go_at_call 18; refine (ends_yes b 0 k _ f _ hk1 (by omega) HC.out he).mono ?_; rintro e w' ⟨rfl, rfl⟩)
            go_ret
            exact ⟨⟨k, rfl, HM.out⟩, rfl⟩
        · have HM : Hid (ME f n k) := .inl ⟨k, hk1, hlt, he, hno, by rw [if_neg (fun h => hx h.1)]⟩
          have e1 : (f (k - 1) == 13) = false := beq_eq_false_iff_ne.2 hx
          clear hc
          go_wp2_with (go_at_call 18; refine (ends_yes b 0 k _ f _ hk1 (by omega) HC.out he).mono ?_; rintro e w' ⟨rfl, rfl⟩)
          go_ret
          exact ⟨⟨k, rfl, HM.out⟩, rfl⟩
      · have hno' : ∀ d, 1 ≤ d → d < k + 1 → ¬ Eb f d := fun d h1 h2 => by
          by_cases hd : d = k
          · subst hd; exact he
          · exact hno d h1 (by omega)
        clear hc
        go_wp2_with (go_at_call 18; refine (ends_no b 0 k _ f _ hk1 (by omega) HC.out he).mono ?_; rintro e w' ⟨rfl, rfl⟩)
        go_round
        case rel => exact ⟨k + 1, by omega, by omega, by go_num, hno'⟩
        case measure => simp [intOf]; omega
    · go_wp2
      go_ret
      exact ⟨⟨n, rfl, .inr ⟨fun d h1 h2 => hno d h1 (by omega), rfl⟩⟩, rfl⟩
end Go.Proofs.Qxb6601005aMods
