import Derived.Test.Qxb6601005aModsLin1
namespace Go.Proofs.Qxb6601005aMods
open Go.RowKit

theorem eb2 (f : Nat → Int) : Eb f 2 ↔ (f 1 = 10 ∨ f 1 = 13) ∨ (f 0 = 194 ∧ f 1 = 133) := by
  unfold Eb
  rw [show 2 - 1 = 1 from rfl, show 2 - 2 = 0 from rfl]
  omega
theorem eb1 (f : Nat → Int) : Eb f 1 ↔ (f 0 = 10 ∨ f 0 = 13) := by
  unfold Eb
  rw [show 1 - 1 = 0 from rfl]
  omega

set_option maxHeartbeats 1000000 in
theorem ends_two (b o c : Nat) (f : Nat → Int) (w : World) (hc : BytesAt w b o 2 f) :
    Calls Trym.prog 18 #[.slice (some ⟨b, o, none⟩) 2 c] w fun e w' => (e = .returned (.bool true) ∧ Eb f 2 ∨ e = .returned (.bool false) ∧ ¬ Eb f 2) ∧ w = w' := by
  have c1 := hc 1 (by omega)
  have c2 := hc 0 (by omega)
  rw [Nat.add_zero] at c2
  clear hc
  generalize hp : f 1 = p at *
  generalize hq : f 0 = q at *
  have H : Hid (f 1 = p ∧ f 0 = q) := ⟨hp, hq⟩
  clear hp hq
  go_enter Trym.func18, Trym.ntmps18
  go_wp2
  all_goals
    go_ret
    obtain ⟨hp, hq⟩ := H.out
    clear H c1 c2
    refine ⟨?_, rfl⟩
    simp only [beq_iff_eq, beq_eq_false_iff_ne, ne_eq] at *
    first
      | exact .inl ⟨rfl, by rw [eb2]; omega⟩
      | exact .inr ⟨rfl, by rw [eb2]; omega⟩

set_option maxHeartbeats 1000000 in
theorem ends_one (b o c : Nat) (f : Nat → Int) (w : World) (hc : BytesAt w b o 1 f) :
    Calls Trym.prog 18 #[.slice (some ⟨b, o, none⟩) 1 c] w fun e w' => (e = .returned (.bool true) ∧ Eb f 1 ∨ e = .returned (.bool false) ∧ ¬ Eb f 1) ∧ w = w' := by
  have c2 := hc 0 (by omega)
  rw [Nat.add_zero] at c2
  clear hc
  generalize hq : f 0 = q at *
  have H : Hid (f 0 = q) := hq
  clear hq
  go_enter Trym.func18, Trym.ntmps18
  go_wp2
  all_goals
    go_ret
    have hq := H.out
    clear H c2
    refine ⟨?_, rfl⟩
    simp only [beq_iff_eq, beq_eq_false_iff_ne, ne_eq] at *
    first
      | exact .inl ⟨rfl, by rw [eb1]; omega⟩
      | exact .inr ⟨rfl, by rw [eb1]; omega⟩

theorem ends_any (b o n c : Nat) (f : Nat → Int) (w : World) (h1 : 1 ≤ n) (hm : n ≤ 9223372036854775807) (hc : BytesAt w b o n f) :
    Calls Trym.prog 18 #[.slice (some ⟨b, o, none⟩) n c] w fun e w' => (e = .returned (.bool true) ∧ Eb f n ∨ e = .returned (.bool false) ∧ ¬ Eb f n) ∧ w = w' := by
  by_cases h3 : 3 ≤ n
  · exact ends_three b o n c f w h3 hm hc
  · by_cases h2 : n = 2
    · subst h2; exact ends_two b o c f w hc
    · obtain rfl : n = 1 := by omega
      exact ends_one b o c f w hc
theorem ends_yes (b o n c : Nat) (f : Nat → Int) (w : World) (h1 : 1 ≤ n) (hm : n ≤ 9223372036854775807) (hc : BytesAt w b o n f) (h : Eb f n) :
    Calls Trym.prog 18 #[.slice (some ⟨b, o, none⟩) n c] w fun e w' => e = .returned (.bool true) ∧ w = w' :=
  (ends_any b o n c f w h1 hm hc).mono fun e w' ⟨h1, h2⟩ => ⟨by rcases h1 with h1 | h1; exact h1.1; exact absurd h h1.2, h2⟩
theorem ends_no (b o n c : Nat) (f : Nat → Int) (w : World) (h1 : 1 ≤ n) (hm : n ≤ 9223372036854775807) (hc : BytesAt w b o n f) (h : ¬ Eb f n) :
    Calls Trym.prog 18 #[.slice (some ⟨b, o, none⟩) n c] w fun e w' => e = .returned (.bool false) ∧ w = w' :=
  (ends_any b o n c f w h1 hm hc).mono fun e w' ⟨h1, h2⟩ => ⟨by rcases h1 with h1 | h1; exact absurd h1.2 h; exact h1.1, h2⟩
end Go.Proofs.Qxb6601005aMods
