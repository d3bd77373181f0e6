import Derived.Test.Qxb6601005aModsLin4
namespace Go.Proofs.Qxb6601005aMods
open Go.RowKit

/-! ### THE PLAIN LAW -/
/-- where a break begins, its bytes end in a break: at E, and what stands ahead of E begins no other -/
theorem bs_end {f : Nat → Int} {n i L : Nat} (h : Bs f n i L) (hi : i < n) :
    ∃ E, i < E ∧ E ≤ n ∧ Eb f E ∧ (∀ d, i < d → d < E → ¬ Eb f d ∨ ∃ j, j < i ∧ ¬ NoBs f n j) ∧ i + L = if f (E - 1) = 13 ∧ E < n ∧ f E = 10 then E + 1 else E := by
  unfold Bs at h
  rcases h with ⟨h1, rfl⟩ | ⟨h1, ⟨h2, h3⟩, rfl⟩ | ⟨h1, h2, rfl⟩ | ⟨h1, h2, h3, rfl⟩ | ⟨h1, h2, h3, h4, rfl⟩
  · refine ⟨i + 1, by omega, by omega, .inl ⟨by omega, .inl h1⟩, fun d h2 h3 => by omega, ?_⟩
    rw [if_neg (fun h => by have := h.1; rw [show i + 1 - 1 = i by omega] at this; omega)]
  · refine ⟨i + 1, by omega, by omega, .inl ⟨by omega, .inr h1⟩, fun d h2 h3 => by omega, ?_⟩
    rw [if_pos ⟨h1, h2, h3⟩]
  · refine ⟨i + 1, by omega, by omega, .inl ⟨by omega, .inr h1⟩, fun d h2 h3 => by omega, ?_⟩
    rw [if_neg (fun h => h2 h.2)]
  · refine ⟨i + 2, by omega, by omega, .inr (.inl ⟨by omega, h1, h3⟩), fun d h4 h5 => ?_, ?_⟩
    · obtain rfl : d = i + 1 := by omega
      by_cases hE : Eb f (i + 1)
      · right
        unfold Eb at hE
        simp only [show i + 1 - 1 = i by omega] at hE
        rcases hE with hE | ⟨g1, g2, g3⟩ | ⟨g1, g2, g3, g4⟩
        · omega
        · omega
        · omega
      · exact .inl hE
    · rw [if_neg (fun h => by have := h.1; rw [show i + 2 - 1 = i + 1 by omega] at this; omega)]
  · refine ⟨i + 3, by omega, by omega, .inr (.inr ⟨by omega, h1, h3, h4⟩), fun d h5 h6 => ?_, ?_⟩
    · left
      intro hE
      unfold Eb at hE
      rcases (show d = i + 1 ∨ d = i + 2 by omega) with rfl | rfl
      · simp only [show i + 1 - 1 = i by omega] at hE
        omega
      · simp only [show i + 2 - 1 = i + 1 by omega, show i + 2 - 2 = i by omega] at hE
        omega
    · rw [if_neg (fun h => by have := h.1; rw [show i + 3 - 1 = i + 2 by omega] at this; omega)]

/-- where the first e bytes end in a break, a break begins ahead of e -/
theorem eb_begin {f : Nat → Int} {n e : Nat} (h : Eb f e) (he : e ≤ n) : ∃ j, j < e ∧ ¬ NoBs f n j := by
  unfold Eb at h
  rcases h with ⟨h1, h2⟩ | ⟨h1, h2, h3⟩ | ⟨h1, h2, h3, h4⟩
  · exact ⟨e - 1, by omega, fun hn => by unfold NoBs at hn; omega⟩
  · refine ⟨e - 2, by omega, fun hn => ?_⟩
    unfold NoBs at hn
    simp only [show e - 2 + 1 = e - 1 by omega] at hn
    omega
  · refine ⟨e - 3, by omega, fun hn => ?_⟩
    unfold NoBs at hn
    simp only [show e - 3 + 1 = e - 2 by omega, show e - 3 + 2 = e - 1 by omega] at hn
    omega

theorem le_me {f : Nat → Int} {n R S : Nat} (h : LE f n R) (k : ME f n S) : R = S := by
  rcases h with ⟨i, L, hi, hb, hno, rfl⟩ | ⟨hno, rfl⟩
  · obtain ⟨E, hE1, hE2, hE3, hE4, hE5⟩ := bs_end hb hi
    have hleast : ∀ d, 1 ≤ d → d < E → ¬ Eb f d := fun d h1 h2 hd => by
      by_cases hdi : d ≤ i
      · obtain ⟨j, hj, hjn⟩ := eb_begin hd (show d ≤ n by omega)
        exact hjn (hno j (by omega))
      · rcases hE4 d (by omega) h2 with hx | ⟨j, hj, hjn⟩
        · exact hx hd
        · exact hjn (hno j hj)
    rcases k with ⟨e, he1, he2, he3, he4, rfl⟩ | ⟨hall, rfl⟩
    · have hee : e = E := by
        rcases Nat.lt_trichotomy e E with hlt | heq | hgt
        · exact absurd he3 (hleast e he1 hlt)
        · exact heq
        · exact absurd hE3 (he4 E (by omega) hgt)
      subst hee
      exact hE5
    · exact absurd hE3 (hall E (by omega) hE2)
  · rcases k with ⟨e, he1, he2, he3, he4, _⟩ | ⟨_, rfl⟩
    · obtain ⟨j, hj, hjn⟩ := eb_begin he3 he2
      exact absurd (hno j (by omega)) hjn
    · rfl
end Go.Proofs.Qxb6601005aMods
