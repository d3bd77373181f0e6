import Derived.Test.Qxb6601005aModsBrk3
namespace Go.Proofs.Qxb6601005aMods
open Go.RowKit

/-! ### THE PLAIN LAW -/
theorem cut1 (F : Nat → Int) (p : Nat) : cutAt F p 1 = [F p] := rfl
theorem cut2 (F : Nat → Int) (p : Nat) : cutAt F p 2 = [F p, F (p + 1)] := rfl
theorem cut3 (F : Nat → Int) (p : Nat) : cutAt F p 3 = [F p, F (p + 1), F (p + 2)] := rfl
theorem sfx1 {F : Nat → Int} {n : Nat} {a : Int} : Sfx F n [a] ↔ 1 ≤ n ∧ F (n - 1) = a := by
  unfold Sfx
  simp only [List.length_cons, List.length_nil, Nat.zero_add, cut1, List.cons.injEq, and_true]
theorem sfx2 {F : Nat → Int} {n : Nat} {a b : Int} : Sfx F n [a, b] ↔ 2 ≤ n ∧ F (n - 2) = a ∧ F (n - 1) = b := by
  unfold Sfx
  simp only [List.length_cons, List.length_nil, Nat.zero_add, Nat.reduceAdd, cut2, List.cons.injEq, and_true]
  constructor
  · rintro ⟨h, h1, h2⟩
    rw [show n - 2 + 1 = n - 1 by omega] at h2
    exact ⟨h, h1, h2⟩
  · rintro ⟨h, h1, h2⟩
    rw [show n - 2 + 1 = n - 1 by omega]
    exact ⟨h, h1, h2⟩
theorem sfx3 {F : Nat → Int} {n : Nat} {a b c : Int} : Sfx F n [a, b, c] ↔ 3 ≤ n ∧ F (n - 3) = a ∧ F (n - 2) = b ∧ F (n - 1) = c := by
  unfold Sfx
  simp only [List.length_cons, List.length_nil, Nat.zero_add, Nat.reduceAdd, cut3, List.cons.injEq, and_true]
  constructor
  · rintro ⟨h, h1, h2, h3⟩
    rw [show n - 3 + 1 = n - 2 by omega] at h2
    rw [show n - 3 + 2 = n - 1 by omega] at h3
    exact ⟨h, h1, h2, h3⟩
  · rintro ⟨h, h1, h2, h3⟩
    rw [show n - 3 + 1 = n - 2 by omega, show n - 3 + 2 = n - 1 by omega]
    exact ⟨h, h1, h2, h3⟩

theorem bs_not {f : Nat → Int} {n i L : Nat} (h : Bs f n i L) : ¬ NoBs f n i := by
  unfold Bs at h; unfold NoBs; omega
theorem bs_len {f : Nat → Int} {n i L M : Nat} (h : Bs f n i L) (k : Bs f n i M) : L = M := by
  unfold Bs at h k; omega
theorem le_unique {f : Nat → Int} {n i L R : Nat} (h : LE f n R) (hi : i < n) (hb : Bs f n i L) (hno : ∀ j, j < i → NoBs f n j) : R = i + L := by
  rcases h with ⟨j, M, hj, hbj, hnj, rfl⟩ | ⟨hall, _⟩
  · have : j = i := by
      rcases Nat.lt_trichotomy j i with hl | he | hg
      · exact absurd (hno j hl) (bs_not hbj)
      · exact he
      · exact absurd (hnj i hg) (bs_not hb)
    subst this
    rw [bs_len hb hbj]
  · exact absurd (hall i hi) (bs_not hb)

theorem nobs_head {F : Nat → Int} {h : Nat} (noE : ∀ d, 1 ≤ d → d ≤ h → ¬ Eb F d) (hfirst : F h = 10 ∨ F h = 13 ∨ F h = 194 ∨ F h = 226) (N : Nat) : ∀ j, j < h → NoBs F N j := by
  intro j hj
  have e1 := noE (j + 1) (by omega) (by omega)
  unfold Eb at e1
  simp only [show j + 1 - 1 = j by omega] at e1
  refine ⟨by omega, by omega, fun h2 => ?_, fun h3 => ?_⟩
  · by_cases hl : j + 2 ≤ h
    · have e2 := noE (j + 2) (by omega) hl
      unfold Eb at e2
      simp only [show j + 2 - 1 = j + 1 by omega, show j + 2 - 2 = j by omega] at e2
      omega
    · rw [show j + 1 = h by omega] at h2
      omega
  · by_cases hl : j + 3 ≤ h
    · have e3 := noE (j + 3) (by omega) hl
      unfold Eb at e3
      simp only [show j + 3 - 1 = j + 2 by omega, show j + 3 - 2 = j + 1 by omega, show j + 3 - 3 = j by omega] at e3
      omega
    · by_cases hl2 : j + 2 = h
      · rw [hl2] at h3; omega
      · rw [show j + 1 = h by omega] at h3
        omega

/-- what the law wants -/
def wantOf (h r : Nat) (wide : Bool) : Nat := h + (tok r).length + (if wide then 1 else 0)

/-- F is a head of h bytes without a break, the token r, and whatever follows (N bytes in all); 'wide': the token is a lone carriage return and a line feed follows. -/
structure Line (F : Nat → Int) (h r N : Nat) (wide : Bool) : Prop where
  noE : ∀ d, 1 ≤ d → d ≤ h → ¬ Eb F d
  six : r < 6
  tk : ∀ i, i < (tok r).length → F (h + i) = (tok r).getD i 0
  len : h + (tok r).length ≤ N
  wd : wide = true ↔ (r = 2 ∧ h + 1 < N ∧ F (h + 1) = 10)

theorem line_bs {F : Nat → Int} {h r N : Nat} {wide : Bool} (l : Line F h r N wide) :
    (F h = 10 ∨ F h = 13 ∨ F h = 194 ∨ F h = 226) ∧ Bs F N h (wantOf h r wide - h) ∧ Bs F (wantOf h r wide) h (wantOf h r wide - h) ∧ h < wantOf h r wide ∧ wantOf h r wide ≤ N ∧ wantOf h r wide ≤ h + 3 := by
  obtain ⟨noE, h6, htk, hlen, hwd⟩ := l
  unfold wantOf
  rcases (show r = 0 ∨ r = 1 ∨ r = 2 ∨ r = 3 ∨ r = 4 ∨ r = 5 by omega) with rfl | rfl | rfl | rfl | rfl | rfl
  · have t0 : F h = 10 := htk 0 (by decide)
    have hw : wide = false := by cases wide; rfl; have := hwd.1 rfl; omega
    subst hw
    simp only [tok, List.length_cons, List.length_nil] at hlen ⊢
    simp only [Bool.false_eq_true, if_false, Nat.add_zero, Nat.zero_add, Nat.add_sub_cancel_left]
    exact ⟨.inl t0, .inl ⟨t0, rfl⟩, .inl ⟨t0, rfl⟩, by omega, by omega, by omega⟩
  · have t0 : F h = 13 := htk 0 (by decide)
    have t1 : F (h + 1) = 10 := htk 1 (by decide)
    have hw : wide = false := by cases wide; rfl; have := hwd.1 rfl; omega
    subst hw
    simp only [tok, List.length_cons, List.length_nil] at hlen ⊢
    simp only [Bool.false_eq_true, if_false, Nat.add_zero, Nat.zero_add, Nat.add_sub_cancel_left]
    exact ⟨.inr (.inl t0), .inr (.inl ⟨t0, ⟨by omega, t1⟩, rfl⟩), .inr (.inl ⟨t0, ⟨by omega, t1⟩, rfl⟩), by omega, by omega, by omega⟩
  · have t0 : F h = 13 := htk 0 (by decide)
    simp only [tok, List.length_cons, List.length_nil] at hlen ⊢
    cases wide with
    | true =>
      obtain ⟨_, g1, g2⟩ := hwd.1 rfl
      simp only [if_true, Nat.zero_add]
      rw [show h + 1 + 1 - h = 2 by omega]
      exact ⟨.inr (.inl t0), .inr (.inl ⟨t0, ⟨g1, g2⟩, rfl⟩), .inr (.inl ⟨t0, ⟨by omega, g2⟩, rfl⟩), by omega, by omega, by omega⟩
    | false =>
      have g : ¬ (h + 1 < N ∧ F (h + 1) = 10) := fun g => by have := hwd.2 ⟨rfl, g⟩; simp at this
      simp only [Bool.false_eq_true, if_false, Nat.add_zero, Nat.zero_add, Nat.add_sub_cancel_left]
      exact ⟨.inr (.inl t0), .inr (.inr (.inl ⟨t0, g, rfl⟩)), .inr (.inr (.inl ⟨t0, by omega, rfl⟩)), by omega, by omega, by omega⟩
  · have t0 : F h = 194 := htk 0 (by decide)
    have t1 : F (h + 1) = 133 := htk 1 (by decide)
    have hw : wide = false := by cases wide; rfl; have := hwd.1 rfl; omega
    subst hw
    simp only [tok, List.length_cons, List.length_nil] at hlen ⊢
    simp only [Bool.false_eq_true, if_false, Nat.add_zero, Nat.zero_add, Nat.add_sub_cancel_left]
    exact ⟨.inr (.inr (.inl t0)), .inr (.inr (.inr (.inl ⟨t0, by omega, t1, rfl⟩))), .inr (.inr (.inr (.inl ⟨t0, by omega, t1, rfl⟩))), by omega, by omega, by omega⟩
  · have t0 : F h = 226 := htk 0 (by decide)
    have t1 : F (h + 1) = 128 := htk 1 (by decide)
    have t2 : F (h + 2) = 168 := htk 2 (by decide)
    have hw : wide = false := by cases wide; rfl; have := hwd.1 rfl; omega
    subst hw
    simp only [tok, List.length_cons, List.length_nil] at hlen ⊢
    simp only [Bool.false_eq_true, if_false, Nat.add_zero, Nat.zero_add, Nat.add_sub_cancel_left]
    exact ⟨.inr (.inr (.inr t0)), .inr (.inr (.inr (.inr ⟨t0, by omega, t1, .inl t2, rfl⟩))), .inr (.inr (.inr (.inr ⟨t0, by omega, t1, .inl t2, rfl⟩))), by omega, by omega, by omega⟩
  · have t0 : F h = 226 := htk 0 (by decide)
    have t1 : F (h + 1) = 128 := htk 1 (by decide)
    have t2 : F (h + 2) = 169 := htk 2 (by decide)
    have hw : wide = false := by cases wide; rfl; have := hwd.1 rfl; omega
    subst hw
    simp only [tok, List.length_cons, List.length_nil] at hlen ⊢
    simp only [Bool.false_eq_true, if_false, Nat.add_zero, Nat.zero_add, Nat.add_sub_cancel_left]
    exact ⟨.inr (.inr (.inr t0)), .inr (.inr (.inr (.inr ⟨t0, by omega, t1, .inr t2, rfl⟩))), .inr (.inr (.inr (.inr ⟨t0, by omega, t1, .inr t2, rfl⟩))), by omega, by omega, by omega⟩

theorem line_whole {F : Nat → Int} {h r N R : Nat} {wide : Bool} (l : Line F h r N wide) (hR : LE F N R) : R = wantOf h r wide := by
  obtain ⟨h1, h2, _, h4, h5, _⟩ := line_bs l
  rw [le_unique hR (by omega) h2 (nobs_head l.noE h1 N)]
  omega
theorem line_first {F : Nat → Int} {h r N R : Nat} {wide : Bool} (l : Line F h r N wide) (hR : LE F (wantOf h r wide) R) : R = wantOf h r wide := by
  obtain ⟨h1, _, h3, h4, _, _⟩ := line_bs l
  rw [le_unique hR h4 h3 (nobs_head l.noE h1 _)]
  omega

/-- lineBreak of the first line finds just the break -/
theorem line_sfx {F : Nat → Int} {h r N : Nat} {wide : Bool} (l : Line F h r N wide) :
    ∃ m, m < 6 ∧ Sfx F (wantOf h r wide) (brks m) ∧ (∀ j, j < m → ¬ Sfx F (wantOf h r wide) (brks j)) ∧ wantOf h r wide - (brks m).length = h ∧ (brks m).length = wantOf h r wide - h := by
  obtain ⟨noE, h6, htk, hlen, hwd⟩ := l
  unfold wantOf
  rcases (show r = 0 ∨ r = 1 ∨ r = 2 ∨ r = 3 ∨ r = 4 ∨ r = 5 by omega) with rfl | rfl | rfl | rfl | rfl | rfl
  · have t0 : F h = 10 := htk 0 (by decide)
    have hw : wide = false := by cases wide; rfl; have := hwd.1 rfl; omega
    subst hw
    simp only [tok, List.length_cons, List.length_nil, Bool.false_eq_true, if_false, Nat.add_zero, Nat.zero_add] at hlen ⊢
    refine ⟨1, by omega, sfx1.2 ⟨by omega, t0⟩, fun j hj => ?_, by simp only [brks, List.length_cons, List.length_nil]; omega, by simp only [brks, List.length_cons, List.length_nil]; omega⟩
    obtain rfl : j = 0 := by omega
    intro hs
    obtain ⟨g1, g2, g3⟩ := sfx2.1 hs
    rw [show h + 1 - 2 = h - 1 by omega] at g2
    exact noE h (by omega) (Nat.le_refl _) (.inl ⟨by omega, .inr g2⟩)
  · have t0 : F h = 13 := htk 0 (by decide)
    have t1 : F (h + 1) = 10 := htk 1 (by decide)
    have hw : wide = false := by cases wide; rfl; have := hwd.1 rfl; omega
    subst hw
    simp only [tok, List.length_cons, List.length_nil, Bool.false_eq_true, if_false, Nat.add_zero, Nat.zero_add, Nat.reduceAdd] at hlen ⊢
    exact ⟨0, by omega, sfx2.2 ⟨by omega, by rw [show h + 2 - 2 = h by omega]; exact t0, by rw [show h + 2 - 1 = h + 1 by omega]; exact t1⟩, fun j hj => by omega, by simp only [brks, List.length_cons, List.length_nil]; omega, by simp only [brks, List.length_cons, List.length_nil]; omega⟩
  · have t0 : F h = 13 := htk 0 (by decide)
    simp only [tok, List.length_cons, List.length_nil, Nat.zero_add] at hlen ⊢
    cases wide with
    | true =>
      obtain ⟨_, g1, g2⟩ := hwd.1 rfl
      simp only [if_true]
      exact ⟨0, by omega, sfx2.2 ⟨by omega, by rw [show h + 1 + 1 - 2 = h by omega]; exact t0, by rw [show h + 1 + 1 - 1 = h + 1 by omega]; exact g2⟩, fun j hj => by omega, by simp only [brks, List.length_cons, List.length_nil]; omega, by simp only [brks, List.length_cons, List.length_nil]; omega⟩
    | false =>
      simp only [Bool.false_eq_true, if_false, Nat.add_zero]
      refine ⟨2, by omega, sfx1.2 ⟨by omega, t0⟩, fun j hj hs => ?_, by simp only [brks, List.length_cons, List.length_nil]; omega, by simp only [brks, List.length_cons, List.length_nil]; omega⟩
      rcases (show j = 0 ∨ j = 1 by omega) with rfl | rfl
      · have := (sfx2.1 hs).2.2
        rw [show h + 1 - 1 = h by omega] at this; omega
      · have := (sfx1.1 hs).2
        rw [show h + 1 - 1 = h by omega] at this; omega
  · have t0 : F h = 194 := htk 0 (by decide)
    have t1 : F (h + 1) = 133 := htk 1 (by decide)
    have hw : wide = false := by cases wide; rfl; have := hwd.1 rfl; omega
    subst hw
    simp only [tok, List.length_cons, List.length_nil, Bool.false_eq_true, if_false, Nat.add_zero, Nat.zero_add, Nat.reduceAdd] at hlen ⊢
    refine ⟨3, by omega, sfx2.2 ⟨by omega, by rw [show h + 2 - 2 = h by omega]; exact t0, by rw [show h + 2 - 1 = h + 1 by omega]; exact t1⟩, fun j hj hs => ?_, by simp only [brks, List.length_cons, List.length_nil]; omega, by simp only [brks, List.length_cons, List.length_nil]; omega⟩
    rcases (show j = 0 ∨ j = 1 ∨ j = 2 by omega) with rfl | rfl | rfl
    · have := (sfx2.1 hs).2.2
      rw [show h + 2 - 1 = h + 1 by omega] at this; omega
    · have := (sfx1.1 hs).2
      rw [show h + 2 - 1 = h + 1 by omega] at this; omega
    · have := (sfx1.1 hs).2
      rw [show h + 2 - 1 = h + 1 by omega] at this; omega
  · have t0 : F h = 226 := htk 0 (by decide)
    have t1 : F (h + 1) = 128 := htk 1 (by decide)
    have t2 : F (h + 2) = 168 := htk 2 (by decide)
    have hw : wide = false := by cases wide; rfl; have := hwd.1 rfl; omega
    subst hw
    simp only [tok, List.length_cons, List.length_nil, Bool.false_eq_true, if_false, Nat.add_zero, Nat.zero_add, Nat.reduceAdd] at hlen ⊢
    refine ⟨4, by omega, sfx3.2 ⟨by omega, by rw [show h + 3 - 3 = h by omega]; exact t0, by rw [show h + 3 - 2 = h + 1 by omega]; exact t1, by rw [show h + 3 - 1 = h + 2 by omega]; exact t2⟩, fun j hj hs => ?_, by simp only [brks, List.length_cons, List.length_nil]; omega, by simp only [brks, List.length_cons, List.length_nil]; omega⟩
    rcases (show j = 0 ∨ j = 1 ∨ j = 2 ∨ j = 3 by omega) with rfl | rfl | rfl | rfl
    · have := (sfx2.1 hs).2.2
      rw [show h + 3 - 1 = h + 2 by omega] at this; omega
    · have := (sfx1.1 hs).2
      rw [show h + 3 - 1 = h + 2 by omega] at this; omega
    · have := (sfx1.1 hs).2
      rw [show h + 3 - 1 = h + 2 by omega] at this; omega
    · have := (sfx2.1 hs).2.2
      rw [show h + 3 - 1 = h + 2 by omega] at this; omega
  · have t0 : F h = 226 := htk 0 (by decide)
    have t1 : F (h + 1) = 128 := htk 1 (by decide)
    have t2 : F (h + 2) = 169 := htk 2 (by decide)
    have hw : wide = false := by cases wide; rfl; have := hwd.1 rfl; omega
    subst hw
    simp only [tok, List.length_cons, List.length_nil, Bool.false_eq_true, if_false, Nat.add_zero, Nat.zero_add, Nat.reduceAdd] at hlen ⊢
    refine ⟨5, by omega, sfx3.2 ⟨by omega, by rw [show h + 3 - 3 = h by omega]; exact t0, by rw [show h + 3 - 2 = h + 1 by omega]; exact t1, by rw [show h + 3 - 1 = h + 2 by omega]; exact t2⟩, fun j hj hs => ?_, by simp only [brks, List.length_cons, List.length_nil]; omega, by simp only [brks, List.length_cons, List.length_nil]; omega⟩
    rcases (show j = 0 ∨ j = 1 ∨ j = 2 ∨ j = 3 ∨ j = 4 by omega) with rfl | rfl | rfl | rfl | rfl
    · have := (sfx2.1 hs).2.2
      rw [show h + 3 - 1 = h + 2 by omega] at this; omega
    · have := (sfx1.1 hs).2
      rw [show h + 3 - 1 = h + 2 by omega] at this; omega
    · have := (sfx1.1 hs).2
      rw [show h + 3 - 1 = h + 2 by omega] at this; omega
    · have := (sfx2.1 hs).2.2
      rw [show h + 3 - 1 = h + 2 by omega] at this; omega
    · have := (sfx3.1 hs).2.2.2
      rw [show h + 3 - 1 = h + 2 by omega] at this; omega
end Go.Proofs.Qxb6601005aMods
