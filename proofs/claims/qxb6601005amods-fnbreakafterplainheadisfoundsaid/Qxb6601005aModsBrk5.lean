import Derived.Test.Qxb6601005aModsBrk4
namespace Go.Proofs.Qxb6601005aMods
open Go.RowKit

/-- a slice of bytes that came in -/
def Inb (w : World) (a : Option Addr) (n c : Nat) (f : Nat → Int) : Prop :=
  n ≤ c ∧ (a = none → n = 0 ∧ c = 0) ∧ (∀ i, i < n → 0 ≤ f i ∧ f i ≤ 255) ∧ (1 ≤ n → ∃ b o, a = some ⟨b, o, none⟩ ∧ b < w.heap.size ∧ BytesAt w b o n f)
/-- its clone -/
def Src (w : World) (a : Option Addr) (n c : Nat) (f : Nat → Int) : Prop :=
  (a = none ∧ n = 0 ∧ c = 0) ∨ (∃ g, a = some ⟨g, 0, none⟩ ∧ g < w.heap.size ∧ c = n ∧ BytesAt w g 0 n f)
theorem Inb.below {w w' : World} {a : Option Addr} {n c : Nat} {f : Nat → Int} (h : Inb w a n c f) (hb : Below w.heap.size w w') : Inb w' a n c f :=
  ⟨h.1, h.2.1, h.2.2.1, fun h1 => by obtain ⟨b, o, e1, e2, e3⟩ := h.2.2.2 h1; exact ⟨b, o, e1, Nat.lt_of_lt_of_le e2 hb.size, e3.below hb e2⟩⟩
theorem Src.below {w w' : World} {a : Option Addr} {n c : Nat} {f : Nat → Int} (h : Src w a n c f) {B : Nat} (hb : Below B w w') (hB : w.heap.size ≤ B) : Src w' a n c f := by
  rcases h with h | ⟨g, e1, e2, e3, e4⟩
  · exact .inl h
  · exact .inr ⟨g, e1, Nat.lt_of_lt_of_le e2 hb.size, e3, e4.below hb (by omega)⟩

theorem clone_any (a : Option Addr) (n c : Nat) (f : Nat → Int) (w : World) (hm : n ≤ 1048576) (h : Inb w a n c f) :
    Calls Trym.prog 7 #[.slice a n c] w fun e w' => (∃ ao cc, e = .returned (.slice ao n cc) ∧ Src w' ao n cc f) ∧ Below w.heap.size w w' := by
  obtain ⟨h1, h2, _, h3⟩ := h
  cases a with
  | none =>
    obtain ⟨rfl, rfl⟩ := h2 rfl
    exact (clone_nil w).mono fun e w' ⟨h1, h2⟩ => by subst h2; exact ⟨⟨none, 0, h1, .inl ⟨rfl, rfl, rfl⟩⟩, Below.refl _ _⟩
  | some x =>
    by_cases h0 : n = 0
    · subst h0
      exact (clone_zero x c w).mono fun e w' ⟨h1, h2, h3⟩ => ⟨⟨_, _, h1, .inr ⟨w.heap.size, rfl, h2, rfl, fun i hi => by omega⟩⟩, h3⟩
    · obtain ⟨b, o, e1, e2, e3⟩ := h3 (by omega)
      obtain rfl := Option.some.inj e1
      exact (clone_some b o n c f w hm e2 e3).mono fun e w' ⟨h1, h2, h3, h4⟩ => ⟨⟨_, _, h1, .inr ⟨w.heap.size, rfl, h3, rfl, h2⟩⟩, h4⟩

theorem nobreak_any (a : Option Addr) (n c : Nat) (f : Nat → Int) (w : World) (hm : n ≤ 1048576) (h : Inb w a n c f) :
    Calls Trym.prog 15 #[.slice a n c] w fun e w' => (e = .returned (.bool false) ∨ e = .returned (.bool true) ∧ ∀ d, 1 ≤ d → d ≤ n → ¬ Eb f d) ∧ w = w' := by
  by_cases h0 : n = 0
  · subst h0
    exact (nobreak_zero a c w).mono fun e w' ⟨h1, h2⟩ => ⟨.inr ⟨h1, fun d h3 h4 => by omega⟩, h2⟩
  · obtain ⟨b, o, rfl, e2, e3⟩ := h.2.2.2 (by omega)
    exact nobreak_some b o n c f w hm h.1 e3

/-- the cells to append -/
def u8s (xs : List Int) : List Value := xs.map (Value.int .u8)
theorem u8s_app (xs ys : List Int) : u8s xs ++ u8s ys = u8s (xs ++ ys) := by simp [u8s]
theorem src_cells {w : World} {a : Option Addr} {n c : Nat} {f : Nat → Int} (h : Src w a n c f) : ∀ ad, a = some ad → ∀ j u, (u8s (cutAt f 0 n))[j]? = some u → w.cell? (ad.add j) = some u := by
  intro ad had j u hu
  have hj : j < n := by
    have := (List.getElem?_eq_some_iff.1 hu).1
    simpa [u8s, cutAt] using this
  rcases h with ⟨h, _⟩ | ⟨g, e1, _, _, e4⟩
  · rw [h] at had; cases had
  · rw [e1] at had
    obtain rfl := Option.some.inj had
    rw [Addr.add_lit]
    rw [e4 j hj, ← hu]
    simp [u8s, cutAt, hj]
theorem src_none {w : World} {a : Option Addr} {n c : Nat} {f : Nat → Int} (h : Src w a n c f) : a = none → n = 0 ∧ c = 0 := by
  intro e
  rcases h with ⟨_, h⟩ | ⟨g, e1, _⟩
  · exact h
  · rw [e] at e1; cases e1
theorem tok_cells {w : World} {g r : Nat} (h : ∀ i, i < (tok r).length → w.cell? ⟨g, 0 + i, none⟩ = some (.int .u8 ((tok r).getD i 0))) : ∀ j u, (u8s (tok r))[j]? = some u → w.cell? ((⟨g, 0, none⟩ : Addr).add j) = some u := by
  intro j u hu
  have hj : j < (tok r).length := by
    have := (List.getElem?_eq_some_iff.1 hu).1
    simpa [u8s] using this
  rw [Addr.add_lit, h j hj, ← hu]
  simp [u8s, List.getD_eq_getElem?_getD, hj]
theorem own_bytes {w : World} {base g n c : Nat} {xs : List Int} (hx : xs.length = n) (h : w.ownsRow base 5 1 (.slice (some ⟨g, 0, none⟩) n c) n (u8s xs)) : BytesAt w g 0 n (fun i => xs.getD i 0) := by
  intro i hi
  rw [Nat.zero_add, h.cellAt i (by omega)]
  simp [u8s, List.getD_eq_getElem?_getD, show i < xs.length by omega]
end Go.Proofs.Qxb6601005aMods
