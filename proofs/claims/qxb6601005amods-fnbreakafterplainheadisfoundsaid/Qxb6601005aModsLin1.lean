import Derived.Test.Qxb6601005aModsRows
import Derived.WalkKit
import Derived.WalkSpells
import Derived.WalkLawsBesides
namespace Go.Proofs.Qxb6601005aMods
open Go.RowKit

theorem ret_int {k : IntKind} {a b : Int} (h : a = b) : Ending.returned (.int k a) = .returned (.int k b) := by rw [h]
theorem ret_bool {a b : Bool} (h : a = b) : Ending.returned (.bool a) = .returned (.bool b) := by rw [h]

/-- the bytes f 0 .. f (n - 1) lie at block b from cell o on -/
def BytesAt (w : World) (b o n : Nat) (f : Nat → Int) : Prop := ∀ i, i < n → w.cell? ⟨b, o + i, none⟩ = some (.int .u8 (f i))
theorem BytesAt.below {w w' : World} {b o n : Nat} {f : Nat → Int} (h : BytesAt w b o n f) {B : Nat} (hb : Below B w w') (hg : b < B) : BytesAt w' b o n f :=
  fun i hi => (hb.cell (by exact hg)).trans (h i hi)
theorem BytesAt.take {w : World} {b o n : Nat} {f : Nat → Int} (h : BytesAt w b o n f) {m : Nat} (hm : m ≤ n) : BytesAt w b o m f :=
  fun i hi => h i (by omega)

/-- the first n bytes end in a line break -/
def Eb (f : Nat → Int) (n : Nat) : Prop :=
  (1 ≤ n ∧ (f (n - 1) = 10 ∨ f (n - 1) = 13)) ∨ (2 ≤ n ∧ f (n - 2) = 194 ∧ f (n - 1) = 133) ∨ (3 ≤ n ∧ f (n - 3) = 226 ∧ f (n - 2) = 128 ∧ (f (n - 1) = 168 ∨ f (n - 1) = 169))

set_option maxHeartbeats 1000000 in
theorem ends_three (b o n c : Nat) (f : Nat → Int) (w : World) (h3 : 3 ≤ n) (hm : n ≤ 9223372036854775807) (hc : BytesAt w b o n f) :
    Calls Trym.prog 18 #[.slice (some ⟨b, o, none⟩) n c] w fun e w' => (e = .returned (.bool true) ∧ Eb f n ∨ e = .returned (.bool false) ∧ ¬ Eb f n) ∧ w = w' := by
  have c1 := hc (n - 1) (by omega)
  have c2 := hc (n - 2) (by omega)
  have c3 := hc (n - 3) (by omega)
  clear hc
  generalize hp : f (n - 1) = p at *
  generalize hq : f (n - 2) = q at *
  generalize hr : f (n - 3) = r at *
  have HP := hp; have HQ := hq; have HR := hr
  have H : Hid (f (n - 1) = p ∧ f (n - 2) = q ∧ f (n - 3) = r) := ⟨HP, HQ, HR⟩
  clear hp hq hr HP HQ HR
  go_enter Trym.func18, Trym.ntmps18
  go_wp2
  all_goals
    go_ret
    obtain ⟨hp, hq, hr⟩ := H.out
    clear H c1 c2 c3
    refine ⟨?_, rfl⟩
    simp only [beq_iff_eq, beq_eq_false_iff_ne, ne_eq] at *
    first
      | exact .inl ⟨rfl, by unfold Eb; omega⟩
      | exact .inr ⟨rfl, by unfold Eb; omega⟩
end Go.Proofs.Qxb6601005aMods
