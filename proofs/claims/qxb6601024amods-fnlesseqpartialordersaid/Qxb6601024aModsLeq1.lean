import Derived.Test.Qxb6601024aModsRows
import Derived.WalkKit
import Derived.WalkSpells
import Derived.WalkLawsBesides
namespace Go.Proofs.Qxb6601024aMods
open Go.RowKit

theorem ret_int {k : IntKind} {a b : Int} (h : a = b) : Ending.returned (.int k a) = .returned (.int k b) := by rw [h]
theorem ret_bool {a b : Bool} (h : a = b) : Ending.returned (.bool a) = .returned (.bool b) := by rw [h]

def WordsAt (w : World) (b o n : Nat) (f : Nat → Int) : Prop := ∀ i, i < n → w.cell? ⟨b, o + i, none⟩ = some (.int .u64 (f i))
theorem WordsAt.below {w w' : World} {b o n : Nat} {f : Nat → Int} (h : WordsAt w b o n f) {B : Nat} (hb : Below B w w') (hg : b < B) : WordsAt w' b o n f :=
  fun i hi => (hb.cell (by exact hg)).trans (h i hi)

/-- a slice of words: where it has an element, its words lie at some address; its words are not negative -/
def Wd (w : World) (a : Option Addr) (n : Nat) (f : Nat → Int) : Prop :=
  n ≤ 1048576 ∧ (∀ i, i < n → 0 ≤ f i) ∧ (1 ≤ n → ∃ b o, a = some ⟨b, o, none⟩ ∧ b < w.heap.size ∧ WordsAt w b o n f)
theorem Wd.below {w w' : World} {a : Option Addr} {n : Nat} {f : Nat → Int} (h : Wd w a n f) {B : Nat} (hb : Below B w w') (hB : w.heap.size ≤ B) : Wd w' a n f :=
  ⟨h.1, h.2.1, fun h1 => by obtain ⟨b, o, e1, e2, e3⟩ := h.2.2 h1; exact ⟨b, o, e1, Nat.lt_of_lt_of_le e2 hb.size, e3.below hb (by omega)⟩⟩

/-- the i-th part, zero beyond the end -/
def pt (f : Nat → Int) (n i : Nat) : Int := if i < n then f i else 0

theorem longer_any (n m : Nat) (w : World) : Calls Trym.prog 11 #[.int .i64 n, .int .i64 m] w fun e w' => e = .returned (.int .i64 (max n m : Nat)) ∧ w = w' := by
  by_cases h : n < m
  · have HM : Hid (max n m = m) := Nat.max_eq_right (by omega)
    go_enter Trym.func11, Trym.ntmps11
    go_wp2
    go_ret
    exact ⟨ret_int (by rw [HM.out]), rfl⟩
  · have HM : Hid (max n m = n) := Nat.max_eq_left (by omega)
    go_enter Trym.func11, Trym.ntmps11
    go_wp2
    go_ret
    exact ⟨ret_int (by rw [HM.out]), rfl⟩

theorem part_in (b o n c i : Nat) (x : Int) (w : World) (hi : i < n) (hc : w.cell? ⟨b, o + i, none⟩ = some (.int .u64 x)) :
    Calls Trym.prog 12 #[.slice (some ⟨b, o, none⟩) n c, .int .i64 i] w fun e w' => e = .returned (.int .u64 x) ∧ w = w' := by
  go_enter Trym.func12, Trym.ntmps12
  go_wp2
  go_ret
  exact ⟨rfl, rfl⟩
theorem part_out (a : Option Addr) (n c i : Nat) (w : World) (hi : n ≤ i) :
    Calls Trym.prog 12 #[.slice a n c, .int .i64 i] w fun e w' => e = .returned (.int .u64 0) ∧ w = w' := by
  have t1 : decide ((i : Int) < (n : Int)) = false := decide_eq_false (by omega)
  have t2 : decide (i < n) = false := decide_eq_false (by omega)
  go_enter Trym.func12, Trym.ntmps12
  go_wp2
  go_ret
  exact ⟨rfl, rfl⟩
theorem part_any (a : Option Addr) (n c i : Nat) (f : Nat → Int) (w : World) (h : Wd w a n f) :
    Calls Trym.prog 12 #[.slice a n c, .int .i64 i] w fun e w' => e = .returned (.int .u64 (pt f n i)) ∧ w = w' := by
  unfold pt
  by_cases hi : i < n
  · rw [if_pos hi]
    obtain ⟨b, o, rfl, _, e3⟩ := h.2.2 (by omega)
    exact part_in b o n c i (f i) w hi (e3 i hi)
  · rw [if_neg hi]
    exact part_out a n c i w (by omega)

/-- no word of f is greater than the same word of g -/
def LeP (f : Nat → Int) (n : Nat) (g : Nat → Int) (m : Nat) : Prop := ∀ j, j < n → f j = 0 ∨ (j < m ∧ f j ≤ g j)

set_option maxHeartbeats 400000 in
theorem less_zero (a : Option Addr) (c : Nat) (b : Option Addr) (m d : Nat) (w : World) :
    Calls Trym.prog 13 #[.slice a 0 c, .slice b m d] w fun e w' => e = .returned (.bool true) ∧ w = w' := by
  go_enter Trym.func13, Trym.ntmps13
  go_wp2
  go_loop [9] (fun si => si = .int .i64 0) (fun _ => 0)
  case atStart => rfl
  case round =>
    subst hrel
    go_wp2
    go_ret
    exact ⟨rfl, rfl⟩

set_option maxHeartbeats 1000000 in
theorem less_some (b1 o1 n c : Nat) (f : Nat → Int) (a : Option Addr) (m d : Nat) (g : Nat → Int) (w : World) (hn : n ≤ 1048576) (hm : m ≤ 1048576) (hc : WordsAt w b1 o1 n f) (b2 o2 : Nat) (ha : 1 ≤ m → a = some ⟨b2, o2, none⟩) (hd : WordsAt w b2 o2 m g) :
    Calls Trym.prog 13 #[.slice (some ⟨b1, o1, none⟩) n c, .slice a m d] w fun e w' => (e = .returned (.bool true) ∧ LeP f n g m ∨ e = .returned (.bool false) ∧ ¬ LeP f n g m) ∧ w = w' := by
  by_cases h0 : m = 0
  · have hz : ∀ j, ¬ j < m := fun j => by omega
    have HZ : Hid (∀ j, ¬ j < m) := hz
    have hm0 : m ≤ 0 := by omega
    clear h0 hd ha hz
    go_enter Trym.func13, Trym.ntmps13
    go_wp2
    go_loop [9] (fun si => ∃ k : Nat, k ≤ n ∧ si = .int .i64 k ∧ LeP f k g m) (fun si => n - (intOf si).toNat)
    case atStart => exact ⟨0, Nat.zero_le _, rfl, fun j hj => by omega⟩
    case round =>
      obtain ⟨k, hk, rfl, hno⟩ := hrel
      by_cases hlt : k < n
      · have c0 := hc k hlt
        by_cases hx : f k = 0
        · have hno' : LeP f (k + 1) g m := fun j hj => by
            by_cases he : j = k
            · subst he; exact .inl hx
            · exact hno j (by omega)
          have e1 : (f k == 0) = true := beq_iff_eq.2 hx
          clear hx hc
          go_wp2
          go_round
          case rel => exact ⟨k + 1, by omega, by go_num, hno'⟩
          case measure => simp [intOf]; omega
        · have HB : Hid (¬ LeP f n g m) := fun h => by
            rcases h k hlt with h | h
            · exact hx h
            · exact HZ.out k h.1
          have e1 : (f k == 0) = false := beq_eq_false_iff_ne.2 hx
          clear hx hc
          go_wp2
          go_ret
          exact ⟨.inr ⟨rfl, HB.out⟩, rfl⟩
      · have HB : Hid (LeP f n g m) := fun j hj => hno j (by omega)
        go_wp2
        go_ret
        exact ⟨.inl ⟨rfl, HB.out⟩, rfl⟩
  · obtain rfl := ha (by omega)
    clear h0 ha
    go_enter Trym.func13, Trym.ntmps13
    go_wp2
    go_loop [9] (fun si => ∃ k : Nat, k ≤ n ∧ si = .int .i64 k ∧ LeP f k g m) (fun si => n - (intOf si).toNat)
    case atStart => exact ⟨0, Nat.zero_le _, rfl, fun j hj => by omega⟩
    case round =>
      obtain ⟨k, hk, rfl, hno⟩ := hrel
      by_cases hlt : k < n
      · have c0 := hc k hlt
        by_cases hx : f k = 0
        · have hno' : LeP f (k + 1) g m := fun j hj => by
            by_cases he : j = k
            · subst he; exact .inl hx
            · exact hno j (by omega)
          have e1 : (f k == 0) = true := beq_iff_eq.2 hx
          clear hx hc
          go_wp2
          go_round
          case rel => exact ⟨k + 1, by omega, by go_num, hno'⟩
          case measure => simp [intOf]; omega
        · have e1 : (f k == 0) = false := beq_eq_false_iff_ne.2 hx
          by_cases hkm : k < m
          · have d0 := hd k hkm
            by_cases hgt : g k < f k
            · have HB : Hid (¬ LeP f n g m) := fun h => by
                rcases h k hlt with h | h
                · exact hx h
                · omega
              clear hx hc hd
              go_wp2
              go_ret
              exact ⟨.inr ⟨rfl, HB.out⟩, rfl⟩
            · have hno' : LeP f (k + 1) g m := fun j hj => by
                by_cases he : j = k
                · subst he; exact .inr ⟨hkm, by omega⟩
                · exact hno j (by omega)
              clear hx hc hd
              go_wp2
              go_round
              case rel => exact ⟨k + 1, by omega, by go_num, hno'⟩
              case measure => simp [intOf]; omega
          · have HB : Hid (¬ LeP f n g m) := fun h => by
              rcases h k hlt with h | h
              · exact hx h
              · exact hkm h.1
            clear hx hc hd
            go_wp2
            go_ret
            exact ⟨.inr ⟨rfl, HB.out⟩, rfl⟩
      · have HB : Hid (LeP f n g m) := fun j hj => hno j (by omega)
        go_wp2
        go_ret
        exact ⟨.inl ⟨rfl, HB.out⟩, rfl⟩

theorem less_any (a : Option Addr) (n c : Nat) (f : Nat → Int) (b : Option Addr) (m d : Nat) (g : Nat → Int) (w : World) (h1 : Wd w a n f) (h2 : Wd w b m g) :
    Calls Trym.prog 13 #[.slice a n c, .slice b m d] w fun e w' => (e = .returned (.bool true) ∧ LeP f n g m ∨ e = .returned (.bool false) ∧ ¬ LeP f n g m) ∧ w = w' := by
  by_cases h0 : n = 0
  · subst h0
    exact (less_zero a c b m d w).mono fun e w' ⟨q1, q2⟩ => ⟨.inl ⟨q1, fun j hj => by omega⟩, q2⟩
  · obtain ⟨b1, o1, rfl, _, e3⟩ := h1.2.2 (by omega)
    by_cases hm : m = 0
    · exact less_some b1 o1 n c f b m d g w h1.1 h2.1 e3 0 0 (fun h => by omega) (fun i hi => by omega)
    · obtain ⟨b2, o2, rfl, _, q3⟩ := h2.2.2 (by omega)
      exact less_some b1 o1 n c f _ m d g w h1.1 h2.1 e3 b2 o2 (fun _ => rfl) q3
end Go.Proofs.Qxb6601024aMods
