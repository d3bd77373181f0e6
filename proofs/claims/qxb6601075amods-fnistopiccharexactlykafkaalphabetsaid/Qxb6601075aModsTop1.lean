import Derived.Test.Qxb6601075aModsRows
import Derived.WalkKit
import Derived.WalkSpells
import Derived.WalkLawsBesides
namespace Go.Proofs.Qxb6601075aMods
open Go.RowKit

theorem ret_bool {a b : Bool} (h : a = b) : Ending.returned (.bool a) = .returned (.bool b) := by rw [h]

/-- the 65 characters, as ranges -/
def Top (r : Int) : Prop := (97 ≤ r ∧ r ≤ 122) ∨ (65 ≤ r ∧ r ≤ 90) ∨ (48 ≤ r ∧ r ≤ 57) ∨ r = 46 ∨ r = 95 ∨ r = 45

/-- the 65 characters, as they are listed -/
def chars : List Int := [97, 98, 99, 100, 101, 102, 103, 104, 105, 106, 107, 108, 109, 110, 111, 112, 113, 114, 115, 116, 117, 118, 119, 120, 121, 122, 65, 66, 67, 68, 69, 70, 71, 72, 73, 74, 75, 76, 77, 78, 79, 80, 81, 82, 83, 84, 85, 86, 87, 88, 89, 90, 48, 49, 50, 51, 52, 53, 54, 55, 56, 57, 46, 95, 45]
theorem chars_top : ∀ x ∈ chars, Top x := by
  intro x hx
  unfold chars at hx
  simp only [List.mem_cons, List.not_mem_nil, or_false] at hx
  unfold Top
  omega
theorem top_chars {r : Int} (h : Top r) : r ∈ chars := by
  unfold chars
  simp only [List.mem_cons, List.not_mem_nil, or_false]
  unfold Top at h
  omega
theorem top_at {r : Int} (h : Top r) : ∃ k, k < 65 ∧ chars.getD k 0 = r := by
  obtain ⟨k, hk, e⟩ := List.mem_iff_getElem.1 (top_chars h)
  exact ⟨k, hk, by rw [List.getD_eq_getElem?_getD, List.getElem?_eq_getElem hk, Option.getD_some]; exact e⟩
theorem at_top {k : Nat} (hk : k < 65) : Top (chars.getD k 0) := by
  have hk' : k < chars.length := hk
  rw [List.getD_eq_getElem?_getD, List.getElem?_eq_getElem hk', Option.getD_some]
  exact chars_top _ (List.getElem_mem hk')

theorem char_at : ∀ (k : Fin 65), wrap32 (((⟨#[97, 98, 99, 100, 101, 102, 103, 104, 105, 106, 107, 108, 109, 110, 111, 112, 113, 114, 115, 116, 117, 118, 119, 120, 121, 122, 65, 66, 67, 68, 69, 70, 71, 72, 73, 74, 75, 76, 77, 78, 79, 80, 81, 82, 83, 84, 85, 86, 87, 88, 89, 90, 48, 49, 50, 51, 52, 53, 54, 55, 56, 57, 46, 95, 45]⟩ : ByteArray)[k.val]'(by have := k.isLt; exact this)).toNat : Int) = chars.getD k.val 0 := by decide +kernel

set_option maxHeartbeats 1000000 in
theorem isTopic (r : Int) (w : World) :
    Calls Trym.prog 6 #[.int .i32 r] w fun e w' => (e = .returned (.bool true) ∧ Top r ∨ e = .returned (.bool false) ∧ ¬ Top r) ∧ w = w' := by
  rcases (show r = 45 ∨ r = 46 ∨ r = 95 ∨ (r ≠ 45 ∧ r ≠ 46 ∧ r ≠ 95) by omega) with h45 | h46 | h95 | ⟨n1, n2, n3⟩
  · subst h45
    go_enter Trym.func6, Trym.ntmps6
    go_wp2
    go_ret
    exact ⟨.inl ⟨rfl, by unfold Top; omega⟩, rfl⟩
  · subst h46
    go_enter Trym.func6, Trym.ntmps6
    go_wp2
    go_ret
    exact ⟨.inl ⟨rfl, by unfold Top; omega⟩, rfl⟩
  · subst h95
    go_enter Trym.func6, Trym.ntmps6
    go_wp2
    go_ret
    exact ⟨.inl ⟨rfl, by unfold Top; omega⟩, rfl⟩
  · have e1 : (r == 45) = false := beq_eq_false_iff_ne.2 n1
    have e2 : (r == 46) = false := beq_eq_false_iff_ne.2 n2
    have e3 : (r == 95) = false := beq_eq_false_iff_ne.2 n3
    have HN : Hid (r < 45 ∨ 46 < r) := by unfold Hid; omega
    have HM : Hid (r < 95 ∨ 95 < r) := by unfold Hid; omega
    clear n1 n2 n3
    go_enter Trym.func6, Trym.ntmps6
    go_wp2
    all_goals
      go_ret
      have hN := HN.out
      have hM := HM.out
      refine ⟨?_, rfl⟩
      first
        | exact .inl ⟨rfl, by unfold Top; omega⟩
        | exact .inr ⟨rfl, by unfold Top; omega⟩

theorem zisTopic (r : Int) (w : World) :
    Calls Trym.prog 4 #[.int .i32 r] w fun e w' => (e = .returned (.bool true) ∧ Top r ∨ e = .returned (.bool false) ∧ ¬ Top r) ∧ w = w' := by
  go_enter Trym.func4, Trym.ntmps4
  go_wp2_with fail
  refine (isTopic r w).mono ?_
  rintro e w' ⟨hd, rfl⟩
  rcases hd with ⟨rfl, ht⟩ | ⟨rfl, ht⟩
  · go_wp2
    go_ret
    exact ⟨.inl ⟨rfl, ht⟩, rfl⟩
  · go_wp2
    go_ret
    exact ⟨.inr ⟨rfl, ht⟩, rfl⟩

set_option maxHeartbeats 1000000 in
theorem inAlpha (r : Int) (w : World) :
    Calls Trym.prog 5 #[.int .i32 r] w fun e w' => (e = .returned (.bool true) ∧ Top r ∨ e = .returned (.bool false) ∧ ¬ Top r) ∧ w = w' := by
  go_enter Trym.func5, Trym.ntmps5
  go_wp2
  go_loop [3] (fun si => ∃ k : Nat, k ≤ 65 ∧ si = .int .i64 k ∧ ∀ j, j < k → chars.getD j 0 ≠ r) (fun si => 65 - (intOf si).toNat)
  case atStart => exact ⟨0, Nat.zero_le _, rfl, fun j hj => by omega⟩
  case round =>
    obtain ⟨k, hk, rfl, hno⟩ := hrel
    have HO : Hid (∀ j, j < k → chars.getD j 0 ≠ r) := hno
    clear hno
    by_cases hlt : k < 65
    · have hca := char_at ⟨k, hlt⟩
      simp only at hca
      by_cases he : chars.getD k 0 = r
      · have HT : Hid (Top r) := by unfold Hid; rw [← he]; exact at_top hlt
        have e1 : (wrap32 (((⟨#[97, 98, 99, 100, 101, 102, 103, 104, 105, 106, 107, 108, 109, 110, 111, 112, 113, 114, 115, 116, 117, 118, 119, 120, 121, 122, 65, 66, 67, 68, 69, 70, 71, 72, 73, 74, 75, 76, 77, 78, 79, 80, 81, 82, 83, 84, 85, 86, 87, 88, 89, 90, 48, 49, 50, 51, 52, 53, 54, 55, 56, 57, 46, 95, 45]⟩ : ByteArray)[k]'(by exact hlt)).toNat : Int) == r) = true := by rw [hca, he]; exact beq_self_eq_true r
        clear he hca
        go_wp2
        go_ret
        exact ⟨.inl ⟨rfl, HT.out⟩, rfl⟩
      · have e1 : (wrap32 (((⟨#[97, 98, 99, 100, 101, 102, 103, 104, 105, 106, 107, 108, 109, 110, 111, 112, 113, 114, 115, 116, 117, 118, 119, 120, 121, 122, 65, 66, 67, 68, 69, 70, 71, 72, 73, 74, 75, 76, 77, 78, 79, 80, 81, 82, 83, 84, 85, 86, 87, 88, 89, 90, 48, 49, 50, 51, 52, 53, 54, 55, 56, 57, 46, 95, 45]⟩ : ByteArray)[k]'(by exact hlt)).toNat : Int) == r) = false := by rw [hca]; exact beq_eq_false_iff_ne.2 he
        have hno' : Hid (∀ j, j < k + 1 → chars.getD j 0 ≠ r) := fun j hj => by
          by_cases hjk : j = k
          · subst hjk; exact he
          · exact HO.out j (by omega)
        clear he hca
        go_wp2
        go_round
        case rel => exact ⟨k + 1, by omega, by go_num, hno'.out⟩
        case measure => simp [intOf]; omega
    · have HT : Hid (¬ Top r) := fun ht => by
        obtain ⟨j, hj, e⟩ := top_at ht
        exact HO.out j (by omega) e
      go_wp2
      go_ret
      exact ⟨.inr ⟨rfl, HT.out⟩, rfl⟩

theorem topic_law (r : Int) (w : World) :
    Calls Trym.prog 3 #[.int .i32 r] w fun e w' => e = .returned (.bool true) ∧ w = w' := by
  go_enter Trym.func3, Trym.ntmps3
  go_wp2_with fail
  refine (zisTopic r w).mono ?_
  rintro e w' ⟨hd, rfl⟩
  rcases hd with ⟨rfl, ht⟩ | ⟨rfl, ht⟩
  · go_wp2_with fail
    refine (inAlpha r w).mono ?_
    rintro e w' ⟨hd, rfl⟩
    rcases hd with ⟨rfl, _⟩ | ⟨rfl, hn⟩
    · go_wp2
      go_ret
      exact ⟨rfl, rfl⟩
    · exact absurd ht hn
  · go_wp2_with fail
    refine (inAlpha r w).mono ?_
    rintro e w' ⟨hd, rfl⟩
    rcases hd with ⟨rfl, hy⟩ | ⟨rfl, _⟩
    · exact absurd hy ht
    · go_wp2
      go_ret
      exact ⟨rfl, rfl⟩
end Go.Proofs.Qxb6601075aMods
