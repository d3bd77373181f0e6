import Derived.Test.Qxb6601005aModsLin2
import Derived.Deep.Light
namespace Go.Proofs.Qxb6601005aMods
open Go.RowKit

/-- a break of L bytes begins at i -/
def Bs (f : Nat → Int) (n i L : Nat) : Prop :=
  (f i = 10 ∧ L = 1) ∨ (f i = 13 ∧ (i + 1 < n ∧ f (i + 1) = 10) ∧ L = 2) ∨ (f i = 13 ∧ ¬ (i + 1 < n ∧ f (i + 1) = 10) ∧ L = 1) ∨ (f i = 194 ∧ i + 1 < n ∧ f (i + 1) = 133 ∧ L = 2) ∨
  (f i = 226 ∧ i + 2 < n ∧ f (i + 1) = 128 ∧ (f (i + 2) = 168 ∨ f (i + 2) = 169) ∧ L = 3)
/-- none begins there -/
def NoBs (f : Nat → Int) (n i : Nat) : Prop :=
  f i ≠ 10 ∧ f i ≠ 13 ∧ ¬ (f i = 194 ∧ i + 1 < n ∧ f (i + 1) = 133) ∧ ¬ (f i = 226 ∧ i + 2 < n ∧ f (i + 1) = 128 ∧ (f (i + 2) = 168 ∨ f (i + 2) = 169))
/-- what lineEnd comes to -/
def LE (f : Nat → Int) (n R : Nat) : Prop :=
  (∃ i L, i < n ∧ Bs f n i L ∧ (∀ j, j < i → NoBs f n j) ∧ R = i + L) ∨ ((∀ j, j < n → NoBs f n j) ∧ R = n)
theorem le_hit {f : Nat → Int} {n k : Nat} (hk : k < n) (hno : ∀ j, j < k → NoBs f n j) (L : Nat) (hb : Bs f n k L) : LE f n (k + L) := .inl ⟨k, L, hk, hb, hno, rfl⟩
theorem no_step {f : Nat → Int} {n k : Nat} (hno : ∀ j, j < k → NoBs f n j) (h : NoBs f n k) : ∀ j, j < k + 1 → NoBs f n j := fun j hj => by
  by_cases he : j = k
  · subst he; exact h
  · exact hno j (by omega)

set_option maxRecDepth 100000 in
set_option maxHeartbeats 2000000 in
theorem line_some (b n c : Nat) (f : Nat → Int) (w : World) (hm : n ≤ 2097152) (hc : BytesAt w b 0 n f) :
    Calls Trym.prog 17 #[.slice (some ⟨b, 0, none⟩) n c] w fun e w' => (∃ R : Nat, e = .returned (.int .i64 R) ∧ LE f n R) ∧ w = w' := by
  go_enter Trym.func17, Trym.ntmps17
  go_wp2
  go_loop [3] (fun si => ∃ k : Nat, k ≤ n ∧ si = .int .i64 k ∧ ∀ j, j < k → NoBs f n j) (fun si => n - (intOf si).toNat)
  case atStart => exact ⟨0, Nat.zero_le _, rfl, fun j hj => by omega⟩
  case round =>
    obtain ⟨k, hk, rfl, hno⟩ := hrel
    by_cases hlt : k < n
    · have c0 := hc k hlt
      rw [Nat.zero_add] at c0
      by_cases h2 : k + 2 < n
      · have c1 := hc (k + 1) (by omega)
        have c2 := hc (k + 2) (by omega)
        rw [Nat.zero_add] at c1 c2
        clear hc
        generalize hx : f k = x at *
        generalize hy : f (k + 1) = y at *
        generalize hz : f (k + 2) = z at *
        have H : Hid (f k = x ∧ f (k + 1) = y ∧ f (k + 2) = z) := ⟨hx, hy, hz⟩
        clear hx hy hz
        rcases (show x = 10 ∨ x = 13 ∨ x = 194 ∨ x = 226 ∨ (x ≠ 10 ∧ x ≠ 13 ∧ x ≠ 194 ∧ x ≠ 226) by omega) with rfl | rfl | rfl | rfl | ⟨n1, n2, n3, n4⟩
        · have hbs : Bs f n k 1 := by unfold Bs; have h0 := H.out; omega
          clear H
          go_wp2
          go_ret
          exact ⟨⟨k + 1, ret_int (by omega), le_hit hlt hno 1 hbs⟩, rfl⟩
        · by_cases hy10 : y = 10
          · subst hy10
            have hbs : Bs f n k 2 := by unfold Bs; have h0 := H.out; omega
            clear H
            go_wp2
            go_ret
            exact ⟨⟨k + 2, ret_int (by omega), le_hit hlt hno 2 hbs⟩, rfl⟩
          · have e1 : (y == 10) = false := beq_eq_false_iff_ne.2 hy10
            have hbs : Bs f n k 1 := by unfold Bs; have h0 := H.out; omega
            clear H
            go_wp2
            go_ret
            exact ⟨⟨k + 1, ret_int (by omega), le_hit hlt hno 1 hbs⟩, rfl⟩
        · by_cases hy10 : y = 133
          · subst hy10
            have hbs : Bs f n k 2 := by unfold Bs; have h0 := H.out; omega
            clear H
            go_wp2
            go_ret
            exact ⟨⟨k + 2, ret_int (by omega), le_hit hlt hno 2 hbs⟩, rfl⟩
          · have e1 : (y == 133) = false := beq_eq_false_iff_ne.2 hy10
            have hnb : NoBs f n k := by unfold NoBs; have h0 := H.out; omega
            clear H
            go_wp2
            go_round
            case rel => exact ⟨k + 1, by omega, by go_num, no_step hno hnb⟩
            case measure => simp [intOf]; omega
        · by_cases hy10 : y = 128
          · subst hy10
            by_cases hz1 : z = 168
            · subst hz1
              have hbs : Bs f n k 3 := by unfold Bs; have h0 := H.out; omega
              clear H
              go_wp2
              go_ret
              exact ⟨⟨k + 3, ret_int (by omega), le_hit hlt hno 3 hbs⟩, rfl⟩
            · by_cases hz2 : z = 169
              · subst hz2
                have hbs : Bs f n k 3 := by unfold Bs; have h0 := H.out; omega
                clear H
                go_wp2
                go_ret
                exact ⟨⟨k + 3, ret_int (by omega), le_hit hlt hno 3 hbs⟩, rfl⟩
              · have e1 : (z == 168) = false := beq_eq_false_iff_ne.2 hz1
                have e2 : (z == 169) = false := beq_eq_false_iff_ne.2 hz2
                have hnb : NoBs f n k := by unfold NoBs; have h0 := H.out; omega
                clear H
                go_wp2
                go_round
                case rel => exact ⟨k + 1, by omega, by go_num, no_step hno hnb⟩
                case measure => simp [intOf]; omega
          · have e1 : (y == 128) = false := beq_eq_false_iff_ne.2 hy10
            have hnb : NoBs f n k := by unfold NoBs; have h0 := H.out; omega
            clear H
            go_wp2
            go_round
            case rel => exact ⟨k + 1, by omega, by go_num, no_step hno hnb⟩
            case measure => simp [intOf]; omega
        · have e1 : (x == 10) = false := beq_eq_false_iff_ne.2 n1
          have e2 : (x == 13) = false := beq_eq_false_iff_ne.2 n2
          have e3 : (x == 194) = false := beq_eq_false_iff_ne.2 n3
          have e4 : (x == 226) = false := beq_eq_false_iff_ne.2 n4
          have hnb : NoBs f n k := by unfold NoBs; have h0 := H.out; omega
          clear H
          go_wp2
          go_round
          case rel => exact ⟨k + 1, by omega, by go_num, no_step hno hnb⟩
          case measure => simp [intOf]; omega
      · by_cases h1 : k + 1 < n
        · have c1 := hc (k + 1) (by omega)
          rw [Nat.zero_add] at c1
          clear hc
          generalize hx : f k = x at *
          generalize hy : f (k + 1) = y at *
          have H : Hid (f k = x ∧ f (k + 1) = y) := ⟨hx, hy⟩
          clear hx hy
          rcases (show x = 10 ∨ x = 13 ∨ x = 194 ∨ x = 226 ∨ (x ≠ 10 ∧ x ≠ 13 ∧ x ≠ 194 ∧ x ≠ 226) by omega) with rfl | rfl | rfl | rfl | ⟨n1, n2, n3, n4⟩
          · have hbs : Bs f n k 1 := by unfold Bs; have h0 := H.out; omega
            clear H
            go_wp2
            go_ret
            exact ⟨⟨k + 1, ret_int (by omega), le_hit hlt hno 1 hbs⟩, rfl⟩
          · by_cases hy10 : y = 10
            · subst hy10
              have hbs : Bs f n k 2 := by unfold Bs; have h0 := H.out; omega
              clear H
              go_wp2
              go_ret
              exact ⟨⟨k + 2, ret_int (by omega), le_hit hlt hno 2 hbs⟩, rfl⟩
            · have e1 : (y == 10) = false := beq_eq_false_iff_ne.2 hy10
              have hbs : Bs f n k 1 := by unfold Bs; have h0 := H.out; omega
              clear H
              go_wp2
              go_ret
              exact ⟨⟨k + 1, ret_int (by omega), le_hit hlt hno 1 hbs⟩, rfl⟩
          · by_cases hy10 : y = 133
            · subst hy10
              have hbs : Bs f n k 2 := by unfold Bs; have h0 := H.out; omega
              clear H
              go_wp2
              go_ret
              exact ⟨⟨k + 2, ret_int (by omega), le_hit hlt hno 2 hbs⟩, rfl⟩
            · have e1 : (y == 133) = false := beq_eq_false_iff_ne.2 hy10
              have hnb : NoBs f n k := by unfold NoBs; have h0 := H.out; omega
              clear H
              go_wp2
              go_round
              case rel => exact ⟨k + 1, by omega, by go_num, no_step hno hnb⟩
              case measure => simp [intOf]; omega
          · have hnb : NoBs f n k := by unfold NoBs; have h0 := H.out; omega
            clear H
            go_wp2
            go_round
            case rel => exact ⟨k + 1, by omega, by go_num, no_step hno hnb⟩
            case measure => simp [intOf]; omega
          · have e1 : (x == 10) = false := beq_eq_false_iff_ne.2 n1
            have e2 : (x == 13) = false := beq_eq_false_iff_ne.2 n2
            have e3 : (x == 194) = false := beq_eq_false_iff_ne.2 n3
            have e4 : (x == 226) = false := beq_eq_false_iff_ne.2 n4
            have hnb : NoBs f n k := by unfold NoBs; have h0 := H.out; omega
            clear H
            go_wp2
            go_round
            case rel => exact ⟨k + 1, by omega, by go_num, no_step hno hnb⟩
            case measure => simp [intOf]; omega
        · clear hc
          generalize hx : f k = x at *
          have H : Hid (f k = x) := hx
          clear hx
          rcases (show x = 10 ∨ x = 13 ∨ x = 194 ∨ x = 226 ∨ (x ≠ 10 ∧ x ≠ 13 ∧ x ≠ 194 ∧ x ≠ 226) by omega) with rfl | rfl | rfl | rfl | ⟨n1, n2, n3, n4⟩
          · have hbs : Bs f n k 1 := by unfold Bs; have h0 := H.out; omega
            clear H
            go_wp2
            go_ret
            exact ⟨⟨k + 1, ret_int (by omega), le_hit hlt hno 1 hbs⟩, rfl⟩
          · have hbs : Bs f n k 1 := by unfold Bs; have h0 := H.out; omega
            clear H
            go_wp2
            go_ret
            exact ⟨⟨k + 1, ret_int (by omega), le_hit hlt hno 1 hbs⟩, rfl⟩
          · have hnb : NoBs f n k := by unfold NoBs; have h0 := H.out; omega
            clear H
            go_wp2
            go_round
            case rel => exact ⟨k + 1, by omega, by go_num, no_step hno hnb⟩
            case measure => simp [intOf]; omega
          · have hnb : NoBs f n k := by unfold NoBs; have h0 := H.out; omega
            clear H
            go_wp2
            go_round
            case rel => exact ⟨k + 1, by omega, by go_num, no_step hno hnb⟩
            case measure => simp [intOf]; omega
          · have e1 : (x == 10) = false := beq_eq_false_iff_ne.2 n1
            have e2 : (x == 13) = false := beq_eq_false_iff_ne.2 n2
            have e3 : (x == 194) = false := beq_eq_false_iff_ne.2 n3
            have e4 : (x == 226) = false := beq_eq_false_iff_ne.2 n4
            have hnb : NoBs f n k := by unfold NoBs; have h0 := H.out; omega
            clear H
            go_wp2
            go_round
            case rel => exact ⟨k + 1, by omega, by go_num, no_step hno hnb⟩
            case measure => simp [intOf]; omega
    · go_wp2
      go_ret
      exact ⟨⟨n, rfl, .inr ⟨fun j hj => hno j (by omega), rfl⟩⟩, rfl⟩
end Go.Proofs.Qxb6601005aMods
