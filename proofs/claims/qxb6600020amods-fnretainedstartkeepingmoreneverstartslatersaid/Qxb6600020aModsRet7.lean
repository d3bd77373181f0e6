import Derived.Test.Qxb6600020aModsRet6
namespace Go.Proofs.Qxb6600020aMods
open Go.RowKit

set_option maxHeartbeats 1000000 in
theorem keeping_main (b0 o0 c0 b1 o1 c1 n : Nat) (A B : List Int) (keep : Int) (w : World) (hA : A.length = n) (hB : B.length = n) (h1 : 1 ≤ n) (h2 : n ≤ 65536) (hb0 : b0 < w.heap.size) (hb1 : b1 < w.heap.size)
    (hk1 : -9223372036854775808 ≤ keep) (hk2 : keep < 9223372036854775807)
    (hc0 : ∀ i, i < n → w.cell? ⟨b0, o0 + i, none⟩ = some (.int .i64 (A.getD i 0))) (hc1 : ∀ i, i < n → w.cell? ⟨b1, o1 + i, none⟩ = some (.int .i64 (B.getD i 0))) :
    Calls Trym.prog 5 #[.slice (some ⟨b0, o0, none⟩) n c0, .slice (some ⟨b1, o1, none⟩) n c1, .int .i64 keep] w fun e w' => e = .returned (.bool true) ∧ Below w.heap.size w w' := by
  obtain ⟨ss, hss⟩ : ∃ ss, ss = A.zip B := ⟨_, rfl⟩
  have hsl : ss.length = n := by simp [hss, hA, hB]
  have HB : Hid (∀ i, i < n → A.getD i 0 = bas ss i) := fun i hi => by rw [hss, bas_zip (by omega) (by omega)]; simp [List.getD_eq_getElem?_getD, show i < A.length by omega]
  have HCH : Hid (∀ wr, Below w.heap.size w wr → Calls Trym.prog 14 #[.slice (some ⟨b0, o0, none⟩) n c0, .slice (some ⟨b1, o1, none⟩) n c1] wr fun e w' => e = .returned (.slice (some ⟨wr.heap.size, 0, none⟩) n n) ∧ SegsAt w' wr.heap.size ss ∧ wr.heap.size < w'.heap.size ∧ Below wr.heap.size wr w') := by
    intro wr hb
    have := segs_any b0 o0 c0 b1 o1 c1 n A B wr hA hB h1 h2 (Nat.lt_of_lt_of_le hb0 hb.size) (Nat.lt_of_lt_of_le hb1 hb.size) (fun i hi => (hb.cell (by exact hb0)).trans (hc0 i hi)) (fun i hi => (hb.cell (by exact hb1)).trans (hc1 i hi))
    rwa [← hss] at this
  have g0 : ∀ i, i < n → w.cell? ⟨b0, o0 + i, none⟩ = some (.int .i64 (bas ss i)) := fun i hi => by rw [hc0 i hi, HB.out i hi]
  clear hc0 hc1 hss HB
  have t1 : ((n : Int) == 0) = false := beq_eq_false_iff_ne.2 (by omega)
  have t2 : (keep == 9223372036854775807) = false := beq_eq_false_iff_ne.2 (by omega)
  have t3 : decide ((65536 : Int) < (n : Int)) = false := decide_eq_false (by omega)
  go_enter Trym.func5, Trym.ntmps5
  go_wp2_with (first | (go_at_call 17; refine (bytesK_yes _ _ _ _ _ _ _ _ (by omega)).mono ?_; rintro e w' ⟨rfl, rfl⟩))
  go_loopw [7] (fun si wr => ∃ k : Nat, 1 ≤ k ∧ k ≤ n ∧ si = .int .i64 k ∧ Asc ss k ∧ Below w.heap.size w wr) (fun si _ => n - (intOf si).toNat)
  case atStart => exact ⟨1, by omega, by omega, rfl, fun i hi => by omega, Below.refl _ _⟩
  case round =>
    obtain ⟨k, hk0, hk, rfl, has, hb⟩ := hrel
    by_cases hlt : k < n
    · have qk := (hb.cell (p := ⟨b0, o0 + k, none⟩) hb0).trans (g0 k hlt)
      have qj := (hb.cell (p := ⟨b0, o0 + (k - 1), none⟩) hb0).trans (g0 (k - 1) (by omega))
      by_cases hlow : bas ss k < bas ss (k - 1)
      · go_wp2
        go_region
        all_goals go_wp2
        all_goals (go_ret; exact ⟨rfl, hb.drew⟩)
      · have has' : Asc ss (k + 1) := fun i hi => by
          by_cases he : i + 1 = k
          · have : i = k - 1 := by omega
            subst this; rw [show k - 1 + 1 = k by omega]; omega
          · exact has i (by omega)
        go_wp2
        go_region
        all_goals go_wp2
        all_goals go_roundw
        case rel => exact ⟨k + 1, by omega, by omega, by go_num, has', hb.drew⟩
        case measure => simp [intOf]; omega
    · have hkn : Hid (k = n) := by unfold Hid; omega
      have HL : Hid (bas ss 0 ≤ rs ss (keep + 1) ∧ rs ss (keep + 1) ≤ rs ss keep ∧ rs ss keep ≤ bas ss (n - 1)) := by
        unfold Hid
        have := rs_more ss (by omega) (by rw [hsl, ← hkn.out]; exact has) keep
        rwa [hsl] at this
      obtain ⟨l1, l2, l3⟩ := HL.out
      have q0 := (hb.cell (p := ⟨b0, o0 + 0, none⟩) hb0).trans (g0 0 (by omega))
      rw [Nat.add_zero] at q0
      have qn := (hb.cell (p := ⟨b0, o0 + (n - 1), none⟩) hb0).trans (g0 (n - 1) (by omega))
      have hbr : b0 < wr.heap.size := Nat.lt_of_lt_of_le hb0 hb.size
      clear has g0
      go_wp2_with fail
      refine (HCH.out wr hb).mono ?_
      rintro e w1 ⟨rfl, hs1, hz1, hbl1⟩
      go_wp2_with fail
      refine (zret_any _ ss n keep _ hsl h1 h2 hz1 hk1 (by omega) hs1).mono ?_
      rintro e w2 ⟨rfl, hbl2⟩
      have hs2 : SegsAt w2 wr.heap.size ss := hs1.below hbl2 hz1
      have hz2 : wr.heap.size < w2.heap.size := Nat.lt_of_lt_of_le hz1 hbl2.size
      go_wp2_with fail
      refine (zret_any _ ss n (keep + 1) _ hsl h1 h2 hz2 (by omega) (by omega) hs2).mono ?_
      rintro e w3 ⟨rfl, hbl3⟩
      have hbw : Below wr.heap.size wr w3 := (hbl1.trans (hbl2.mono (by omega))).trans (hbl3.mono (by omega))
      have p0 := (hbw.cell (p := ⟨b0, o0, none⟩) hbr).trans q0
      have pn := (hbw.cell (p := ⟨b0, o0 + (n - 1), none⟩) hbr).trans qn
      go_wp2
      go_ret
      exact ⟨rfl, hb.trans (hbw.mono hb.size)⟩
end Go.Proofs.Qxb6600020aMods
