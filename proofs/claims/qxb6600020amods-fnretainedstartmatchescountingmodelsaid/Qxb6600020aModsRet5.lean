import Derived.Test.Qxb6600020aModsRet4
namespace Go.Proofs.Qxb6600020aMods
open Go.RowKit

set_option maxHeartbeats 1000000 in
theorem matches_main (b0 o0 c0 b1 o1 c1 n : Nat) (A B : List Int) (keep : Int) (w : World) (hA : A.length = n) (hB : B.length = n) (h1 : 1 ≤ n) (h2 : n ≤ 65536) (hb0 : b0 < w.heap.size) (hb1 : b1 < w.heap.size)
    (hk1 : -9223372036854775808 ≤ keep) (hk2 : keep ≤ 9223372036854775807)
    (hc0 : ∀ i, i < n → w.cell? ⟨b0, o0 + i, none⟩ = some (.int .i64 (A.getD i 0))) (hc1 : ∀ i, i < n → w.cell? ⟨b1, o1 + i, none⟩ = some (.int .i64 (B.getD i 0))) :
    Calls Trym.prog 4 #[.slice (some ⟨b0, o0, none⟩) n c0, .slice (some ⟨b1, o1, none⟩) n c1, .int .i64 keep] w fun e w' => e = .returned (.bool true) ∧ Below w.heap.size w w' := by
  obtain ⟨ss, hss⟩ : ∃ ss, ss = A.zip B := ⟨_, rfl⟩
  have hsl : ss.length = n := by simp [hss, hA, hB]
  have HB : Hid (∀ i, i < n → A.getD i 0 = bas ss i) := fun i hi => by rw [hss, bas_zip (by omega) (by omega)]; simp [List.getD_eq_getElem?_getD, show i < A.length by omega]
  have HC := segs_any b0 o0 c0 b1 o1 c1 n A B w hA hB h1 h2 hb0 hb1 hc0 hc1
  rw [← hss] at HC
  have HCH : Hid (Calls Trym.prog 14 #[.slice (some ⟨b0, o0, none⟩) n c0, .slice (some ⟨b1, o1, none⟩) n c1] w fun e w' => e = .returned (.slice (some ⟨w.heap.size, 0, none⟩) n n) ∧ SegsAt w' w.heap.size ss ∧ w.heap.size < w'.heap.size ∧ Below w.heap.size w w') := HC
  clear HC
  have HM : Hid (rs ss keep = _) := rs_model ss keep
  have g0 : ∀ i, i < n → w.cell? ⟨b0, o0 + i, none⟩ = some (.int .i64 (bas ss i)) := fun i hi => by rw [hc0 i hi, HB.out i hi]
  clear hc0 hc1 hss HB
  go_enter Trym.func4, Trym.ntmps4
  go_wp2_with (first | (go_at_call 13; refine (bytesM_yes _ _ _ _ _ _ _ _ (by omega)).mono ?_; rintro e w' ⟨rfl, rfl⟩) | (go_at_call 14; refine HCH.out.mono ?_; rintro e w1 ⟨rfl, hs1, hz1, hbl1⟩) | (go_at_call 15; refine (zret_any _ ss n keep _ hsl h1 h2 hz1 hk1 hk2 hs1).mono ?_; rintro e w2 ⟨rfl, hbl2⟩))
  have hbw : Below w.heap.size w w2 := hbl1.trans (hbl2.mono (by omega))
  have hs2 : SegsAt w2 w.heap.size ss := hs1.below hbl2 hz1
  have hz2 : w.heap.size < w2.heap.size := Nat.lt_of_lt_of_le hz1 hbl2.size
  clear hbl1 hbl2 hs1 hz1
  go_loopw [10, 11] (fun sm si wr => ∃ k : Nat, k + 1 ≤ n ∧ si = .int .i64 k ∧ sm = .int .i64 (cnt ss k) ∧ SegsAt wr w.heap.size ss ∧ w.heap.size < wr.heap.size ∧ Below w.heap.size w wr) (fun _ si _ => n - (intOf si).toNat)
  case atStart => exact ⟨0, by omega, rfl, rfl, hs2, hz2, hbw⟩
  case round =>
    obtain ⟨k, hk, rfl, rfl, hs, hz, hb⟩ := hrel
    have hcl := cnt_le ss k
    by_cases hlt : k + 1 < n
    · obtain ⟨d0, d1, d2, d3, d4⟩ := hs k (by omega)
      by_cases hl : bas ss k < lse ss k
      · have HE : Hid (cnt ss (k + 1) = cnt ss k + 1) := by unfold Hid; rw [cnt, if_pos hl]
        go_wp2_with (go_at_call 16; refine (leased_yes _ _ _ hl).mono ?_; rintro e w' ⟨rfl, hb1, hz1⟩)
        go_roundw
        case rel => exact ⟨k + 1, by omega, by go_num, by rw [HE.out]; go_num, hs.below hb1 hz, by omega, hb.trans (hb1.mono hb.size)⟩
        case measure => simp [intOf]; omega
      · have HE : Hid (cnt ss (k + 1) = cnt ss k) := by unfold Hid; rw [cnt, if_neg hl]
        go_wp2_with (go_at_call 16; refine (leased_no _ _ _ (by omega)).mono ?_; rintro e w' ⟨rfl, hb1, hz1⟩)
        go_roundw
        case rel => exact ⟨k + 1, by omega, by go_num, by rw [HE.out], hs.below hb1 hz, by omega, hb.trans (hb1.mono hb.size)⟩
        case measure => simp [intOf]; omega
    · have HK : Hid (k = n - 1) := by unfold Hid; omega
      have q0 := (hb.cell (p := ⟨b0, o0 + 0, none⟩) hb0).trans (g0 0 (by omega))
      rw [Nat.add_zero] at q0
      have qn := (hb.cell (p := ⟨b0, o0 + (n - 1), none⟩) hb0).trans (g0 (n - 1) (by omega))
      have HM' := HM.out
      rw [hsl, ← HK.out] at HM'
      clear HM
      by_cases k0 : keep < 0
      · rw [if_pos k0] at HM'
        by_cases m0 : (cnt ss k : Int) ≤ 0
        · rw [if_pos m0] at HM'
          have HV : Hid (rs ss keep = bas ss 0) := HM'
          clear HM'
          go_wp2
          go_ret
          exact ⟨ret_bool (beq_iff_eq.2 HV.out), hb⟩
        · rw [if_neg m0, if_pos (by omega : keep ≤ 0), HK.out] at HM'
          have HV : Hid (rs ss keep = bas ss (n - 1)) := HM'
          clear HM'
          go_wp2
          go_ret
          exact ⟨ret_bool (beq_iff_eq.2 HV.out), hb⟩
      · rw [if_neg k0] at HM'
        by_cases m0 : (cnt ss k : Int) ≤ keep
        · rw [if_pos m0] at HM'
          have HV : Hid (rs ss keep = bas ss 0) := HM'
          clear HM'
          go_wp2
          go_ret
          exact ⟨ret_bool (beq_iff_eq.2 HV.out), hb⟩
        · rw [if_neg m0] at HM'
          by_cases k1 : keep ≤ 0
          · rw [if_pos k1, HK.out] at HM'
            have HV : Hid (rs ss keep = bas ss (n - 1)) := HM'
            clear HM'
            go_wp2
            go_ret
            exact ⟨ret_bool (beq_iff_eq.2 HV.out), hb⟩
          · rw [if_neg k1] at HM'
            have HV : Hid (rs ss keep = wantTo ss (cnt ss k - keep) k) := HM'
            clear HM'
            go_wp2
            go_loopw [13, 15, 16] (fun sw sc si wq => ∃ j : Nat, j ≤ k ∧ si = .int .i64 j ∧ sc = .int .i64 (cnt ss j) ∧ sw = .int .i64 (wantTo ss (cnt ss k - keep) j) ∧ SegsAt wq w.heap.size ss ∧ w.heap.size < wq.heap.size ∧ Below w.heap.size w wq) (fun _ _ si _ => n - (intOf si).toNat)
            case atStart => exact ⟨0, by omega, rfl, rfl, rfl, hs, hz, hb⟩
            case round =>
              clear hs hz hb q0 qn
              obtain ⟨j, hj, rfl, rfl, rfl, hs, hz, hb⟩ := hrel
              have hjl := cnt_le ss j
              by_cases hjt : j < k
              · obtain ⟨d0, d1, d2, d3, d4⟩ := hs j (by omega)
                by_cases hl : bas ss j < lse ss j
                · have HE : Hid (cnt ss (j + 1) = cnt ss j + 1) := by unfold Hid; rw [cnt, if_pos hl]
                  have qj := (hb.cell (p := ⟨b0, o0 + j, none⟩) hb0).trans (g0 j (by omega))
                  by_cases ht : (cnt ss j : Int) = cnt ss k - keep
                  · have HW : Hid (wantTo ss (cnt ss k - keep) (j + 1) = bas ss j) := by unfold Hid; rw [wantTo, if_pos ⟨hl, ht⟩]
                    have hbq : ((cnt ss j : Int) == (cnt ss k : Int) - keep) = true := beq_iff_eq.2 ht
                    clear ht
                    go_wp2_with (go_at_call 16; refine (leased_yes _ _ _ hl).mono ?_; rintro e w' ⟨rfl, hb1, hz1⟩; have qj' := (hb1.cell (p := ⟨b0, o0 + j, none⟩) (by exact Nat.lt_of_lt_of_le hb0 hb.size)).trans qj)
                    go_roundw
                    case rel => exact ⟨j + 1, by omega, by go_num, by rw [HE.out]; go_num, by rw [HW.out], hs.below hb1 hz, by omega, hb.trans (hb1.mono hb.size)⟩
                    case measure => simp [intOf]; omega
                  · have HW : Hid (wantTo ss (cnt ss k - keep) (j + 1) = wantTo ss (cnt ss k - keep) j) := by unfold Hid; rw [wantTo, if_neg (fun h => ht h.2)]
                    have hbq : ((cnt ss j : Int) == (cnt ss k : Int) - keep) = false := beq_eq_false_iff_ne.2 ht
                    clear ht
                    go_wp2_with (go_at_call 16; refine (leased_yes _ _ _ hl).mono ?_; rintro e w' ⟨rfl, hb1, hz1⟩)
                    go_roundw
                    case rel => exact ⟨j + 1, by omega, by go_num, by rw [HE.out]; go_num, by rw [HW.out], hs.below hb1 hz, by omega, hb.trans (hb1.mono hb.size)⟩
                    case measure => simp [intOf]; omega
                · have HE : Hid (cnt ss (j + 1) = cnt ss j) := by unfold Hid; rw [cnt, if_neg hl]
                  have HW : Hid (wantTo ss (cnt ss k - keep) (j + 1) = wantTo ss (cnt ss k - keep) j) := by unfold Hid; rw [wantTo, if_neg (fun h => hl h.1)]
                  go_wp2_with (go_at_call 16; refine (leased_no _ _ _ (by omega)).mono ?_; rintro e w' ⟨rfl, hb1, hz1⟩)
                  go_roundw
                  case rel => exact ⟨j + 1, by omega, by go_num, by rw [HE.out], by rw [HW.out], hs.below hb1 hz, by omega, hb.trans (hb1.mono hb.size)⟩
                  case measure => simp [intOf]; omega
              · have HJ : Hid (j = k) := by unfold Hid; omega
                go_wp2
                go_ret
                exact ⟨ret_bool (beq_iff_eq.2 (by rw [HV.out, HJ.out])), hb⟩
end Go.Proofs.Qxb6600020aMods
