import Derived.Test.Qxb6601005aModsBrk6
namespace Go.Proofs.Qxb6601005aMods
open Go.RowKit

set_option maxRecDepth 100000 in
set_option maxHeartbeats 2000000 in
theorem brk_cr (a0 : Option Addr) (h c0 : Nat) (f : Nat → Int) (k : Int) (a2 : Option Addr) (n2 c2 : Nat) (fr : Nat → Int) (r : Nat) (w : World) (hm : h + n2 ≤ 1048576) (k0 : 0 ≤ k) (k1 : k ≤ 255) (h6 : r < 6) (hr : k % 6 = r) (i0 : Inb w a0 h c0 f) (i2 : Inb w a2 n2 c2 fr) (hr2 : 2 = r) (hn2 : 1 ≤ n2) (h10 : fr 0 ≠ 10) :
    Calls Trym.prog 5 #[.slice a0 h c0, .int .u8 k, .slice a2 n2 c2] w fun e w' => e = .returned (.bool true) ∧ Below w.heap.size w w' := by
  subst hr2
  obtain ⟨t0, hi, hz0, hz1, hz2⟩ := info_parts info5
  obtain ⟨L, hL⟩ : ∃ L, L = (tok 2).length := ⟨_, rfl⟩
  have hLb : 1 ≤ L ∧ L ≤ 3 := by rw [hL]; exact tok_len 2
  obtain ⟨hL1, hL3⟩ := hLb
  have HL : Hid (L = (tok 2).length) := hL
  have HN := nobreak_any a0 h c0 f w (by omega) i0
  have HNH : Hid (Calls Trym.prog 15 #[.slice a0 h c0] w fun e w' => (e = .returned (.bool false) ∨ e = .returned (.bool true) ∧ ∀ d, 1 ≤ d → d ≤ h → ¬ Eb f d) ∧ w = w') := HN
  have HT : Hid (∀ w, Calls Trym.prog 16 #[.int .u8 k] w fun e w' => e = .returned (.slice (some ⟨w.heap.size, 0, none⟩) L L) ∧ TokAt w' w.heap.size 2 ∧ Below w.heap.size w w' ∧ w.heap.size < w'.heap.size) := by
    intro w
    have := tok_any k 2 w k0 k1 h6 hr
    rw [← hL] at this
    exact this.mono fun e w' ⟨q1, q2, q3⟩ => ⟨q1, fun i hi => q2 i (by omega), q3⟩
  have I0 : Hid (Inb w a0 h c0 f) := i0
  have I2 : Hid (Inb w a2 n2 c2 fr) := i2
  clear HN hL
  obtain ⟨b2, o2, ea, hb2a, hby2⟩ := i2.2.2.2 hn2
  subst ea
  have e1 : (k % 6 == 2) = true := beq_iff_eq.2 hr
  have e2 : (0 : Int) < (n2 : Int) := by omega
  have e3 : (fr 0 == 10) = false := beq_eq_false_iff_ne.2 h10
  have H10 : Hid (fr 0 ≠ 10) := h10
  have HY2 : Hid (BytesAt w b2 o2 n2 fr) := hby2
  clear hr h10 hby2
  go_enter Trym.func5, Trym.ntmps5
  go_wp2_with fail
  refine (bytesB_yes _ _ _ _ _ _ _ _ (by omega)).mono ?_
  rintro e w' ⟨rfl, rfl⟩
  go_wp2_with fail
  refine HNH.out.mono ?_
  rintro e w' ⟨hd, rfl⟩
  rcases hd with rfl | ⟨rfl, noE⟩
  · go_wp2
    go_ret
    exact ⟨rfl, Below.refl _ _⟩
  have NE : Hid (∀ d, 1 ≤ d → d ≤ h → ¬ Eb f d) := noE
  clear noE HNH
  go_wp2_with fail
  refine (clone_any a0 h c0 f w (by omega) I0.out).mono ?_
  rintro e w1 ⟨⟨ao, cc, rfl, hs0⟩, hb1⟩
  have S0 : Hid (Src w1 ao h cc f) := hs0

  clear hs0
  go_wp2_with fail
  refine (clone_some b2 o2 n2 c2 fr w1 (by omega) (Nat.lt_of_lt_of_le hb2a hb1.size) (HY2.out.below hb1 hb2a)).mono ?_
  rintro e w2 ⟨rfl, hs2, hz22, hb2⟩
  have S2 : Hid (Src w2 (some ⟨w1.heap.size, 0, none⟩) n2 n2 fr) := .inr ⟨w1.heap.size, rfl, hz22, rfl, hs2⟩
  clear hs2
  go_wp2_with fail
  refine (HT.out w2).mono ?_
  rintro e w3 ⟨rfl, ht3, hb3, hz3⟩
  have T3 : Hid (TokAt w3 w2.heap.size 2) := ht3
  have U0 : Hid (Src w3 ao h cc f) := (S0.out.below hb2 (Nat.le_refl _)).below hb3 (Nat.le_refl _)
  have U2 : Hid (Src w3 (some ⟨w1.heap.size, 0, none⟩) n2 n2 fr) := S2.out.below hb3 (Nat.le_refl _)
  have B3 : Hid (Below w.heap.size w w3) := (hb1.trans (hb2.mono hb1.size)).trans (hb3.mono (Nat.le_trans hb1.size hb2.size))
  clear ht3 HT S0 S2
  go_wp2_with (first
    | (at_make; refine wpList_make_own _ rfl _ _ 22 rfl w3.heap.size 5 t0 (.int .u8 0) 1 Trym.underlying22 hi hz0 hz1 _ _ _ (h + L + n2) rfl rfl (by omega) (by rw [hz2]; omega) (by unfold maxLen; omega) (Nat.le_refl _) ?_; intro w4 hown0 hgrow0; have hb4 : Below w3.heap.size w3 w4 := (Below.refl _ _).grown hgrow0 (Nat.le_refl _) (fun k h => by cases h); have V0 := U0.out.below hb4 (Nat.le_refl _))
    | (at_builtin; refine wpList_append_fits_any _ rfl (.tmp 51) (.tmp 52) 22 rfl w3.heap.size 5 t0 1 Trym.underlying22 hi hz1 w3.heap.size 0 (h + L + n2) [] rfl hown0 ao h cc (u8s (cutAt f 0 h)) rfl (by simp [u8s, cutAt]) (src_none V0) (src_cells V0) (ints_oneCell _ _) (by omega) ?_; intro w5 hown1 hgrow1; simp only [Nat.zero_add, List.nil_append] at hown1; have hb5 : Below w3.heap.size w3 w5 := hb4.grown hgrow1 hb4.size (fun k hk => by cases hk; exact Nat.le_refl _); have V1 := T3.out.below hb5 hz3)
    | (at_builtin; refine wpList_append_fits_any _ rfl (.tmp 54) (.tmp 55) 22 rfl w3.heap.size 5 t0 1 Trym.underlying22 hi hz1 w3.heap.size h (h + L + n2) (u8s (cutAt f 0 h)) rfl hown1 (some ⟨w2.heap.size, 0, none⟩) L L (u8s (tok 2)) rfl (by simp [u8s, HL.out]) (fun h => by cases h) (fun ad had => by cases had; exact tok_cells V1) (ints_oneCell _ _) (by omega) ?_; intro w6 hown2 hgrow2; have hb6 : Below w3.heap.size w3 w6 := hb5.grown hgrow2 hb5.size (fun k hk => by cases hk; exact Nat.le_refl _); have V2 := U2.out.below hb6 (Nat.le_refl _))
    | (at_builtin; refine wpList_append_fits_any _ rfl (.tmp 57) (.tmp 58) 22 rfl w3.heap.size 5 t0 1 Trym.underlying22 hi hz1 w3.heap.size (h + L) (h + L + n2) (u8s (cutAt f 0 h) ++ u8s (tok 2)) rfl hown2 (some ⟨w1.heap.size, 0, none⟩) n2 n2 (u8s (cutAt fr 0 n2)) rfl (by simp [u8s, cutAt]) (src_none V2) (src_cells V2) (ints_oneCell _ _) (by omega) ?_; intro w7 hown3 hgrow3; have hb7 : Below w3.heap.size w3 w7 := hb6.grown hgrow3 hb6.size (fun k hk => by cases hk; exact Nat.le_refl _); have cr := src_zero (U2.out.below hb7 (Nat.le_refl _)) hn2))
  rw [u8s_app, u8s_app] at hown3
  have hby : BytesAt w7 w3.heap.size 0 (h + L + n2) (Fn f fr h 2 n2) := own_bytes (by rw [HL.out]; exact whole_length f fr h 2 n2) hown3
  have hz7 : w3.heap.size < w7.heap.size := (hown3.lt _ rfl).2
  have LN : Hid (Line (Fn f fr h 2 n2) h 2 (h + L + n2) false) := by
    unfold Hid
    rw [HL.out]
    exact whole_line f fr h 2 n2 false h6 NE.out ⟨(fun h => by cases h), (fun h => absurd h.2.2 H10.out)⟩
  have HU : Hid (∀ i, i < h + L + n2 → 0 ≤ Fn f fr h 2 n2 i ∧ Fn f fr h 2 n2 i ≤ 255) := by
    unfold Hid
    rw [HL.out]
    exact whole_u8 f fr h 2 n2 I0.out.2.2.1 I2.out.2.2.1
  have B7 : Hid (Below w.heap.size w w7) := B3.out.trans (hb7.mono B3.out.size)
  clear hown0 hown1 hown2 hown3 hgrow0 hgrow1 hgrow2 hgrow3 V0 V1 V2 hb1 hb2 hb3 hb4 hb5 hb6 hb7
  refine (zline_some w3.heap.size (h + L + n2) (h + L + n2) (Fn f fr h 2 n2) w7 (by omega) hby).mono ?_
  rintro e w' ⟨⟨R, rfl, hR⟩, rfl⟩
  have RW : Hid (R = wantOf h 2 false) := line_whole LN.out hR
  have RV : Hid (R = h + L) := by unfold Hid; have := RW.out; unfold wantOf at this; rw [← HL.out] at this; simpa using this
  have hbs := line_bs LN.out
  rw [← RW.out] at hbs
  have r1 := hbs.2.2.2.1
  have r2 := hbs.2.2.2.2.1
  have r3 := hbs.2.2.2.2.2
  clear hbs
  have hne : ((R : Int) != (h : Int) + (L : Int)) = false := by have := RV.out; rw [bne_eq_false_iff_eq]; omega
  have HB : Hid (Calls Trym.prog 11 #[.slice (some ⟨w3.heap.size, 0, none⟩) R (h + L + n2)] w7 fun e w' => e = .returned (.slice (some ⟨w3.heap.size, h, none⟩) (R - h) (h + L + n2 - h)) ∧ Below w7.heap.size w7 w') := by
    obtain ⟨m, m6, my, mn, me1, me2⟩ := line_sfx LN.out
    rw [← RW.out] at my mn me1 me2
    have := zbreak_at w3.heap.size R (h + L + n2) m (Fn f fr h 2 n2) w7 (by omega) r2 hz7 (fun i hi => HU.out i (by omega)) (hby.take r2) m6 my mn
    rw [me1, me2] at this
    exact this
  clear hR
  go_wp2_with fail
  refine HB.out.mono ?_
  rintro e w8 ⟨rfl, hb8⟩
  have hby8 : BytesAt w8 w3.heap.size 0 (h + L + n2) (Fn f fr h 2 n2) := hby.below hb8 hz7
  have hbh : BytesAt w8 w3.heap.size h (R - h) (fun i => Fn f fr h 2 n2 (h + i)) := fun i hi => by have := hby8 (h + i) (by omega); rwa [Nat.zero_add] at this
  go_wp2_with fail
  refine (same_yes w3.heap.size h (h + L + n2 - h) w3.heap.size h (h + L + n2 - h) (R - h) (fun i => Fn f fr h 2 n2 (h + i)) w8 (by omega) hbh hbh).mono ?_
  rintro e w9 ⟨rfl, hb9⟩
  have hby9 : BytesAt w9 w3.heap.size 0 R (Fn f fr h 2 n2) := (hby8.take r2).below hb9 (Nat.lt_of_lt_of_le hz7 hb8.size)
  go_wp2_with fail
  refine (zline_some w3.heap.size R (h + L + n2) (Fn f fr h 2 n2) w9 (by omega) hby9).mono ?_
  rintro e w' ⟨⟨R2, rfl, hR2⟩, rfl⟩
  have HQ : Hid (R2 = R) := by
    unfold Hid
    have h1 := RW.out
    rw [h1] at hR2
    rw [h1]
    exact line_first LN.out hR2
  have B9 : Hid (Below w.heap.size w w9) := (B7.out.trans (hb8.mono B7.out.size)).trans (hb9.mono (Nat.le_trans B7.out.size hb8.size))
  clear hR2 hby hby8 hby9 hbh hb8 hb9
  go_wp2
  go_ret
  exact ⟨ret_bool (beq_iff_eq.2 (by rw [HQ.out])), B9.out⟩
end Go.Proofs.Qxb6601005aMods
