/-
  'Rows.FnRetainedStartKeepingMoreNeverStartsLaterSaid' proved: the frame is the guide's own shell; the walk is by hand (Ret1 to Ret4, Ret6, Ret7).
-/
import Derived.Test.Qxb6600020aModsRet7
import Derived.WalkKit
import Derived.ProofKit
import Derived.OpenShut
import Derived.ShutString
import Derived.ChangeOld
import Derived.Below
namespace Go.Proofs.Qxb6600020aMods.fnRetainedStartKeepingMoreNeverStartsLater
open Go.ChangeShapes Go.WideShapes Go.ChangeAt Go.RowKit
open Go.ChangeMaps (open_string shut_string)
set_option linter.unusedVariables false

theorem own : ownKnob Trym.prog.godebug = none := by kernel_rfl
theorem laidOut : laidOutB Trym.prog = true := by kernel_rfl

/-- WHAT THE WALK IS TOLD OF A SLICE OF INTEGERS THAT CAME IN: it is nil; or it leads to a row of 'cap' cells, the numbers 'zs' (the first 'len' are its elements, the rest its spare room), each fitting its kind. -/
def IsRow (k : IntKind) (w : World) (a : Option Addr) (len cap : Nat) (zs : List Int) : Prop :=
  (a = none ∧ len = 0 ∧ cap = 0 ∧ zs = []) ∨
  ∃ x, a = some x ∧ len ≤ cap ∧ cap ≤ maxLen ∧ zs.length = cap ∧ (∀ i, i < zs.length → w.cell? (x.add i) = some (.int k (zs.getD i 0))) ∧ ∀ n ∈ zs, (Lit.int k n).wf = true

/-! ### STEP 1: THE WALK -/
set_option maxHeartbeats 400000 in
theorem early (a0 : Option Addr) (len0 cap0 : Nat) (a1 : Option Addr) (len1 cap1 : Nat) (k : Int) (w : World) (m0 : len0 ≤ maxLen) (m1 : len1 ≤ maxLen)
    (h : ¬ (1 ≤ len0 ∧ len0 ≤ 65536 ∧ len1 = len0)) :
    Calls Trym.prog 5 #[.slice a0 len0 cap0, .slice a1 len1 cap1, .int .i64 k] w fun e w' => e = .returned (.bool true) ∧ Below w.heap.size w w' := by
  by_cases c0 : len0 + len1 ≤ 1048576
  · by_cases c1 : 65536 < len0
    · go_enter Trym.func5, Trym.ntmps5
      go_wp2_with (go_at_call 17; refine (bytesK_yes _ _ _ _ _ _ _ _ (by omega)).mono ?_; rintro e w' ⟨rfl, rfl⟩)
      go_ret
      exact ⟨rfl, Below.refl _ _⟩
    · by_cases c2 : 65536 < len1
      · go_enter Trym.func5, Trym.ntmps5
        go_wp2_with (go_at_call 17; refine (bytesK_yes _ _ _ _ _ _ _ _ (by omega)).mono ?_; rintro e w' ⟨rfl, rfl⟩)
        go_ret
        exact ⟨rfl, Below.refl _ _⟩
      · by_cases c3 : len0 = 0
        · have e3 : ((len0 : Int) == 0) = true := beq_iff_eq.2 (by omega)
          clear c3
          go_enter Trym.func5, Trym.ntmps5
          go_wp2_with (go_at_call 17; refine (bytesK_yes _ _ _ _ _ _ _ _ (by omega)).mono ?_; rintro e w' ⟨rfl, rfl⟩)
          go_ret
          exact ⟨rfl, Below.refl _ _⟩
        · have e3 : ((len0 : Int) == 0) = false := beq_eq_false_iff_ne.2 (by omega)
          have e4 : ((len1 : Int) != (len0 : Int)) = true := by rw [bne_iff_ne]; omega
          clear c3 h
          go_enter Trym.func5, Trym.ntmps5
          go_wp2_with (go_at_call 17; refine (bytesK_yes _ _ _ _ _ _ _ _ (by omega)).mono ?_; rintro e w' ⟨rfl, rfl⟩)
          go_ret
          exact ⟨rfl, Below.refl _ _⟩
  · go_enter Trym.func5, Trym.ntmps5
    go_wp2_with (go_at_call 17; refine (bytesK_no _ _ _ _ _ _ _ _ c0 m0 m1).mono ?_; rintro e w' ⟨rfl, rfl⟩)
    go_ret
    exact ⟨rfl, Below.refl _ _⟩

set_option maxHeartbeats 400000 in
theorem greatest (a0 : Option Addr) (len0 cap0 : Nat) (a1 : Option Addr) (cap1 : Nat) (w : World) (h1 : 1 ≤ len0) (h2 : len0 ≤ 65536) :
    Calls Trym.prog 5 #[.slice a0 len0 cap0, .slice a1 len0 cap1, .int .i64 9223372036854775807] w fun e w' => e = .returned (.bool true) ∧ Below w.heap.size w w' := by
  have t1 : ((len0 : Int) == 0) = false := beq_eq_false_iff_ne.2 (by omega)
  go_enter Trym.func5, Trym.ntmps5
  go_wp2_with (go_at_call 17; refine (bytesK_yes _ _ _ _ _ _ _ _ (by omega)).mono ?_; rintro e w' ⟨rfl, rfl⟩)
  go_ret
  exact ⟨rfl, Below.refl _ _⟩

theorem isRow_len {k : IntKind} {w : World} {a : Option Addr} {len cap : Nat} {zs : List Int} (h : IsRow k w a len cap zs) : len ≤ maxLen := by
  rcases h with ⟨_, h, _⟩ | ⟨_, _, h1, h2, _⟩
  · rw [h]; exact Nat.zero_le _
  · omega

theorem isRow_at {k : IntKind} {w : World} {a : Option Addr} {len cap : Nat} {zs : List Int} (h : IsRow k w a len cap zs) (h1 : 1 ≤ len) :
    ∃ b o, a = some ⟨b, o, none⟩ ∧ b < w.heap.size ∧ (zs.take len).length = len ∧ ∀ i, i < len → w.cell? ⟨b, o + i, none⟩ = some (.int k ((zs.take len).getD i 0)) := by
  rcases h with ⟨_, h, _⟩ | ⟨x, rfl, h2, _, h3, hc, _⟩
  · omega
  · obtain ⟨b, o, sp⟩ := x
    have hc0 := hc 0 (by omega)
    have hsp : sp = none := by simpa [Addr.add] using World.cell?_spot hc0
    subst hsp
    have hc' : ∀ i, i < zs.length → w.cell? ⟨b, o + i, none⟩ = some (.int k (zs.getD i 0)) := fun i hi => by rw [← add_plain]; exact hc i hi
    refine ⟨b, o, rfl, by simpa using block_lt_of_cell (hc' 0 (by omega)), by simp; omega, fun i hi => ?_⟩
    rw [hc' i (by omega)]
    simp [List.getD_eq_getElem?_getD, hi]

theorem walk (a0 : Option Addr) (len0 cap0 : Nat) (z0 : List Int) (a1 : Option Addr) (len1 cap1 : Nat) (z1 : List Int) (a2 : Int) (w : World) (w0 : IsRow .i64 w a0 len0 cap0 z0) (w1 : IsRow .i64 w a1 len1 cap1 z1) (w2 : (Lit.int .i64 a2).wf = true) :
    Calls Trym.prog 5 #[.slice a0 len0 cap0, .slice a1 len1 cap1, .int .i64 a2] w fun e w' => e = .returned (.bool true) ∧ Below w.heap.size w w' := by
  by_cases h : 1 ≤ len0 ∧ len0 ≤ 65536 ∧ len1 = len0
  · obtain ⟨h1, h2, rfl⟩ := h
    obtain ⟨b0, o0, rfl, hb0, hl0, hc0⟩ := isRow_at w0 h1
    obtain ⟨b1, o1, rfl, hb1, hl1, hc1⟩ := isRow_at w1 h1
    have hbd := bounds_i64 w2
    by_cases hm : a2 = 9223372036854775807
    · subst hm
      exact greatest _ _ _ _ _ w h1 h2
    · exact keeping_main b0 o0 cap0 b1 o1 cap1 len1 (z0.take len1) (z1.take len1) a2 w hl0 hl1 h1 h2 hb0 hb1 hbd.1 (by omega) hc0 hc1
  · exact early a0 len0 cap0 a1 len1 cap1 a2 w (isRow_len w0) (isRow_len w1) h

/-! ### THE ROW's STEP: WRITTEN OUT: LEAVE IT -/
set_option maxRecDepth 100000 in
theorem lifted (os : Os) (started : os.Started) (H : Type) (enc : TypeId × Value → H) :
    ReturnsInHanded {} Trym.checked os 5 .any (Rows.fnRetainedStartKeepingMoreNeverStartsLaterSpec.pre6 enc Trym.prog Trym.f5 Rows.fnRetainedStartKeepingMoreNeverStartsLaterRow.domain false) (Rows.fnRetainedStartKeepingMoreNeverStartsLaterSpec.post enc Trym.prog Trym.f5 false true false false) := by
  refine returnsInHanded_of_change (C := Trym.checked) own started (by kernel_rfl) Trym.func5
    (ChangeSpec.witness6 (enc := enc) (C := Trym.checked) false ⟨#[], #[.slice none 0 0, .slice none 0 0, .int .i64 0], []⟩ 8 (by kernel_rfl) (by kernel_rfl) (by kernel_rfl) (by kernel_rfl)) ?_
  intro W base args ds gs before hval0 hW hcnd _
  have hval : ∀ (j : Nat) t v, Trym.f5.params[j]? = some t → args[j]? = some v → Value.okWide Trym.prog W .any base t v := hval0
  have hW' := hW
  obtain ⟨p, q, hA0, hV, rfl, hfz, hnd⟩ := hW
  have hA : DataW.TrodAll enc Trym.prog W 0 (fun _ => true) true Trym.f5.params.toList args.toList ds p := hA0
  rw [Trym.params5] at hA hval
  obtain ⟨v0, vs0, d0, ds0, p0, q0, hargs, rfl, rfl, h0, r0⟩ := trodAll_cons hA
  obtain ⟨v1, vs1, d1, ds1, p1, q1, rfl, rfl, rfl, h1, r1⟩ := trodAll_cons r0
  obtain ⟨v2, vs2, d2, ds2, p2, q2, rfl, rfl, rfl, h2, r2⟩ := trodAll_cons r1
  obtain ⟨rfl, rfl, rfl⟩ := trodAll_nil r2
  obtain rfl : args = #[v0, v1, v2] := by cases args; simp_all
  obtain ⟨rfl, rfl⟩ := trodVars_none hV
  obtain ⟨a0, len0, cap0, rfl⟩ := okWide_slice Trym.underlying27 (hval 0 27 v0 rfl rfl)
  have k0 := h0
  have lt0 : ∀ x ∈ p0, x.block < W.heap.size := by obtain ⟨m, hm⟩ := k0; exact DataW.trod_lt m _ _ _ hm
  obtain ⟨z0, w0⟩ : ∃ zs, IsRow .i64 W a0 len0 cap0 zs := by
    obtain ⟨fuel, hf⟩ := h0
    rcases open_ints Trym.underlying27 Trym.underlying2 (by kernel_rfl) hf with ⟨hcs, _⟩ | ⟨x, l, c, zs, hcs, _, hl, hm, hz, _, hcell, hwz⟩
    · simp [Value.cells] at hcs
      obtain ⟨rfl, rfl, rfl⟩ := hcs
      exact ⟨[], .inl ⟨rfl, rfl, rfl, rfl⟩⟩
    · simp [Value.cells] at hcs
      obtain ⟨rfl, rfl, rfl⟩ := hcs
      exact ⟨zs, .inr ⟨_, rfl, hl, hm, by simpa using hz, hcell, hwz⟩⟩
  obtain ⟨a1, len1, cap1, rfl⟩ := okWide_slice Trym.underlying27 (hval 1 27 v1 rfl rfl)
  have k1 := h1
  have lt1 : ∀ x ∈ p1, x.block < W.heap.size := by obtain ⟨m, hm⟩ := k1; exact DataW.trod_lt m _ _ _ hm
  obtain ⟨z1, w1⟩ : ∃ zs, IsRow .i64 W a1 len1 cap1 zs := by
    obtain ⟨fuel, hf⟩ := h1
    rcases open_ints Trym.underlying27 Trym.underlying2 (by kernel_rfl) hf with ⟨hcs, _⟩ | ⟨x, l, c, zs, hcs, _, hl, hm, hz, _, hcell, hwz⟩
    · simp [Value.cells] at hcs
      obtain ⟨rfl, rfl, rfl⟩ := hcs
      exact ⟨[], .inl ⟨rfl, rfl, rfl, rfl⟩⟩
    · simp [Value.cells] at hcs
      obtain ⟨rfl, rfl, rfl⟩ := hcs
      exact ⟨zs, .inr ⟨_, rfl, hl, hm, by simpa using hz, hcell, hwz⟩⟩
  obtain ⟨a2, rfl, rfl, rfl, w2⟩ := open_int Trym.underlying3 (hval 2 3 v2 rfl rfl) h2
  clear hA0 hval0
  refine (walk a0 len0 cap0 z0 a1 len1 cap1 z1 a2 W w0 w1 w2).mono fun e W' ⟨he, bel⟩ => ?_
  subst he
  exact ⟨_, rfl, _, _, _, [], _, [], hW', trodAll_mk1 (shut_bool Trym.underlying4 _), (trodAll_cons_mk (Below.trod laidOut (by kernel_rfl) (of_decide_eq_true (by kernel_rfl)) k0 bel lt0) (trodAll_cons_mk (Below.trod laidOut (by kernel_rfl) (of_decide_eq_true (by kernel_rfl)) k1 bel lt1) (trodAll_cons_mk (shut_int Trym.underlying3 w2) trodAll_mk0))), rfl, bel.frame _, fun h => by cases h⟩

theorem over : Rows.fnRetainedStartKeepingMoreNeverStartsLaterRow.holds Trym.pinned (OpenSpec.ofChange Rows.fnRetainedStartKeepingMoreNeverStartsLaterSpec) :=
  OpenClaim.holds_of_wide 5 Trym.f5 rfl rfl rfl rfl rfl rfl rfl ⟨rfl, rfl, rfl, rfl, rfl⟩ rfl rfl rfl rfl rfl (by kernel_rfl) Trym.func5 (by kernel_rfl)
    (of_decide_eq_true (by kernel_rfl)) (by unfold Func.isWrapper; first | (rw [if_pos (by decide +kernel)]; kernel_rfl) | (rw [if_neg (by decide +kernel)]; exact ⟨rfl, rfl⟩))
    (fun os started H enc _ => lifted os started H enc)

/-- ████ THE STATEMENT ████ -/
theorem proved : Rows.FnRetainedStartKeepingMoreNeverStartsLaterSaid := over
end Go.Proofs.Qxb6600020aMods.fnRetainedStartKeepingMoreNeverStartsLater
namespace Go.Proofs.Qxb6600020aMods
theorem keeping_proved : Rows.FnRetainedStartKeepingMoreNeverStartsLaterSaid := fnRetainedStartKeepingMoreNeverStartsLater.proved
end Go.Proofs.Qxb6600020aMods
