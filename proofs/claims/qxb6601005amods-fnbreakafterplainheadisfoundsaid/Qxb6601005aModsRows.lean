/-
  No cell of these rows narrows 'for every input' (looked for: loops, veiled, ifaces, maps, wideKeys, modest, calm, conditions, laid).
  DERIVED. THE GIVEN ROWS OF THIS SEAT. 3 by the template 'for every input the law returns true; each argument reads behind the call as it read before'; 0 by the template 'total and deterministic' (their statements: Qxb6601005aModsTotals.lean).
  GIVEN WITH THE SEED: the statements are not yours to turn. If you find one false, say at which input.
  Laid BY PROGRAM, IN A SANDBOX (cutbox-rows.mjs): the forced cells as the released guide's own fill.sh prints them over the translation a4c8242c04204b16… (all of the seat's roots in one cut). By AI agents, Wed Nov 11 2026. No macro, syntax, notation, axiom, sorry.
-/
import Derived.Test.Qxb6601005aModsChecked
import GoSem.Claim
import GoSem.ClaimJoined
import GoSem.ClaimMapViews
import Derived.JoinedTies
import Derived.KernelRfl
namespace Go.Proofs.Qxb6601005aMods
/- THE CELL 'sum', in the pinned program and in every row, IS THE sha256 OF THE DUMP (.gsa) THAT Qxb6601005aModsProg.lean LOADS. Nothing in Lean hashes anything: it is a label: what it is worth is what the hold of that sum in a sandbox is worth. -/
noncomputable def Trym.pinned : Pinned := { name := "qxb6601005amods", sum := "a4c8242c04204b16f7ec17014b8d1f77ecfc1cbc10d8853f21940b73abe32bac", checked := Trym.checked }
namespace Rows
def none {H : Type} : Left H := { results := [], args := [] }

/-- 'zzlaws_internal_chartrepo_b1.FnLineEndIsShortestBreakEnd': WHATEVER THE INPUT: true; the input reads as it did. -/
def fnLineEndIsShortestBreakEndSpec : ChangeSpec := { name := "fnLineEndIsShortestBreakEnd", fn := fun _ => fun
  | [d] => { results := [.lit (.bool true)], args := [d] }
  | _ => none }
def fnLineEndIsShortestBreakEndRow : OpenClaim := { program := "qxb6601005amods", sum := "a4c8242c04204b16f7ec17014b8d1f77ecfc1cbc10d8853f21940b73abe32bac", func := "example.com/windward/windward/zzlaws_internal_chartrepo_b1.FnLineEndIsShortestBreakEnd", spec := "fnLineEndIsShortestBreakEnd", make := .lifted ["publicsums"], apart := false }
def FnLineEndIsShortestBreakEndSaid : Prop := fnLineEndIsShortestBreakEndRow.holds Trym.pinned (OpenSpec.ofChange fnLineEndIsShortestBreakEndSpec)

/-- ITS FALSE NEIGHBOUR: 'it returns false'. Refute it at one input. -/
def fnLineEndIsShortestBreakEndWrong : ChangeSpec := { name := "fnLineEndIsShortestBreakEnd", fn := fun _ => fun
  | [d] => { results := [.lit (.bool false)], args := [d] }
  | _ => none }
def FnLineEndIsShortestBreakEndWrongFalsely : Prop := fnLineEndIsShortestBreakEndRow.holds Trym.pinned (OpenSpec.ofChange fnLineEndIsShortestBreakEndWrong)

/-- 'zzlaws_internal_chartrepo_b1.FnLineBreakIsLongestBreakSuffix': WHATEVER THE INPUT: true; the input reads as it did. -/
def fnLineBreakIsLongestBreakSuffixSpec : ChangeSpec := { name := "fnLineBreakIsLongestBreakSuffix", fn := fun _ => fun
  | [d] => { results := [.lit (.bool true)], args := [d] }
  | _ => none }
def fnLineBreakIsLongestBreakSuffixRow : OpenClaim := { program := "qxb6601005amods", sum := "a4c8242c04204b16f7ec17014b8d1f77ecfc1cbc10d8853f21940b73abe32bac", func := "example.com/windward/windward/zzlaws_internal_chartrepo_b1.FnLineBreakIsLongestBreakSuffix", spec := "fnLineBreakIsLongestBreakSuffix", make := .lifted ["publicsums"], apart := false }
def FnLineBreakIsLongestBreakSuffixSaid : Prop := fnLineBreakIsLongestBreakSuffixRow.holds Trym.pinned (OpenSpec.ofChange fnLineBreakIsLongestBreakSuffixSpec)

/-- ITS FALSE NEIGHBOUR: 'it returns false'. Refute it at one input. -/
def fnLineBreakIsLongestBreakSuffixWrong : ChangeSpec := { name := "fnLineBreakIsLongestBreakSuffix", fn := fun _ => fun
  | [d] => { results := [.lit (.bool false)], args := [d] }
  | _ => none }
def FnLineBreakIsLongestBreakSuffixWrongFalsely : Prop := fnLineBreakIsLongestBreakSuffixRow.holds Trym.pinned (OpenSpec.ofChange fnLineBreakIsLongestBreakSuffixWrong)

/-- 'zzlaws_internal_chartrepo_b1.FnBreakAfterPlainHeadIsFound': WHATEVER THE INPUT: true; the input reads as it did. -/
def fnBreakAfterPlainHeadIsFoundSpec : ChangeSpec := { name := "fnBreakAfterPlainHeadIsFound", fn := fun _ => fun
  | [d1, d2, d3] => { results := [.lit (.bool true)], args := [d1, d2, d3] }
  | _ => none }
def fnBreakAfterPlainHeadIsFoundRow : OpenClaim := { program := "qxb6601005amods", sum := "a4c8242c04204b16f7ec17014b8d1f77ecfc1cbc10d8853f21940b73abe32bac", func := "example.com/windward/windward/zzlaws_internal_chartrepo_b1.FnBreakAfterPlainHeadIsFound", spec := "fnBreakAfterPlainHeadIsFound", make := .lifted ["publicsums"], apart := false }
def FnBreakAfterPlainHeadIsFoundSaid : Prop := fnBreakAfterPlainHeadIsFoundRow.holds Trym.pinned (OpenSpec.ofChange fnBreakAfterPlainHeadIsFoundSpec)

/-- ITS FALSE NEIGHBOUR: 'it returns false'. Refute it at one input. -/
def fnBreakAfterPlainHeadIsFoundWrong : ChangeSpec := { name := "fnBreakAfterPlainHeadIsFound", fn := fun _ => fun
  | [d1, d2, d3] => { results := [.lit (.bool false)], args := [d1, d2, d3] }
  | _ => none }
def FnBreakAfterPlainHeadIsFoundWrongFalsely : Prop := fnBreakAfterPlainHeadIsFoundRow.holds Trym.pinned (OpenSpec.ofChange fnBreakAfterPlainHeadIsFoundWrong)

end Rows
end Go.Proofs.Qxb6601005aMods
