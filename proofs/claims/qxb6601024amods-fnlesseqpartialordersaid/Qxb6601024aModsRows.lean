/-
  No cell of these rows narrows 'for every input' (looked for: loops, veiled, ifaces, maps, wideKeys, modest, calm, conditions, laid).
  DERIVED. THE GIVEN ROWS OF THIS SEAT. 6 by the template 'for every input the law returns true; each argument reads behind the call as it read before'; 0 by the template 'total and deterministic' (their statements: Qxb6601024aModsTotals.lean).
  GIVEN WITH THE SEED: the statements are not yours to turn. If you find one false, say at which input.
  Laid BY PROGRAM, IN A SANDBOX (cutbox-rows.mjs): the forced cells as the released guide's own fill.sh prints them over the translation e44bb581677dfa4e… (all of the seat's roots in one cut). By AI agents, Wed Nov 11 2026. No macro, syntax, notation, axiom, sorry.
-/
import Derived.Test.Qxb6601024aModsChecked
import GoSem.Claim
import GoSem.ClaimJoined
import GoSem.ClaimMapViews
import Derived.JoinedTies
import Derived.KernelRfl
namespace Go.Proofs.Qxb6601024aMods
/- THE CELL 'sum', in the pinned program and in every row, IS THE sha256 OF THE DUMP (.gsa) THAT Qxb6601024aModsProg.lean LOADS. Nothing in Lean hashes anything: it is a label: what it is worth is what the hold of that sum in a sandbox is worth. -/
noncomputable def Trym.pinned : Pinned := { name := "qxb6601024amods", sum := "e44bb581677dfa4e850810a78f66edf9bcc43da6668493dabb3215e5597aa937", checked := Trym.checked }
namespace Rows
def none {H : Type} : Left H := { results := [], args := [] }

/-- 'zzlaws_internal_wire_b1.FnLessEqPaddedSpec': WHATEVER THE INPUT: true; the input reads as it did. -/
def fnLessEqPaddedSpecSpec : ChangeSpec := { name := "fnLessEqPaddedSpec", fn := fun _ => fun
  | [d1, d2] => { results := [.lit (.bool true)], args := [d1, d2] }
  | _ => none }
def fnLessEqPaddedSpecRow : OpenClaim := { program := "qxb6601024amods", sum := "e44bb581677dfa4e850810a78f66edf9bcc43da6668493dabb3215e5597aa937", func := "example.com/slackwater/slackwater/zzlaws_internal_wire_b1.FnLessEqPaddedSpec", spec := "fnLessEqPaddedSpec", make := .lifted ["publicsums"], apart := false }
def FnLessEqPaddedSpecSaid : Prop := fnLessEqPaddedSpecRow.holds Trym.pinned (OpenSpec.ofChange fnLessEqPaddedSpecSpec)

/-- ITS FALSE NEIGHBOUR: 'it returns false'. Refute it at one input. -/
def fnLessEqPaddedSpecWrong : ChangeSpec := { name := "fnLessEqPaddedSpec", fn := fun _ => fun
  | [d1, d2] => { results := [.lit (.bool false)], args := [d1, d2] }
  | _ => none }
def FnLessEqPaddedSpecWrongFalsely : Prop := fnLessEqPaddedSpecRow.holds Trym.pinned (OpenSpec.ofChange fnLessEqPaddedSpecWrong)

/-- 'zzlaws_internal_wire_b1.FnLessEqIffMergeIsUpper': WHATEVER THE INPUT: true; the input reads as it did. -/
def fnLessEqIffMergeIsUpperSpec : ChangeSpec := { name := "fnLessEqIffMergeIsUpper", fn := fun _ => fun
  | [d1, d2] => { results := [.lit (.bool true)], args := [d1, d2] }
  | _ => none }
def fnLessEqIffMergeIsUpperRow : OpenClaim := { program := "qxb6601024amods", sum := "e44bb581677dfa4e850810a78f66edf9bcc43da6668493dabb3215e5597aa937", func := "example.com/slackwater/slackwater/zzlaws_internal_wire_b1.FnLessEqIffMergeIsUpper", spec := "fnLessEqIffMergeIsUpper", make := .lifted ["publicsums"], apart := false }
def FnLessEqIffMergeIsUpperSaid : Prop := fnLessEqIffMergeIsUpperRow.holds Trym.pinned (OpenSpec.ofChange fnLessEqIffMergeIsUpperSpec)

/-- ITS FALSE NEIGHBOUR: 'it returns false'. Refute it at one input. -/
def fnLessEqIffMergeIsUpperWrong : ChangeSpec := { name := "fnLessEqIffMergeIsUpper", fn := fun _ => fun
  | [d1, d2] => { results := [.lit (.bool false)], args := [d1, d2] }
  | _ => none }
def FnLessEqIffMergeIsUpperWrongFalsely : Prop := fnLessEqIffMergeIsUpperRow.holds Trym.pinned (OpenSpec.ofChange fnLessEqIffMergeIsUpperWrong)

/-- 'zzlaws_internal_wire_b1.FnLessEqPartialOrder': WHATEVER THE INPUT: true; the input reads as it did. -/
def fnLessEqPartialOrderSpec : ChangeSpec := { name := "fnLessEqPartialOrder", fn := fun _ => fun
  | [d1, d2, d3] => { results := [.lit (.bool true)], args := [d1, d2, d3] }
  | _ => none }
def fnLessEqPartialOrderRow : OpenClaim := { program := "qxb6601024amods", sum := "e44bb581677dfa4e850810a78f66edf9bcc43da6668493dabb3215e5597aa937", func := "example.com/slackwater/slackwater/zzlaws_internal_wire_b1.FnLessEqPartialOrder", spec := "fnLessEqPartialOrder", make := .lifted ["publicsums"], apart := false }
def FnLessEqPartialOrderSaid : Prop := fnLessEqPartialOrderRow.holds Trym.pinned (OpenSpec.ofChange fnLessEqPartialOrderSpec)

/-- ITS FALSE NEIGHBOUR: 'it returns false'. Refute it at one input. -/
def fnLessEqPartialOrderWrong : ChangeSpec := { name := "fnLessEqPartialOrder", fn := fun _ => fun
  | [d1, d2, d3] => { results := [.lit (.bool false)], args := [d1, d2, d3] }
  | _ => none }
def FnLessEqPartialOrderWrongFalsely : Prop := fnLessEqPartialOrderRow.holds Trym.pinned (OpenSpec.ofChange fnLessEqPartialOrderWrong)

/-- 'zzlaws_internal_wire_b1.FnMergeSpec': WHATEVER THE INPUT: true; the input reads as it did. -/
def fnMergeSpecSpec : ChangeSpec := { name := "fnMergeSpec", fn := fun _ => fun
  | [d1, d2] => { results := [.lit (.bool true)], args := [d1, d2] }
  | _ => none }
def fnMergeSpecRow : OpenClaim := { program := "qxb6601024amods", sum := "e44bb581677dfa4e850810a78f66edf9bcc43da6668493dabb3215e5597aa937", func := "example.com/slackwater/slackwater/zzlaws_internal_wire_b1.FnMergeSpec", spec := "fnMergeSpec", make := .lifted ["publicsums"], apart := false }
def FnMergeSpecSaid : Prop := fnMergeSpecRow.holds Trym.pinned (OpenSpec.ofChange fnMergeSpecSpec)

/-- ITS FALSE NEIGHBOUR: 'it returns false'. Refute it at one input. -/
def fnMergeSpecWrong : ChangeSpec := { name := "fnMergeSpec", fn := fun _ => fun
  | [d1, d2] => { results := [.lit (.bool false)], args := [d1, d2] }
  | _ => none }
def FnMergeSpecWrongFalsely : Prop := fnMergeSpecRow.holds Trym.pinned (OpenSpec.ofChange fnMergeSpecWrong)

/-- 'zzlaws_internal_wire_b1.FnMergeLeastUpperBound': WHATEVER THE INPUT: true; the input reads as it did. -/
def fnMergeLeastUpperBoundSpec : ChangeSpec := { name := "fnMergeLeastUpperBound", fn := fun _ => fun
  | [d1, d2, d3] => { results := [.lit (.bool true)], args := [d1, d2, d3] }
  | _ => none }
def fnMergeLeastUpperBoundRow : OpenClaim := { program := "qxb6601024amods", sum := "e44bb581677dfa4e850810a78f66edf9bcc43da6668493dabb3215e5597aa937", func := "example.com/slackwater/slackwater/zzlaws_internal_wire_b1.FnMergeLeastUpperBound", spec := "fnMergeLeastUpperBound", make := .lifted ["publicsums"], apart := false }
def FnMergeLeastUpperBoundSaid : Prop := fnMergeLeastUpperBoundRow.holds Trym.pinned (OpenSpec.ofChange fnMergeLeastUpperBoundSpec)

/-- ITS FALSE NEIGHBOUR: 'it returns false'. Refute it at one input. -/
def fnMergeLeastUpperBoundWrong : ChangeSpec := { name := "fnMergeLeastUpperBound", fn := fun _ => fun
  | [d1, d2, d3] => { results := [.lit (.bool false)], args := [d1, d2, d3] }
  | _ => none }
def FnMergeLeastUpperBoundWrongFalsely : Prop := fnMergeLeastUpperBoundRow.holds Trym.pinned (OpenSpec.ofChange fnMergeLeastUpperBoundWrong)

/-- 'zzlaws_internal_wire_b1.FnMergeFreshResult': WHATEVER THE INPUT: true; the input reads as it did. -/
def fnMergeFreshResultSpec : ChangeSpec := { name := "fnMergeFreshResult", fn := fun _ => fun
  | [d1, d2] => { results := [.lit (.bool true)], args := [d1, d2] }
  | _ => none }
def fnMergeFreshResultRow : OpenClaim := { program := "qxb6601024amods", sum := "e44bb581677dfa4e850810a78f66edf9bcc43da6668493dabb3215e5597aa937", func := "example.com/slackwater/slackwater/zzlaws_internal_wire_b1.FnMergeFreshResult", spec := "fnMergeFreshResult", make := .lifted ["publicsums"], apart := false }
def FnMergeFreshResultSaid : Prop := fnMergeFreshResultRow.holds Trym.pinned (OpenSpec.ofChange fnMergeFreshResultSpec)

/-- ITS FALSE NEIGHBOUR: 'it returns false'. Refute it at one input. -/
def fnMergeFreshResultWrong : ChangeSpec := { name := "fnMergeFreshResult", fn := fun _ => fun
  | [d1, d2] => { results := [.lit (.bool false)], args := [d1, d2] }
  | _ => none }
def FnMergeFreshResultWrongFalsely : Prop := fnMergeFreshResultRow.holds Trym.pinned (OpenSpec.ofChange fnMergeFreshResultWrong)

end Rows
end Go.Proofs.Qxb6601024aMods
