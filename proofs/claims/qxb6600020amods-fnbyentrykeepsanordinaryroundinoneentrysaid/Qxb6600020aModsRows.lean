/-
  No cell of these rows narrows 'for every input' (looked for: loops, veiled, ifaces, maps, wideKeys, modest, calm, conditions, laid).
  DERIVED. THE GIVEN ROWS OF THIS SEAT. 7 by the template 'for every input the law returns true; each argument reads behind the call as it read before'; 0 by the template 'total and deterministic' (their statements: Qxb6600020aModsTotals.lean).
  GIVEN WITH THE SEED: the statements are not yours to turn. If you find one false, say at which input.
  Laid BY PROGRAM, IN A SANDBOX (cutbox-rows.mjs): the forced cells as the released guide's own fill.sh prints them over the translation 715e4ebee7ac2c54… (all of the seat's roots in one cut). By AI agents, Wed Nov 11 2026. No macro, syntax, notation, axiom, sorry.
-/
import Derived.Test.Qxb6600020aModsChecked
import GoSem.Claim
import GoSem.ClaimJoined
import GoSem.ClaimMapViews
import Derived.JoinedTies
import Derived.KernelRfl
namespace Go.Proofs.Qxb6600020aMods
/- THE CELL 'sum', in the pinned program and in every row, IS THE sha256 OF THE DUMP (.gsa) THAT Qxb6600020aModsProg.lean LOADS. Nothing in Lean hashes anything: it is a label: what it is worth is what the hold of that sum in a sandbox is worth. -/
noncomputable def Trym.pinned : Pinned := { name := "qxb6600020amods", sum := "715e4ebee7ac2c54f1c7b01634184de0cb5a1ac21b5bed26e2b51f85e1f4fd82", checked := Trym.checked }
namespace Rows
def none {H : Type} : Left H := { results := [], args := [] }

/-- 'zzlaws_pkg_cluster_b1.FnByEntryKeepsAnOrdinaryRoundInOneEntry': WHATEVER THE INPUT: true; the input reads as it did. -/
def fnByEntryKeepsAnOrdinaryRoundInOneEntrySpec : ChangeSpec := { name := "fnByEntryKeepsAnOrdinaryRoundInOneEntry", fn := fun _ => fun
  | [d] => { results := [.lit (.bool true)], args := [d] }
  | _ => none }
def fnByEntryKeepsAnOrdinaryRoundInOneEntryRow : OpenClaim := { program := "qxb6600020amods", sum := "715e4ebee7ac2c54f1c7b01634184de0cb5a1ac21b5bed26e2b51f85e1f4fd82", func := "example.com/driftlog/driftlog/zzlaws_pkg_cluster_b1.FnByEntryKeepsAnOrdinaryRoundInOneEntry", spec := "fnByEntryKeepsAnOrdinaryRoundInOneEntry", make := .lifted ["publicsums"], apart := false }
def FnByEntryKeepsAnOrdinaryRoundInOneEntrySaid : Prop := fnByEntryKeepsAnOrdinaryRoundInOneEntryRow.holds Trym.pinned (OpenSpec.ofChange fnByEntryKeepsAnOrdinaryRoundInOneEntrySpec)

/-- ITS FALSE NEIGHBOUR: 'it returns false'. Refute it at one input. -/
def fnByEntryKeepsAnOrdinaryRoundInOneEntryWrong : ChangeSpec := { name := "fnByEntryKeepsAnOrdinaryRoundInOneEntry", fn := fun _ => fun
  | [d] => { results := [.lit (.bool false)], args := [d] }
  | _ => none }
def FnByEntryKeepsAnOrdinaryRoundInOneEntryWrongFalsely : Prop := fnByEntryKeepsAnOrdinaryRoundInOneEntryRow.holds Trym.pinned (OpenSpec.ofChange fnByEntryKeepsAnOrdinaryRoundInOneEntryWrong)

/-- 'zzlaws_pkg_cluster_b1.FnRetainedStartMatchesCountingModel': WHATEVER THE INPUT: true; the input reads as it did. -/
def fnRetainedStartMatchesCountingModelSpec : ChangeSpec := { name := "fnRetainedStartMatchesCountingModel", fn := fun _ => fun
  | [d1, d2, d3] => { results := [.lit (.bool true)], args := [d1, d2, d3] }
  | _ => none }
def fnRetainedStartMatchesCountingModelRow : OpenClaim := { program := "qxb6600020amods", sum := "715e4ebee7ac2c54f1c7b01634184de0cb5a1ac21b5bed26e2b51f85e1f4fd82", func := "example.com/driftlog/driftlog/zzlaws_pkg_cluster_b1.FnRetainedStartMatchesCountingModel", spec := "fnRetainedStartMatchesCountingModel", make := .lifted ["publicsums"], apart := false }
def FnRetainedStartMatchesCountingModelSaid : Prop := fnRetainedStartMatchesCountingModelRow.holds Trym.pinned (OpenSpec.ofChange fnRetainedStartMatchesCountingModelSpec)

/-- ITS FALSE NEIGHBOUR: 'it returns false'. Refute it at one input. -/
def fnRetainedStartMatchesCountingModelWrong : ChangeSpec := { name := "fnRetainedStartMatchesCountingModel", fn := fun _ => fun
  | [d1, d2, d3] => { results := [.lit (.bool false)], args := [d1, d2, d3] }
  | _ => none }
def FnRetainedStartMatchesCountingModelWrongFalsely : Prop := fnRetainedStartMatchesCountingModelRow.holds Trym.pinned (OpenSpec.ofChange fnRetainedStartMatchesCountingModelWrong)

/-- 'zzlaws_pkg_cluster_b1.FnRetainedStartKeepingMoreNeverStartsLater': WHATEVER THE INPUT: true; the input reads as it did. -/
def fnRetainedStartKeepingMoreNeverStartsLaterSpec : ChangeSpec := { name := "fnRetainedStartKeepingMoreNeverStartsLater", fn := fun _ => fun
  | [d1, d2, d3] => { results := [.lit (.bool true)], args := [d1, d2, d3] }
  | _ => none }
def fnRetainedStartKeepingMoreNeverStartsLaterRow : OpenClaim := { program := "qxb6600020amods", sum := "715e4ebee7ac2c54f1c7b01634184de0cb5a1ac21b5bed26e2b51f85e1f4fd82", func := "example.com/driftlog/driftlog/zzlaws_pkg_cluster_b1.FnRetainedStartKeepingMoreNeverStartsLater", spec := "fnRetainedStartKeepingMoreNeverStartsLater", make := .lifted ["publicsums"], apart := false }
def FnRetainedStartKeepingMoreNeverStartsLaterSaid : Prop := fnRetainedStartKeepingMoreNeverStartsLaterRow.holds Trym.pinned (OpenSpec.ofChange fnRetainedStartKeepingMoreNeverStartsLaterSpec)

/-- ITS FALSE NEIGHBOUR: 'it returns false'. Refute it at one input. -/
def fnRetainedStartKeepingMoreNeverStartsLaterWrong : ChangeSpec := { name := "fnRetainedStartKeepingMoreNeverStartsLater", fn := fun _ => fun
  | [d1, d2, d3] => { results := [.lit (.bool false)], args := [d1, d2, d3] }
  | _ => none }
def FnRetainedStartKeepingMoreNeverStartsLaterWrongFalsely : Prop := fnRetainedStartKeepingMoreNeverStartsLaterRow.holds Trym.pinned (OpenSpec.ofChange fnRetainedStartKeepingMoreNeverStartsLaterWrong)

/-- 'zzlaws_pkg_cluster_b1.FnRetainedStartIgnoresEmptyMiddleSegments': WHATEVER THE INPUT: true; the input reads as it did. -/
def fnRetainedStartIgnoresEmptyMiddleSegmentsSpec : ChangeSpec := { name := "fnRetainedStartIgnoresEmptyMiddleSegments", fn := fun _ => fun
  | [d1, d2, d3] => { results := [.lit (.bool true)], args := [d1, d2, d3] }
  | _ => none }
def fnRetainedStartIgnoresEmptyMiddleSegmentsRow : OpenClaim := { program := "qxb6600020amods", sum := "715e4ebee7ac2c54f1c7b01634184de0cb5a1ac21b5bed26e2b51f85e1f4fd82", func := "example.com/driftlog/driftlog/zzlaws_pkg_cluster_b1.FnRetainedStartIgnoresEmptyMiddleSegments", spec := "fnRetainedStartIgnoresEmptyMiddleSegments", make := .lifted ["publicsums"], apart := false }
def FnRetainedStartIgnoresEmptyMiddleSegmentsSaid : Prop := fnRetainedStartIgnoresEmptyMiddleSegmentsRow.holds Trym.pinned (OpenSpec.ofChange fnRetainedStartIgnoresEmptyMiddleSegmentsSpec)

/-- ITS FALSE NEIGHBOUR: 'it returns false'. Refute it at one input. -/
def fnRetainedStartIgnoresEmptyMiddleSegmentsWrong : ChangeSpec := { name := "fnRetainedStartIgnoresEmptyMiddleSegments", fn := fun _ => fun
  | [d1, d2, d3] => { results := [.lit (.bool false)], args := [d1, d2, d3] }
  | _ => none }
def FnRetainedStartIgnoresEmptyMiddleSegmentsWrongFalsely : Prop := fnRetainedStartIgnoresEmptyMiddleSegmentsRow.holds Trym.pinned (OpenSpec.ofChange fnRetainedStartIgnoresEmptyMiddleSegmentsWrong)

/-- 'zzlaws_pkg_cluster_b1.FnSpreadSplitsAtAnyPartition': WHATEVER THE INPUT: true; the input reads as it did. -/
def fnSpreadSplitsAtAnyPartitionSpec : ChangeSpec := { name := "fnSpreadSplitsAtAnyPartition", fn := fun _ => fun
  | [d1, d2, d3, d4, d5, d6] => { results := [.lit (.bool true)], args := [d1, d2, d3, d4, d5, d6] }
  | _ => none }
def fnSpreadSplitsAtAnyPartitionRow : OpenClaim := { program := "qxb6600020amods", sum := "715e4ebee7ac2c54f1c7b01634184de0cb5a1ac21b5bed26e2b51f85e1f4fd82", func := "example.com/driftlog/driftlog/zzlaws_pkg_cluster_b1.FnSpreadSplitsAtAnyPartition", spec := "fnSpreadSplitsAtAnyPartition", make := .lifted ["publicsums"], apart := false }
def FnSpreadSplitsAtAnyPartitionSaid : Prop := fnSpreadSplitsAtAnyPartitionRow.holds Trym.pinned (OpenSpec.ofChange fnSpreadSplitsAtAnyPartitionSpec)

/-- ITS FALSE NEIGHBOUR: 'it returns false'. Refute it at one input. -/
def fnSpreadSplitsAtAnyPartitionWrong : ChangeSpec := { name := "fnSpreadSplitsAtAnyPartition", fn := fun _ => fun
  | [d1, d2, d3, d4, d5, d6] => { results := [.lit (.bool false)], args := [d1, d2, d3, d4, d5, d6] }
  | _ => none }
def FnSpreadSplitsAtAnyPartitionWrongFalsely : Prop := fnSpreadSplitsAtAnyPartitionRow.holds Trym.pinned (OpenSpec.ofChange fnSpreadSplitsAtAnyPartitionWrong)

/-- 'zzlaws_pkg_cluster_b1.FnSpreadRepeatsEveryLenUp': WHATEVER THE INPUT: true; the input reads as it did. -/
def fnSpreadRepeatsEveryLenUpSpec : ChangeSpec := { name := "fnSpreadRepeatsEveryLenUp", fn := fun _ => fun
  | [d1, d2, d3, d4, d5] => { results := [.lit (.bool true)], args := [d1, d2, d3, d4, d5] }
  | _ => none }
def fnSpreadRepeatsEveryLenUpRow : OpenClaim := { program := "qxb6600020amods", sum := "715e4ebee7ac2c54f1c7b01634184de0cb5a1ac21b5bed26e2b51f85e1f4fd82", func := "example.com/driftlog/driftlog/zzlaws_pkg_cluster_b1.FnSpreadRepeatsEveryLenUp", spec := "fnSpreadRepeatsEveryLenUp", make := .lifted ["publicsums"], apart := false }
def FnSpreadRepeatsEveryLenUpSaid : Prop := fnSpreadRepeatsEveryLenUpRow.holds Trym.pinned (OpenSpec.ofChange fnSpreadRepeatsEveryLenUpSpec)

/-- ITS FALSE NEIGHBOUR: 'it returns false'. Refute it at one input. -/
def fnSpreadRepeatsEveryLenUpWrong : ChangeSpec := { name := "fnSpreadRepeatsEveryLenUp", fn := fun _ => fun
  | [d1, d2, d3, d4, d5] => { results := [.lit (.bool false)], args := [d1, d2, d3, d4, d5] }
  | _ => none }
def FnSpreadRepeatsEveryLenUpWrongFalsely : Prop := fnSpreadRepeatsEveryLenUpRow.holds Trym.pinned (OpenSpec.ofChange fnSpreadRepeatsEveryLenUpWrong)

/-- 'zzlaws_pkg_cluster_b1.FnSpreadPlacesDistinctReplicasAndBalancesLeaders': WHATEVER THE INPUT: true; the input reads as it did. -/
def fnSpreadPlacesDistinctReplicasAndBalancesLeadersSpec : ChangeSpec := { name := "fnSpreadPlacesDistinctReplicasAndBalancesLeaders", fn := fun _ => fun
  | [d1, d2, d3, d4, d5] => { results := [.lit (.bool true)], args := [d1, d2, d3, d4, d5] }
  | _ => none }
def fnSpreadPlacesDistinctReplicasAndBalancesLeadersRow : OpenClaim := { program := "qxb6600020amods", sum := "715e4ebee7ac2c54f1c7b01634184de0cb5a1ac21b5bed26e2b51f85e1f4fd82", func := "example.com/driftlog/driftlog/zzlaws_pkg_cluster_b1.FnSpreadPlacesDistinctReplicasAndBalancesLeaders", spec := "fnSpreadPlacesDistinctReplicasAndBalancesLeaders", make := .lifted ["publicsums"], apart := false }
def FnSpreadPlacesDistinctReplicasAndBalancesLeadersSaid : Prop := fnSpreadPlacesDistinctReplicasAndBalancesLeadersRow.holds Trym.pinned (OpenSpec.ofChange fnSpreadPlacesDistinctReplicasAndBalancesLeadersSpec)

/-- ITS FALSE NEIGHBOUR: 'it returns false'. Refute it at one input. -/
def fnSpreadPlacesDistinctReplicasAndBalancesLeadersWrong : ChangeSpec := { name := "fnSpreadPlacesDistinctReplicasAndBalancesLeaders", fn := fun _ => fun
  | [d1, d2, d3, d4, d5] => { results := [.lit (.bool false)], args := [d1, d2, d3, d4, d5] }
  | _ => none }
def FnSpreadPlacesDistinctReplicasAndBalancesLeadersWrongFalsely : Prop := fnSpreadPlacesDistinctReplicasAndBalancesLeadersRow.holds Trym.pinned (OpenSpec.ofChange fnSpreadPlacesDistinctReplicasAndBalancesLeadersWrong)

end Rows
end Go.Proofs.Qxb6600020aMods
