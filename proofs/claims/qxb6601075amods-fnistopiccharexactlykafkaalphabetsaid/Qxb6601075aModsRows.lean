/-
  No cell of these rows narrows 'for every input' (looked for: loops, veiled, ifaces, maps, wideKeys, modest, calm, conditions, laid).
  DERIVED. THE GIVEN ROWS OF THIS SEAT. 1 by the template 'for every input the law returns true; each argument reads behind the call as it read before'; 0 by the template 'total and deterministic' (their statements: Qxb6601075aModsTotals.lean).
  GIVEN WITH THE SEED: the statements are not yours to turn. If you find one false, say at which input.
  Laid BY PROGRAM, IN A SANDBOX (cutbox-rows.mjs): the forced cells as the released guide's own fill.sh prints them over the translation 8769fc3e82999a33… (all of the seat's roots in one cut). By AI agents, Wed Nov 11 2026. No macro, syntax, notation, axiom, sorry.
-/
import Derived.Test.Qxb6601075aModsChecked
import GoSem.Claim
import GoSem.ClaimJoined
import GoSem.ClaimMapViews
import Derived.JoinedTies
import Derived.KernelRfl
namespace Go.Proofs.Qxb6601075aMods
/- THE CELL 'sum', in the pinned program and in every row, IS THE sha256 OF THE DUMP (.gsa) THAT Qxb6601075aModsProg.lean LOADS. Nothing in Lean hashes anything: it is a label: what it is worth is what the hold of that sum in a sandbox is worth. -/
noncomputable def Trym.pinned : Pinned := { name := "qxb6601075amods", sum := "8769fc3e82999a339fd17c7028bc7358ff7f371f633f475ffe138a46da8db6c2", checked := Trym.checked }
namespace Rows
def none {H : Type} : Left H := { results := [], args := [] }

/-- 'zzlaws_kafka_b1.FnIsTopicCharExactlyKafkaAlphabet': WHATEVER THE INPUT: true; the input reads as it did. -/
def fnIsTopicCharExactlyKafkaAlphabetSpec : ChangeSpec := { name := "fnIsTopicCharExactlyKafkaAlphabet", fn := fun _ => fun
  | [d] => { results := [.lit (.bool true)], args := [d] }
  | _ => none }
def fnIsTopicCharExactlyKafkaAlphabetRow : OpenClaim := { program := "qxb6601075amods", sum := "8769fc3e82999a339fd17c7028bc7358ff7f371f633f475ffe138a46da8db6c2", func := "example.com/strict-outbox/strict-outbox/zzlaws_kafka_b1.FnIsTopicCharExactlyKafkaAlphabet", spec := "fnIsTopicCharExactlyKafkaAlphabet", make := .lifted ["publicsums"], apart := false }
def FnIsTopicCharExactlyKafkaAlphabetSaid : Prop := fnIsTopicCharExactlyKafkaAlphabetRow.holds Trym.pinned (OpenSpec.ofChange fnIsTopicCharExactlyKafkaAlphabetSpec)

/-- ITS FALSE NEIGHBOUR: 'it returns false'. Refute it at one input. -/
def fnIsTopicCharExactlyKafkaAlphabetWrong : ChangeSpec := { name := "fnIsTopicCharExactlyKafkaAlphabet", fn := fun _ => fun
  | [d] => { results := [.lit (.bool false)], args := [d] }
  | _ => none }
def FnIsTopicCharExactlyKafkaAlphabetWrongFalsely : Prop := fnIsTopicCharExactlyKafkaAlphabetRow.holds Trym.pinned (OpenSpec.ofChange fnIsTopicCharExactlyKafkaAlphabetWrong)

end Rows
end Go.Proofs.Qxb6601075aMods
