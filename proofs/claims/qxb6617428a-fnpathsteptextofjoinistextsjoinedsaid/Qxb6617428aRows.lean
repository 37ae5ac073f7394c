/-
  No cell of these rows narrows 'for every input' (looked for: loops, veiled, ifaces, maps, wideKeys, modest, calm, conditions, laid).
  DERIVED. THE GIVEN ROWS OF THIS SEAT. 3 by the template 'for every input the law returns true; each argument reads behind the call as it read before'; 0 by the template 'total and deterministic' (their statements: Qxb6617428aTotals.lean).
  GIVEN WITH THE SEED: the statements are not yours to turn. If you find one false, say at which input.
  Laid BY PROGRAM, IN A SANDBOX (cutbox-rows.mjs): the forced cells as the released guide's own fill.sh prints them over the translation 98460cd0e7024982… (all of the seat's roots in one cut). By AI agents, Wed Nov 11 2026. No macro, syntax, notation, axiom, sorry.
-/
import Derived.Test.Qxb6617428aChecked
import GoSem.Claim
import GoSem.ClaimJoined
import GoSem.ClaimMapViews
import Derived.JoinedTies
import Derived.KernelRfl
namespace Go.Proofs.Qxb6617428a
/- THE CELL 'sum', in the pinned program and in every row, IS THE sha256 OF THE DUMP (.gsa) THAT Qxb6617428aProg.lean LOADS. Nothing in Lean hashes anything: it is a label: what it is worth is what the hold of that sum in a sandbox is worth. -/
noncomputable def Try.pinned : Pinned := { name := "qxb6617428a", sum := "98460cd0e7024982ff42c5f2f2ea1e9a8050e922b58f0d671e6292c82da20755", checked := Try.checked }
namespace Rows
def none {H : Type} : Left H := { results := [], args := [] }

/-- 'zzlaws_pkg_field_b1.FnPathJoinAppendsRestAfterReceiver': WHATEVER THE INPUT: true; the input reads as it did. -/
def fnPathJoinAppendsRestAfterReceiverSpec : ChangeSpec := { name := "fnPathJoinAppendsRestAfterReceiver", fn := fun _ => fun
  | [d1, d2] => { results := [.lit (.bool true)], args := [d1, d2] }
  | _ => none }
def fnPathJoinAppendsRestAfterReceiverRow : OpenClaim := { program := "qxb6617428a", sum := "98460cd0e7024982ff42c5f2f2ea1e9a8050e922b58f0d671e6292c82da20755", func := "example.com/fieldward/fieldward/zzlaws_pkg_field_b1.FnPathJoinAppendsRestAfterReceiver", spec := "fnPathJoinAppendsRestAfterReceiver", recurses := true, apart := false }
def FnPathJoinAppendsRestAfterReceiverSaid : Prop := fnPathJoinAppendsRestAfterReceiverRow.holds Try.pinned (OpenSpec.ofChange fnPathJoinAppendsRestAfterReceiverSpec)

/-- ITS FALSE NEIGHBOUR: 'it returns false'. Refute it at one input. -/
def fnPathJoinAppendsRestAfterReceiverWrong : ChangeSpec := { name := "fnPathJoinAppendsRestAfterReceiver", fn := fun _ => fun
  | [d1, d2] => { results := [.lit (.bool false)], args := [d1, d2] }
  | _ => none }
def FnPathJoinAppendsRestAfterReceiverWrongFalsely : Prop := fnPathJoinAppendsRestAfterReceiverRow.holds Try.pinned (OpenSpec.ofChange fnPathJoinAppendsRestAfterReceiverWrong)

/-- 'zzlaws_pkg_field_b1.FnPathJoinIsAssociative': WHATEVER THE INPUT: true; the input reads as it did. -/
def fnPathJoinIsAssociativeSpec : ChangeSpec := { name := "fnPathJoinIsAssociative", fn := fun _ => fun
  | [d1, d2, d3] => { results := [.lit (.bool true)], args := [d1, d2, d3] }
  | _ => none }
def fnPathJoinIsAssociativeRow : OpenClaim := { program := "qxb6617428a", sum := "98460cd0e7024982ff42c5f2f2ea1e9a8050e922b58f0d671e6292c82da20755", func := "example.com/fieldward/fieldward/zzlaws_pkg_field_b1.FnPathJoinIsAssociative", spec := "fnPathJoinIsAssociative", recurses := true, apart := false }
def FnPathJoinIsAssociativeSaid : Prop := fnPathJoinIsAssociativeRow.holds Try.pinned (OpenSpec.ofChange fnPathJoinIsAssociativeSpec)

/-- ITS FALSE NEIGHBOUR: 'it returns false'. Refute it at one input. -/
def fnPathJoinIsAssociativeWrong : ChangeSpec := { name := "fnPathJoinIsAssociative", fn := fun _ => fun
  | [d1, d2, d3] => { results := [.lit (.bool false)], args := [d1, d2, d3] }
  | _ => none }
def FnPathJoinIsAssociativeWrongFalsely : Prop := fnPathJoinIsAssociativeRow.holds Try.pinned (OpenSpec.ofChange fnPathJoinIsAssociativeWrong)

/-- 'zzlaws_pkg_field_b1.FnPathStepTextOfJoinIsTextsJoined': WHATEVER THE INPUT: true; the input reads as it did. -/
def fnPathStepTextOfJoinIsTextsJoinedSpec : ChangeSpec := { name := "fnPathStepTextOfJoinIsTextsJoined", fn := fun _ => fun
  | [d1, d2] => { results := [.lit (.bool true)], args := [d1, d2] }
  | _ => none }
def fnPathStepTextOfJoinIsTextsJoinedRow : OpenClaim := { program := "qxb6617428a", sum := "98460cd0e7024982ff42c5f2f2ea1e9a8050e922b58f0d671e6292c82da20755", func := "example.com/fieldward/fieldward/zzlaws_pkg_field_b1.FnPathStepTextOfJoinIsTextsJoined", spec := "fnPathStepTextOfJoinIsTextsJoined", recurses := true, apart := false }
def FnPathStepTextOfJoinIsTextsJoinedSaid : Prop := fnPathStepTextOfJoinIsTextsJoinedRow.holds Try.pinned (OpenSpec.ofChange fnPathStepTextOfJoinIsTextsJoinedSpec)

/-- ITS FALSE NEIGHBOUR: 'it returns false'. Refute it at one input. -/
def fnPathStepTextOfJoinIsTextsJoinedWrong : ChangeSpec := { name := "fnPathStepTextOfJoinIsTextsJoined", fn := fun _ => fun
  | [d1, d2] => { results := [.lit (.bool false)], args := [d1, d2] }
  | _ => none }
def FnPathStepTextOfJoinIsTextsJoinedWrongFalsely : Prop := fnPathStepTextOfJoinIsTextsJoinedRow.holds Try.pinned (OpenSpec.ofChange fnPathStepTextOfJoinIsTextsJoinedWrong)

end Rows
end Go.Proofs.Qxb6617428a
