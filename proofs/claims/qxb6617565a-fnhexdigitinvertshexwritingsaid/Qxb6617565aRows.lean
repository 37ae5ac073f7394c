/-
  No cell of these rows narrows 'for every input' (looked for: loops, veiled, ifaces, maps, wideKeys, modest, calm, conditions, laid).
  DERIVED. THE GIVEN ROWS OF THIS SEAT. 1 by the template 'for every input the law returns true; each argument reads behind the call as it read before'; 0 by the template 'total and deterministic' (their statements: Qxb6617565aTotals.lean).
  GIVEN WITH THE SEED: the statements are not yours to turn. If you find one false, say at which input.
  Laid BY PROGRAM, IN A SANDBOX (cutbox-rows.mjs): the forced cells as the released guide's own fill.sh prints them over the translation a4f5f5123955aa60… (all of the seat's roots in one cut). By AI agents, Wed Nov 11 2026. No macro, syntax, notation, axiom, sorry.
-/
import Derived.Test.Qxb6617565aChecked
import GoSem.Claim
import GoSem.ClaimJoined
import GoSem.ClaimMapViews
import Derived.JoinedTies
import Derived.KernelRfl
namespace Go.Proofs.Qxb6617565a
/- THE CELL 'sum', in the pinned program and in every row, IS THE sha256 OF THE DUMP (.gsa) THAT Qxb6617565aProg.lean LOADS. Nothing in Lean hashes anything: it is a label: what it is worth is what the hold of that sum in a sandbox is worth. -/
noncomputable def Try.pinned : Pinned := { name := "qxb6617565a", sum := "a4f5f5123955aa60b6e279eb6406b59dbf86ffab0d1272c015f3f7d9256e5a72", checked := Try.checked }
namespace Rows
def none {H : Type} : Left H := { results := [], args := [] }

/-- 'zzlaws_internal_jsonscan_b1.FnHexDigitInvertsHexWriting': WHATEVER THE INPUT: true; the input reads as it did. -/
def fnHexDigitInvertsHexWritingSpec : ChangeSpec := { name := "fnHexDigitInvertsHexWriting", fn := fun _ => fun
  | [d] => { results := [.lit (.bool true)], args := [d] }
  | _ => none }
def fnHexDigitInvertsHexWritingRow : OpenClaim := { program := "qxb6617565a", sum := "a4f5f5123955aa60b6e279eb6406b59dbf86ffab0d1272c015f3f7d9256e5a72", func := "example.com/groundline/groundline/zzlaws_internal_jsonscan_b1.FnHexDigitInvertsHexWriting", spec := "fnHexDigitInvertsHexWriting", apart := false }
def FnHexDigitInvertsHexWritingSaid : Prop := fnHexDigitInvertsHexWritingRow.holds Try.pinned (OpenSpec.ofChange fnHexDigitInvertsHexWritingSpec)

/-- ITS FALSE NEIGHBOUR: 'it returns false'. Refute it at one input. -/
def fnHexDigitInvertsHexWritingWrong : ChangeSpec := { name := "fnHexDigitInvertsHexWriting", fn := fun _ => fun
  | [d] => { results := [.lit (.bool false)], args := [d] }
  | _ => none }
def FnHexDigitInvertsHexWritingWrongFalsely : Prop := fnHexDigitInvertsHexWritingRow.holds Try.pinned (OpenSpec.ofChange fnHexDigitInvertsHexWritingWrong)

end Rows
end Go.Proofs.Qxb6617565a
