/-
  No cell of these rows narrows 'for every input' (looked for: loops, veiled, ifaces, maps, wideKeys, modest, calm, conditions, laid).
  DERIVED. THE GIVEN ROWS OF THIS SEAT. 4 by the template 'for every input the law returns true; each argument reads behind the call as it read before'; 0 by the template 'total and deterministic' (their statements: Qxb6617432aTotals.lean).
  GIVEN WITH THE SEED: the statements are not yours to turn. If you find one false, say at which input.
  Laid BY PROGRAM, IN A SANDBOX (cutbox-rows.mjs): the forced cells as the released guide's own fill.sh prints them over the translation b6a722f541840ebc… (all of the seat's roots in one cut). By AI agents, Wed Nov 11 2026. No macro, syntax, notation, axiom, sorry.
-/
import Derived.Test.Qxb6617432aChecked
import GoSem.Claim
import GoSem.ClaimJoined
import GoSem.ClaimMapViews
import Derived.JoinedTies
import Derived.KernelRfl
namespace Go.Proofs.Qxb6617432a
/- THE CELL 'sum', in the pinned program and in every row, IS THE sha256 OF THE DUMP (.gsa) THAT Qxb6617432aProg.lean LOADS. Nothing in Lean hashes anything: it is a label: what it is worth is what the hold of that sum in a sandbox is worth. -/
noncomputable def Try.pinned : Pinned := { name := "qxb6617432a", sum := "b6a722f541840ebca3ede06ea5eac24113610dc8412ab874526e86d01bf8d166", checked := Try.checked }
namespace Rows
def none {H : Type} : Left H := { results := [], args := [] }

/-- 'zzlaws_internal_yaml_b1.FnValueFollowsFirstColon': WHATEVER THE INPUT: true; the input reads as it did. -/
def fnValueFollowsFirstColonSpec : ChangeSpec := { name := "fnValueFollowsFirstColon", fn := fun _ => fun
  | [d1, d2, d3, d4] => { results := [.lit (.bool true)], args := [d1, d2, d3, d4] }
  | _ => none }
def fnValueFollowsFirstColonRow : OpenClaim := { program := "qxb6617432a", sum := "b6a722f541840ebca3ede06ea5eac24113610dc8412ab874526e86d01bf8d166", func := "example.com/amends/amends/zzlaws_internal_yaml_b1.FnValueFollowsFirstColon", spec := "fnValueFollowsFirstColon", apart := false }
def FnValueFollowsFirstColonSaid : Prop := fnValueFollowsFirstColonRow.holds Try.pinned (OpenSpec.ofChange fnValueFollowsFirstColonSpec)

/-- ITS FALSE NEIGHBOUR: 'it returns false'. Refute it at one input. -/
def fnValueFollowsFirstColonWrong : ChangeSpec := { name := "fnValueFollowsFirstColon", fn := fun _ => fun
  | [d1, d2, d3, d4] => { results := [.lit (.bool false)], args := [d1, d2, d3, d4] }
  | _ => none }
def FnValueFollowsFirstColonWrongFalsely : Prop := fnValueFollowsFirstColonRow.holds Try.pinned (OpenSpec.ofChange fnValueFollowsFirstColonWrong)

/-- 'zzlaws_internal_yaml_b1.FnPlainLineEndFirstStop': WHATEVER THE INPUT: true; the input reads as it did. -/
def fnPlainLineEndFirstStopSpec : ChangeSpec := { name := "fnPlainLineEndFirstStop", fn := fun _ => fun
  | [d1, d2, d3] => { results := [.lit (.bool true)], args := [d1, d2, d3] }
  | _ => none }
def fnPlainLineEndFirstStopRow : OpenClaim := { program := "qxb6617432a", sum := "b6a722f541840ebca3ede06ea5eac24113610dc8412ab874526e86d01bf8d166", func := "example.com/amends/amends/zzlaws_internal_yaml_b1.FnPlainLineEndFirstStop", spec := "fnPlainLineEndFirstStop", apart := false }
def FnPlainLineEndFirstStopSaid : Prop := fnPlainLineEndFirstStopRow.holds Try.pinned (OpenSpec.ofChange fnPlainLineEndFirstStopSpec)

/-- ITS FALSE NEIGHBOUR: 'it returns false'. Refute it at one input. -/
def fnPlainLineEndFirstStopWrong : ChangeSpec := { name := "fnPlainLineEndFirstStop", fn := fun _ => fun
  | [d1, d2, d3] => { results := [.lit (.bool false)], args := [d1, d2, d3] }
  | _ => none }
def FnPlainLineEndFirstStopWrongFalsely : Prop := fnPlainLineEndFirstStopRow.holds Try.pinned (OpenSpec.ofChange fnPlainLineEndFirstStopWrong)

/-- 'zzlaws_internal_yaml_b1.FnPlainContinuesNextTextLine': WHATEVER THE INPUT: true; the input reads as it did. -/
def fnPlainContinuesNextTextLineSpec : ChangeSpec := { name := "fnPlainContinuesNextTextLine", fn := fun _ => fun
  | [d1, d2, d3, d4] => { results := [.lit (.bool true)], args := [d1, d2, d3, d4] }
  | _ => none }
def fnPlainContinuesNextTextLineRow : OpenClaim := { program := "qxb6617432a", sum := "b6a722f541840ebca3ede06ea5eac24113610dc8412ab874526e86d01bf8d166", func := "example.com/amends/amends/zzlaws_internal_yaml_b1.FnPlainContinuesNextTextLine", spec := "fnPlainContinuesNextTextLine", apart := false }
def FnPlainContinuesNextTextLineSaid : Prop := fnPlainContinuesNextTextLineRow.holds Try.pinned (OpenSpec.ofChange fnPlainContinuesNextTextLineSpec)

/-- ITS FALSE NEIGHBOUR: 'it returns false'. Refute it at one input. -/
def fnPlainContinuesNextTextLineWrong : ChangeSpec := { name := "fnPlainContinuesNextTextLine", fn := fun _ => fun
  | [d1, d2, d3, d4] => { results := [.lit (.bool false)], args := [d1, d2, d3, d4] }
  | _ => none }
def FnPlainContinuesNextTextLineWrongFalsely : Prop := fnPlainContinuesNextTextLineRow.holds Try.pinned (OpenSpec.ofChange fnPlainContinuesNextTextLineWrong)

/-- 'zzlaws_internal_yaml_b1.FnPlainKeyThenValueIndicator': WHATEVER THE INPUT: true; the input reads as it did. -/
def fnPlainKeyThenValueIndicatorSpec : ChangeSpec := { name := "fnPlainKeyThenValueIndicator", fn := fun _ => fun
  | [d1, d2, d3] => { results := [.lit (.bool true)], args := [d1, d2, d3] }
  | _ => none }
def fnPlainKeyThenValueIndicatorRow : OpenClaim := { program := "qxb6617432a", sum := "b6a722f541840ebca3ede06ea5eac24113610dc8412ab874526e86d01bf8d166", func := "example.com/amends/amends/zzlaws_internal_yaml_b1.FnPlainKeyThenValueIndicator", spec := "fnPlainKeyThenValueIndicator", apart := false }
def FnPlainKeyThenValueIndicatorSaid : Prop := fnPlainKeyThenValueIndicatorRow.holds Try.pinned (OpenSpec.ofChange fnPlainKeyThenValueIndicatorSpec)

/-- ITS FALSE NEIGHBOUR: 'it returns false'. Refute it at one input. -/
def fnPlainKeyThenValueIndicatorWrong : ChangeSpec := { name := "fnPlainKeyThenValueIndicator", fn := fun _ => fun
  | [d1, d2, d3] => { results := [.lit (.bool false)], args := [d1, d2, d3] }
  | _ => none }
def FnPlainKeyThenValueIndicatorWrongFalsely : Prop := fnPlainKeyThenValueIndicatorRow.holds Try.pinned (OpenSpec.ofChange fnPlainKeyThenValueIndicatorWrong)

end Rows
end Go.Proofs.Qxb6617432a
