/-
  No cell of these rows narrows 'for every input' (looked for: loops, veiled, ifaces, maps, wideKeys, modest, calm, conditions, laid).
  DERIVED. THE GIVEN ROWS OF THIS SEAT. 5 by the template 'for every input the law returns true; each argument reads behind the call as it read before'; 0 by the template 'total and deterministic' (their statements: Qxb6605724aTotals.lean).
  GIVEN WITH THE SEED: the statements are not yours to turn. If you find one false, say at which input.
  Laid BY PROGRAM, IN A SANDBOX (cutbox-rows.mjs): the forced cells as the released guide's own fill.sh prints them over the translation 9498aa8d7af125ba… (all of the seat's roots in one cut). By AI agents, Wed Nov 11 2026. No macro, syntax, notation, axiom, sorry.
-/
import Derived.Test.Qxb6605724aChecked
import GoSem.Claim
import GoSem.ClaimJoined
import GoSem.ClaimMapViews
import Derived.JoinedTies
import Derived.KernelRfl
namespace Go.Proofs.Qxb6605724a
/- THE CELL 'sum', in the pinned program and in every row, IS THE sha256 OF THE DUMP (.gsa) THAT Qxb6605724aProg.lean LOADS. Nothing in Lean hashes anything: it is a label: what it is worth is what the hold of that sum in a sandbox is worth. -/
noncomputable def Try.pinned : Pinned := { name := "qxb6605724a", sum := "9498aa8d7af125ba3d9e957ec715c8fd6159a0e4c81c5bfb201811da910e3dd9", checked := Try.checked }
namespace Rows
def none {H : Type} : Left H := { results := [], args := [] }

/-- 'zzlaws_root_b1.FnGetFirstMatch': WHATEVER THE INPUT: true; the input reads as it did. -/
def fnGetFirstMatchSpec : ChangeSpec := { name := "fnGetFirstMatch", fn := fun _ => fun
  | [d1, d2, d3] => { results := [.lit (.bool true)], args := [d1, d2, d3] }
  | _ => none }
def fnGetFirstMatchRow : OpenClaim := { program := "qxb6605724a", sum := "9498aa8d7af125ba3d9e957ec715c8fd6159a0e4c81c5bfb201811da910e3dd9", func := "example.com/fieldwright/fieldwright/zzlaws_root_b1.FnGetFirstMatch", spec := "fnGetFirstMatch", apart := false }
def FnGetFirstMatchSaid : Prop := fnGetFirstMatchRow.holds Try.pinned (OpenSpec.ofChange fnGetFirstMatchSpec)

/-- ITS FALSE NEIGHBOUR: 'it returns false'. Refute it at one input. -/
def fnGetFirstMatchWrong : ChangeSpec := { name := "fnGetFirstMatch", fn := fun _ => fun
  | [d1, d2, d3] => { results := [.lit (.bool false)], args := [d1, d2, d3] }
  | _ => none }
def FnGetFirstMatchWrongFalsely : Prop := fnGetFirstMatchRow.holds Try.pinned (OpenSpec.ofChange fnGetFirstMatchWrong)

/-- 'zzlaws_root_b1.FnGetPrependShadows': WHATEVER THE INPUT: true; the input reads as it did. -/
def fnGetPrependShadowsSpec : ChangeSpec := { name := "fnGetPrependShadows", fn := fun _ => fun
  | [d1, d2, d3, d4, d5] => { results := [.lit (.bool true)], args := [d1, d2, d3, d4, d5] }
  | _ => none }
def fnGetPrependShadowsRow : OpenClaim := { program := "qxb6605724a", sum := "9498aa8d7af125ba3d9e957ec715c8fd6159a0e4c81c5bfb201811da910e3dd9", func := "example.com/fieldwright/fieldwright/zzlaws_root_b1.FnGetPrependShadows", spec := "fnGetPrependShadows", apart := false }
def FnGetPrependShadowsSaid : Prop := fnGetPrependShadowsRow.holds Try.pinned (OpenSpec.ofChange fnGetPrependShadowsSpec)

/-- ITS FALSE NEIGHBOUR: 'it returns false'. Refute it at one input. -/
def fnGetPrependShadowsWrong : ChangeSpec := { name := "fnGetPrependShadows", fn := fun _ => fun
  | [d1, d2, d3, d4, d5] => { results := [.lit (.bool false)], args := [d1, d2, d3, d4, d5] }
  | _ => none }
def FnGetPrependShadowsWrongFalsely : Prop := fnGetPrependShadowsRow.holds Try.pinned (OpenSpec.ofChange fnGetPrependShadowsWrong)

/-- 'zzlaws_root_b1.FnEnterScriptPath': WHATEVER THE INPUT: true; the input reads as it did. -/
def fnEnterScriptPathSpec : ChangeSpec := { name := "fnEnterScriptPath", fn := fun _ => fun
  | [d] => { results := [.lit (.bool true)], args := [d] }
  | _ => none }
def fnEnterScriptPathRow : OpenClaim := { program := "qxb6605724a", sum := "9498aa8d7af125ba3d9e957ec715c8fd6159a0e4c81c5bfb201811da910e3dd9", func := "example.com/fieldwright/fieldwright/zzlaws_root_b1.FnEnterScriptPath", spec := "fnEnterScriptPath", apart := false }
def FnEnterScriptPathSaid : Prop := fnEnterScriptPathRow.holds Try.pinned (OpenSpec.ofChange fnEnterScriptPathSpec)

/-- ITS FALSE NEIGHBOUR: 'it returns false'. Refute it at one input. -/
def fnEnterScriptPathWrong : ChangeSpec := { name := "fnEnterScriptPath", fn := fun _ => fun
  | [d] => { results := [.lit (.bool false)], args := [d] }
  | _ => none }
def FnEnterScriptPathWrongFalsely : Prop := fnEnterScriptPathRow.holds Try.pinned (OpenSpec.ofChange fnEnterScriptPathWrong)

/-- 'zzlaws_root_b1.FnHoldsAgreesWithScan': WHATEVER THE INPUT: true; the input reads as it did. -/
def fnHoldsAgreesWithScanSpec : ChangeSpec := { name := "fnHoldsAgreesWithScan", fn := fun _ => fun
  | [d1, d2] => { results := [.lit (.bool true)], args := [d1, d2] }
  | _ => none }
def fnHoldsAgreesWithScanRow : OpenClaim := { program := "qxb6605724a", sum := "9498aa8d7af125ba3d9e957ec715c8fd6159a0e4c81c5bfb201811da910e3dd9", func := "example.com/fieldwright/fieldwright/zzlaws_root_b1.FnHoldsAgreesWithScan", spec := "fnHoldsAgreesWithScan", unfollowed := true, recurses := true, apart := false }
def FnHoldsAgreesWithScanSaid : Prop := fnHoldsAgreesWithScanRow.holds Try.pinned (OpenSpec.ofChange fnHoldsAgreesWithScanSpec)

/-- ITS FALSE NEIGHBOUR: 'it returns false'. Refute it at one input. -/
def fnHoldsAgreesWithScanWrong : ChangeSpec := { name := "fnHoldsAgreesWithScan", fn := fun _ => fun
  | [d1, d2] => { results := [.lit (.bool false)], args := [d1, d2] }
  | _ => none }
def FnHoldsAgreesWithScanWrongFalsely : Prop := fnHoldsAgreesWithScanRow.holds Try.pinned (OpenSpec.ofChange fnHoldsAgreesWithScanWrong)

/-- 'zzlaws_root_b1.FnHoldsTableByShape': WHATEVER THE INPUT: true; the input reads as it did. -/
def fnHoldsTableByShapeSpec : ChangeSpec := { name := "fnHoldsTableByShape", fn := fun _ => fun
  | [d] => { results := [.lit (.bool true)], args := [d] }
  | _ => none }
def fnHoldsTableByShapeRow : OpenClaim := { program := "qxb6605724a", sum := "9498aa8d7af125ba3d9e957ec715c8fd6159a0e4c81c5bfb201811da910e3dd9", func := "example.com/fieldwright/fieldwright/zzlaws_root_b1.FnHoldsTableByShape", spec := "fnHoldsTableByShape", unfollowed := true, recurses := true, apart := false }
def FnHoldsTableByShapeSaid : Prop := fnHoldsTableByShapeRow.holds Try.pinned (OpenSpec.ofChange fnHoldsTableByShapeSpec)

/-- ITS FALSE NEIGHBOUR: 'it returns false'. Refute it at one input. -/
def fnHoldsTableByShapeWrong : ChangeSpec := { name := "fnHoldsTableByShape", fn := fun _ => fun
  | [d] => { results := [.lit (.bool false)], args := [d] }
  | _ => none }
def FnHoldsTableByShapeWrongFalsely : Prop := fnHoldsTableByShapeRow.holds Try.pinned (OpenSpec.ofChange fnHoldsTableByShapeWrong)

end Rows
end Go.Proofs.Qxb6605724a
