/-
  No cell of these rows narrows 'for every input' (looked for: loops, veiled, ifaces, maps, wideKeys, modest, calm, conditions, laid).
  DERIVED. THE GIVEN ROWS OF THIS SEAT. 6 by the template 'for every input the law returns true; each argument reads behind the call as it read before'; 0 by the template 'total and deterministic' (their statements: Qxb6605670aTotals.lean).
  GIVEN WITH THE SEED: the statements are not yours to turn. If you find one false, say at which input.
  Laid BY PROGRAM, IN A SANDBOX (cutbox-rows.mjs): the forced cells as the released guide's own fill.sh prints them over the translation 94f75170406149c8… (all of the seat's roots in one cut). By AI agents, Wed Nov 11 2026. No macro, syntax, notation, axiom, sorry.
-/
import Derived.Test.Qxb6605670aChecked
import GoSem.Claim
import GoSem.ClaimJoined
import GoSem.ClaimMapViews
import Derived.JoinedTies
import Derived.KernelRfl
namespace Go.Proofs.Qxb6605670a
/- THE CELL 'sum', in the pinned program and in every row, IS THE sha256 OF THE DUMP (.gsa) THAT Qxb6605670aProg.lean LOADS. Nothing in Lean hashes anything: it is a label: what it is worth is what the hold of that sum in a sandbox is worth. -/
noncomputable def Try.pinned : Pinned := { name := "qxb6605670a", sum := "94f75170406149c8e3be7058f8a1b1ef496393c47ac497aa730064676154b7e6", checked := Try.checked }
namespace Rows
def none {H : Type} : Left H := { results := [], args := [] }

/-- 'zzlaws_internal_sip_b1.FnQuotedEndMatchesBackslashRunModel': WHATEVER THE INPUT: true; the input reads as it did. -/
def fnQuotedEndMatchesBackslashRunModelSpec : ChangeSpec := { name := "fnQuotedEndMatchesBackslashRunModel", fn := fun _ => fun
  | [d] => { results := [.lit (.bool true)], args := [d] }
  | _ => none }
def fnQuotedEndMatchesBackslashRunModelRow : OpenClaim := { program := "qxb6605670a", sum := "94f75170406149c8e3be7058f8a1b1ef496393c47ac497aa730064676154b7e6", func := "example.com/sipwright/sipwright/zzlaws_internal_sip_b1.FnQuotedEndMatchesBackslashRunModel", spec := "fnQuotedEndMatchesBackslashRunModel", apart := false }
def FnQuotedEndMatchesBackslashRunModelSaid : Prop := fnQuotedEndMatchesBackslashRunModelRow.holds Try.pinned (OpenSpec.ofChange fnQuotedEndMatchesBackslashRunModelSpec)

/-- ITS FALSE NEIGHBOUR: 'it returns false'. Refute it at one input. -/
def fnQuotedEndMatchesBackslashRunModelWrong : ChangeSpec := { name := "fnQuotedEndMatchesBackslashRunModel", fn := fun _ => fun
  | [d] => { results := [.lit (.bool false)], args := [d] }
  | _ => none }
def FnQuotedEndMatchesBackslashRunModelWrongFalsely : Prop := fnQuotedEndMatchesBackslashRunModelRow.holds Try.pinned (OpenSpec.ofChange fnQuotedEndMatchesBackslashRunModelWrong)

/-- 'zzlaws_internal_sip_b1.FnQuotedEndFindsEndOfQuotedText': WHATEVER THE INPUT: true; the input reads as it did. -/
def fnQuotedEndFindsEndOfQuotedTextSpec : ChangeSpec := { name := "fnQuotedEndFindsEndOfQuotedText", fn := fun _ => fun
  | [d1, d2] => { results := [.lit (.bool true)], args := [d1, d2] }
  | _ => none }
def fnQuotedEndFindsEndOfQuotedTextRow : OpenClaim := { program := "qxb6605670a", sum := "94f75170406149c8e3be7058f8a1b1ef496393c47ac497aa730064676154b7e6", func := "example.com/sipwright/sipwright/zzlaws_internal_sip_b1.FnQuotedEndFindsEndOfQuotedText", spec := "fnQuotedEndFindsEndOfQuotedText", apart := false }
def FnQuotedEndFindsEndOfQuotedTextSaid : Prop := fnQuotedEndFindsEndOfQuotedTextRow.holds Try.pinned (OpenSpec.ofChange fnQuotedEndFindsEndOfQuotedTextSpec)

/-- ITS FALSE NEIGHBOUR: 'it returns false'. Refute it at one input. -/
def fnQuotedEndFindsEndOfQuotedTextWrong : ChangeSpec := { name := "fnQuotedEndFindsEndOfQuotedText", fn := fun _ => fun
  | [d1, d2] => { results := [.lit (.bool false)], args := [d1, d2] }
  | _ => none }
def FnQuotedEndFindsEndOfQuotedTextWrongFalsely : Prop := fnQuotedEndFindsEndOfQuotedTextRow.holds Try.pinned (OpenSpec.ofChange fnQuotedEndFindsEndOfQuotedTextWrong)

/-- 'zzlaws_internal_sip_b1.FnHoldsMatchesHistogramModel': WHATEVER THE INPUT: true; the input reads as it did. -/
def fnHoldsMatchesHistogramModelSpec : ChangeSpec := { name := "fnHoldsMatchesHistogramModel", fn := fun _ => fun
  | [d1, d2] => { results := [.lit (.bool true)], args := [d1, d2] }
  | _ => none }
def fnHoldsMatchesHistogramModelRow : OpenClaim := { program := "qxb6605670a", sum := "94f75170406149c8e3be7058f8a1b1ef496393c47ac497aa730064676154b7e6", func := "example.com/sipwright/sipwright/zzlaws_internal_sip_b1.FnHoldsMatchesHistogramModel", spec := "fnHoldsMatchesHistogramModel", apart := false }
def FnHoldsMatchesHistogramModelSaid : Prop := fnHoldsMatchesHistogramModelRow.holds Try.pinned (OpenSpec.ofChange fnHoldsMatchesHistogramModelSpec)

/-- ITS FALSE NEIGHBOUR: 'it returns false'. Refute it at one input. -/
def fnHoldsMatchesHistogramModelWrong : ChangeSpec := { name := "fnHoldsMatchesHistogramModel", fn := fun _ => fun
  | [d1, d2] => { results := [.lit (.bool false)], args := [d1, d2] }
  | _ => none }
def FnHoldsMatchesHistogramModelWrongFalsely : Prop := fnHoldsMatchesHistogramModelRow.holds Try.pinned (OpenSpec.ofChange fnHoldsMatchesHistogramModelWrong)

/-- 'zzlaws_internal_sip_b1.FnHoldsIsMembershipOverConcatenation': WHATEVER THE INPUT: true; the input reads as it did. -/
def fnHoldsIsMembershipOverConcatenationSpec : ChangeSpec := { name := "fnHoldsIsMembershipOverConcatenation", fn := fun _ => fun
  | [d1, d2, d3] => { results := [.lit (.bool true)], args := [d1, d2, d3] }
  | _ => none }
def fnHoldsIsMembershipOverConcatenationRow : OpenClaim := { program := "qxb6605670a", sum := "94f75170406149c8e3be7058f8a1b1ef496393c47ac497aa730064676154b7e6", func := "example.com/sipwright/sipwright/zzlaws_internal_sip_b1.FnHoldsIsMembershipOverConcatenation", spec := "fnHoldsIsMembershipOverConcatenation", apart := false }
def FnHoldsIsMembershipOverConcatenationSaid : Prop := fnHoldsIsMembershipOverConcatenationRow.holds Try.pinned (OpenSpec.ofChange fnHoldsIsMembershipOverConcatenationSpec)

/-- ITS FALSE NEIGHBOUR: 'it returns false'. Refute it at one input. -/
def fnHoldsIsMembershipOverConcatenationWrong : ChangeSpec := { name := "fnHoldsIsMembershipOverConcatenation", fn := fun _ => fun
  | [d1, d2, d3] => { results := [.lit (.bool false)], args := [d1, d2, d3] }
  | _ => none }
def FnHoldsIsMembershipOverConcatenationWrongFalsely : Prop := fnHoldsIsMembershipOverConcatenationRow.holds Try.pinned (OpenSpec.ofChange fnHoldsIsMembershipOverConcatenationWrong)

/-- 'zzlaws_internal_sip_b1.FnAddScriptAppendsEachFieldInOrder': WHATEVER THE INPUT: true; the input reads as it did. -/
def fnAddScriptAppendsEachFieldInOrderSpec : ChangeSpec := { name := "fnAddScriptAppendsEachFieldInOrder", fn := fun _ => fun
  | [d1, d2, d3, d4, d5, d6, d7] => { results := [.lit (.bool true)], args := [d1, d2, d3, d4, d5, d6, d7] }
  | _ => none }
def fnAddScriptAppendsEachFieldInOrderRow : OpenClaim := { program := "qxb6605670a", sum := "94f75170406149c8e3be7058f8a1b1ef496393c47ac497aa730064676154b7e6", func := "example.com/sipwright/sipwright/zzlaws_internal_sip_b1.FnAddScriptAppendsEachFieldInOrder", spec := "fnAddScriptAppendsEachFieldInOrder", apart := false }
def FnAddScriptAppendsEachFieldInOrderSaid : Prop := fnAddScriptAppendsEachFieldInOrderRow.holds Try.pinned (OpenSpec.ofChange fnAddScriptAppendsEachFieldInOrderSpec)

/-- ITS FALSE NEIGHBOUR: 'it returns false'. Refute it at one input. -/
def fnAddScriptAppendsEachFieldInOrderWrong : ChangeSpec := { name := "fnAddScriptAppendsEachFieldInOrder", fn := fun _ => fun
  | [d1, d2, d3, d4, d5, d6, d7] => { results := [.lit (.bool false)], args := [d1, d2, d3, d4, d5, d6, d7] }
  | _ => none }
def FnAddScriptAppendsEachFieldInOrderWrongFalsely : Prop := fnAddScriptAppendsEachFieldInOrderRow.holds Try.pinned (OpenSpec.ofChange fnAddScriptAppendsEachFieldInOrderWrong)

/-- 'zzlaws_internal_sip_b1.FnAddLastOfItsNameAndCountsByName': WHATEVER THE INPUT: true; the input reads as it did. -/
def fnAddLastOfItsNameAndCountsByNameSpec : ChangeSpec := { name := "fnAddLastOfItsNameAndCountsByName", fn := fun _ => fun
  | [d1, d2, d3] => { results := [.lit (.bool true)], args := [d1, d2, d3] }
  | _ => none }
def fnAddLastOfItsNameAndCountsByNameRow : OpenClaim := { program := "qxb6605670a", sum := "94f75170406149c8e3be7058f8a1b1ef496393c47ac497aa730064676154b7e6", func := "example.com/sipwright/sipwright/zzlaws_internal_sip_b1.FnAddLastOfItsNameAndCountsByName", spec := "fnAddLastOfItsNameAndCountsByName", apart := false }
def FnAddLastOfItsNameAndCountsByNameSaid : Prop := fnAddLastOfItsNameAndCountsByNameRow.holds Try.pinned (OpenSpec.ofChange fnAddLastOfItsNameAndCountsByNameSpec)

/-- ITS FALSE NEIGHBOUR: 'it returns false'. Refute it at one input. -/
def fnAddLastOfItsNameAndCountsByNameWrong : ChangeSpec := { name := "fnAddLastOfItsNameAndCountsByName", fn := fun _ => fun
  | [d1, d2, d3] => { results := [.lit (.bool false)], args := [d1, d2, d3] }
  | _ => none }
def FnAddLastOfItsNameAndCountsByNameWrongFalsely : Prop := fnAddLastOfItsNameAndCountsByNameRow.holds Try.pinned (OpenSpec.ofChange fnAddLastOfItsNameAndCountsByNameWrong)

end Rows
end Go.Proofs.Qxb6605670a
