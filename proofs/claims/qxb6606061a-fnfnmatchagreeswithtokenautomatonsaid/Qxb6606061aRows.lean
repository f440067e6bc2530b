/-
  No cell of these rows narrows 'for every input' (looked for: loops, veiled, ifaces, maps, wideKeys, modest, calm, conditions, laid).
  DERIVED. THE GIVEN ROWS OF THIS SEAT. 4 by the template 'for every input the law returns true; each argument reads behind the call as it read before'; 0 by the template 'total and deterministic' (their statements: Qxb6606061aTotals.lean).
  GIVEN WITH THE SEED: the statements are not yours to turn. If you find one false, say at which input.
  Laid BY PROGRAM, IN A SANDBOX (cutbox-rows.mjs): the forced cells as the released guide's own fill.sh prints them over the translation 4db752e6110e5e9a… (all of the seat's roots in one cut). By AI agents, Wed Nov 11 2026. No macro, syntax, notation, axiom, sorry.
-/
import Derived.Test.Qxb6606061aChecked
import GoSem.Claim
import GoSem.ClaimJoined
import GoSem.ClaimMapViews
import Derived.JoinedTies
import Derived.KernelRfl
namespace Go.Proofs.Qxb6606061a
/- THE CELL 'sum', in the pinned program and in every row, IS THE sha256 OF THE DUMP (.gsa) THAT Qxb6606061aProg.lean LOADS. Nothing in Lean hashes anything: it is a label: what it is worth is what the hold of that sum in a sandbox is worth. -/
noncomputable def Try.pinned : Pinned := { name := "qxb6606061a", sum := "4db752e6110e5e9a7113ae0a052a07486dc39ce36a972448ad44ae26db2e1b58", checked := Try.checked }
namespace Rows
def none {H : Type} : Left H := { results := [], args := [] }

/-- 'zzlaws_internal_manifest_b1.FnInSetBangComplementsTheSet': WHATEVER THE INPUT: true; the input reads as it did. -/
def fnInSetBangComplementsTheSetSpec : ChangeSpec := { name := "fnInSetBangComplementsTheSet", fn := fun _ => fun
  | [d1, d2] => { results := [.lit (.bool true)], args := [d1, d2] }
  | _ => none }
def fnInSetBangComplementsTheSetRow : OpenClaim := { program := "qxb6606061a", sum := "4db752e6110e5e9a7113ae0a052a07486dc39ce36a972448ad44ae26db2e1b58", func := "example.com/moldwright/moldwright/zzlaws_internal_manifest_b1.FnInSetBangComplementsTheSet", spec := "fnInSetBangComplementsTheSet", apart := false }
def FnInSetBangComplementsTheSetSaid : Prop := fnInSetBangComplementsTheSetRow.holds Try.pinned (OpenSpec.ofChange fnInSetBangComplementsTheSetSpec)

/-- ITS FALSE NEIGHBOUR: 'it returns false'. Refute it at one input. -/
def fnInSetBangComplementsTheSetWrong : ChangeSpec := { name := "fnInSetBangComplementsTheSet", fn := fun _ => fun
  | [d1, d2] => { results := [.lit (.bool false)], args := [d1, d2] }
  | _ => none }
def FnInSetBangComplementsTheSetWrongFalsely : Prop := fnInSetBangComplementsTheSetRow.holds Try.pinned (OpenSpec.ofChange fnInSetBangComplementsTheSetWrong)

/-- 'zzlaws_internal_manifest_b1.FnInSetReadsNothingPastItsClose': WHATEVER THE INPUT: true; the input reads as it did. -/
def fnInSetReadsNothingPastItsCloseSpec : ChangeSpec := { name := "fnInSetReadsNothingPastItsClose", fn := fun _ => fun
  | [d1, d2, d3, d4] => { results := [.lit (.bool true)], args := [d1, d2, d3, d4] }
  | _ => none }
def fnInSetReadsNothingPastItsCloseRow : OpenClaim := { program := "qxb6606061a", sum := "4db752e6110e5e9a7113ae0a052a07486dc39ce36a972448ad44ae26db2e1b58", func := "example.com/moldwright/moldwright/zzlaws_internal_manifest_b1.FnInSetReadsNothingPastItsClose", spec := "fnInSetReadsNothingPastItsClose", apart := false }
def FnInSetReadsNothingPastItsCloseSaid : Prop := fnInSetReadsNothingPastItsCloseRow.holds Try.pinned (OpenSpec.ofChange fnInSetReadsNothingPastItsCloseSpec)

/-- ITS FALSE NEIGHBOUR: 'it returns false'. Refute it at one input. -/
def fnInSetReadsNothingPastItsCloseWrong : ChangeSpec := { name := "fnInSetReadsNothingPastItsClose", fn := fun _ => fun
  | [d1, d2, d3, d4] => { results := [.lit (.bool false)], args := [d1, d2, d3, d4] }
  | _ => none }
def FnInSetReadsNothingPastItsCloseWrongFalsely : Prop := fnInSetReadsNothingPastItsCloseRow.holds Try.pinned (OpenSpec.ofChange fnInSetReadsNothingPastItsCloseWrong)

/-- 'zzlaws_internal_manifest_b1.FnFnmatchAgreesWithTokenAutomaton': WHATEVER THE INPUT: true; the input reads as it did. -/
def fnFnmatchAgreesWithTokenAutomatonSpec : ChangeSpec := { name := "fnFnmatchAgreesWithTokenAutomaton", fn := fun _ => fun
  | [d1, d2] => { results := [.lit (.bool true)], args := [d1, d2] }
  | _ => none }
def fnFnmatchAgreesWithTokenAutomatonRow : OpenClaim := { program := "qxb6606061a", sum := "4db752e6110e5e9a7113ae0a052a07486dc39ce36a972448ad44ae26db2e1b58", func := "example.com/moldwright/moldwright/zzlaws_internal_manifest_b1.FnFnmatchAgreesWithTokenAutomaton", spec := "fnFnmatchAgreesWithTokenAutomaton", apart := false }
def FnFnmatchAgreesWithTokenAutomatonSaid : Prop := fnFnmatchAgreesWithTokenAutomatonRow.holds Try.pinned (OpenSpec.ofChange fnFnmatchAgreesWithTokenAutomatonSpec)

/-- ITS FALSE NEIGHBOUR: 'it returns false'. Refute it at one input. -/
def fnFnmatchAgreesWithTokenAutomatonWrong : ChangeSpec := { name := "fnFnmatchAgreesWithTokenAutomaton", fn := fun _ => fun
  | [d1, d2] => { results := [.lit (.bool false)], args := [d1, d2] }
  | _ => none }
def FnFnmatchAgreesWithTokenAutomatonWrongFalsely : Prop := fnFnmatchAgreesWithTokenAutomatonRow.holds Try.pinned (OpenSpec.ofChange fnFnmatchAgreesWithTokenAutomatonWrong)

/-- 'zzlaws_internal_manifest_b1.FnFnmatchQuotedNameMatchesOnlyItself': WHATEVER THE INPUT: true; the input reads as it did. -/
def fnFnmatchQuotedNameMatchesOnlyItselfSpec : ChangeSpec := { name := "fnFnmatchQuotedNameMatchesOnlyItself", fn := fun _ => fun
  | [d1, d2] => { results := [.lit (.bool true)], args := [d1, d2] }
  | _ => none }
def fnFnmatchQuotedNameMatchesOnlyItselfRow : OpenClaim := { program := "qxb6606061a", sum := "4db752e6110e5e9a7113ae0a052a07486dc39ce36a972448ad44ae26db2e1b58", func := "example.com/moldwright/moldwright/zzlaws_internal_manifest_b1.FnFnmatchQuotedNameMatchesOnlyItself", spec := "fnFnmatchQuotedNameMatchesOnlyItself", apart := false }
def FnFnmatchQuotedNameMatchesOnlyItselfSaid : Prop := fnFnmatchQuotedNameMatchesOnlyItselfRow.holds Try.pinned (OpenSpec.ofChange fnFnmatchQuotedNameMatchesOnlyItselfSpec)

/-- ITS FALSE NEIGHBOUR: 'it returns false'. Refute it at one input. -/
def fnFnmatchQuotedNameMatchesOnlyItselfWrong : ChangeSpec := { name := "fnFnmatchQuotedNameMatchesOnlyItself", fn := fun _ => fun
  | [d1, d2] => { results := [.lit (.bool false)], args := [d1, d2] }
  | _ => none }
def FnFnmatchQuotedNameMatchesOnlyItselfWrongFalsely : Prop := fnFnmatchQuotedNameMatchesOnlyItselfRow.holds Try.pinned (OpenSpec.ofChange fnFnmatchQuotedNameMatchesOnlyItselfWrong)

end Rows
end Go.Proofs.Qxb6606061a
