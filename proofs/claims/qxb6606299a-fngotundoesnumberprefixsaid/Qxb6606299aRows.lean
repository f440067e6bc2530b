/-
  No cell of these rows narrows 'for every input' (looked for: loops, veiled, ifaces, maps, wideKeys, modest, calm, conditions, laid).
  DERIVED. THE GIVEN ROWS OF THIS SEAT. 4 by the template 'for every input the law returns true; each argument reads behind the call as it read before'; 0 by the template 'total and deterministic' (their statements: Qxb6606299aTotals.lean).
  GIVEN WITH THE SEED: the statements are not yours to turn. If you find one false, say at which input.
  Laid BY PROGRAM, IN A SANDBOX (cutbox-rows.mjs): the forced cells as the released guide's own fill.sh prints them over the translation 78dfb1df21d87af1… (all of the seat's roots in one cut). By AI agents, Wed Nov 11 2026. No macro, syntax, notation, axiom, sorry.
-/
import Derived.Test.Qxb6606299aChecked
import GoSem.Claim
import GoSem.ClaimJoined
import GoSem.ClaimMapViews
import Derived.JoinedTies
import Derived.KernelRfl
namespace Go.Proofs.Qxb6606299a
/- THE CELL 'sum', in the pinned program and in every row, IS THE sha256 OF THE DUMP (.gsa) THAT Qxb6606299aProg.lean LOADS. Nothing in Lean hashes anything: it is a label: what it is worth is what the hold of that sum in a sandbox is worth. -/
noncomputable def Try.pinned : Pinned := { name := "qxb6606299a", sum := "78dfb1df21d87af193e24fb2cadfaf9209113c3d595500a58e5ef323ca03ee2e", checked := Try.checked }
namespace Rows
def none {H : Type} : Left H := { results := [], args := [] }

/-- 'zzlaws_internal_jsondoc_b1.FnHalfIgnoresAllButFirstTwoDigits': WHATEVER THE INPUT: true; the input reads as it did. -/
def fnHalfIgnoresAllButFirstTwoDigitsSpec : ChangeSpec := { name := "fnHalfIgnoresAllButFirstTwoDigits", fn := fun _ => fun
  | [d1, d2] => { results := [.lit (.bool true)], args := [d1, d2] }
  | _ => none }
def fnHalfIgnoresAllButFirstTwoDigitsRow : OpenClaim := { program := "qxb6606299a", sum := "78dfb1df21d87af193e24fb2cadfaf9209113c3d595500a58e5ef323ca03ee2e", func := "example.com/sober-bench/sober-bench/zzlaws_internal_jsondoc_b1.FnHalfIgnoresAllButFirstTwoDigits", spec := "fnHalfIgnoresAllButFirstTwoDigits", apart := false }
def FnHalfIgnoresAllButFirstTwoDigitsSaid : Prop := fnHalfIgnoresAllButFirstTwoDigitsRow.holds Try.pinned (OpenSpec.ofChange fnHalfIgnoresAllButFirstTwoDigitsSpec)

/-- ITS FALSE NEIGHBOUR: 'it returns false'. Refute it at one input. -/
def fnHalfIgnoresAllButFirstTwoDigitsWrong : ChangeSpec := { name := "fnHalfIgnoresAllButFirstTwoDigits", fn := fun _ => fun
  | [d1, d2] => { results := [.lit (.bool false)], args := [d1, d2] }
  | _ => none }
def FnHalfIgnoresAllButFirstTwoDigitsWrongFalsely : Prop := fnHalfIgnoresAllButFirstTwoDigitsRow.holds Try.pinned (OpenSpec.ofChange fnHalfIgnoresAllButFirstTwoDigitsWrong)

/-- 'zzlaws_internal_jsondoc_b1.FnHalfIgnoresCaseOfDigits': WHATEVER THE INPUT: true; the input reads as it did. -/
def fnHalfIgnoresCaseOfDigitsSpec : ChangeSpec := { name := "fnHalfIgnoresCaseOfDigits", fn := fun _ => fun
  | [d] => { results := [.lit (.bool true)], args := [d] }
  | _ => none }
def fnHalfIgnoresCaseOfDigitsRow : OpenClaim := { program := "qxb6606299a", sum := "78dfb1df21d87af193e24fb2cadfaf9209113c3d595500a58e5ef323ca03ee2e", func := "example.com/sober-bench/sober-bench/zzlaws_internal_jsondoc_b1.FnHalfIgnoresCaseOfDigits", spec := "fnHalfIgnoresCaseOfDigits", apart := false }
def FnHalfIgnoresCaseOfDigitsSaid : Prop := fnHalfIgnoresCaseOfDigitsRow.holds Try.pinned (OpenSpec.ofChange fnHalfIgnoresCaseOfDigitsSpec)

/-- ITS FALSE NEIGHBOUR: 'it returns false'. Refute it at one input. -/
def fnHalfIgnoresCaseOfDigitsWrong : ChangeSpec := { name := "fnHalfIgnoresCaseOfDigits", fn := fun _ => fun
  | [d] => { results := [.lit (.bool false)], args := [d] }
  | _ => none }
def FnHalfIgnoresCaseOfDigitsWrongFalsely : Prop := fnHalfIgnoresCaseOfDigitsRow.holds Try.pinned (OpenSpec.ofChange fnHalfIgnoresCaseOfDigitsWrong)

/-- 'zzlaws_internal_jsondoc_b1.FnGotUndoesNumberPrefix': WHATEVER THE INPUT: true; the input reads as it did. -/
def fnGotUndoesNumberPrefixSpec : ChangeSpec := { name := "fnGotUndoesNumberPrefix", fn := fun _ => fun
  | [d] => { results := [.lit (.bool true)], args := [d] }
  | _ => none }
def fnGotUndoesNumberPrefixRow : OpenClaim := { program := "qxb6606299a", sum := "78dfb1df21d87af193e24fb2cadfaf9209113c3d595500a58e5ef323ca03ee2e", func := "example.com/sober-bench/sober-bench/zzlaws_internal_jsondoc_b1.FnGotUndoesNumberPrefix", spec := "fnGotUndoesNumberPrefix", apart := false }
def FnGotUndoesNumberPrefixSaid : Prop := fnGotUndoesNumberPrefixRow.holds Try.pinned (OpenSpec.ofChange fnGotUndoesNumberPrefixSpec)

/-- ITS FALSE NEIGHBOUR: 'it returns false'. Refute it at one input. -/
def fnGotUndoesNumberPrefixWrong : ChangeSpec := { name := "fnGotUndoesNumberPrefix", fn := fun _ => fun
  | [d] => { results := [.lit (.bool false)], args := [d] }
  | _ => none }
def FnGotUndoesNumberPrefixWrongFalsely : Prop := fnGotUndoesNumberPrefixRow.holds Try.pinned (OpenSpec.ofChange fnGotUndoesNumberPrefixWrong)

/-- 'zzlaws_internal_jsondoc_b1.FnGotLeavesOtherKindsAlone': WHATEVER THE INPUT: true; the input reads as it did. -/
def fnGotLeavesOtherKindsAloneSpec : ChangeSpec := { name := "fnGotLeavesOtherKindsAlone", fn := fun _ => fun
  | [d] => { results := [.lit (.bool true)], args := [d] }
  | _ => none }
def fnGotLeavesOtherKindsAloneRow : OpenClaim := { program := "qxb6606299a", sum := "78dfb1df21d87af193e24fb2cadfaf9209113c3d595500a58e5ef323ca03ee2e", func := "example.com/sober-bench/sober-bench/zzlaws_internal_jsondoc_b1.FnGotLeavesOtherKindsAlone", spec := "fnGotLeavesOtherKindsAlone", apart := false }
def FnGotLeavesOtherKindsAloneSaid : Prop := fnGotLeavesOtherKindsAloneRow.holds Try.pinned (OpenSpec.ofChange fnGotLeavesOtherKindsAloneSpec)

/-- ITS FALSE NEIGHBOUR: 'it returns false'. Refute it at one input. -/
def fnGotLeavesOtherKindsAloneWrong : ChangeSpec := { name := "fnGotLeavesOtherKindsAlone", fn := fun _ => fun
  | [d] => { results := [.lit (.bool false)], args := [d] }
  | _ => none }
def FnGotLeavesOtherKindsAloneWrongFalsely : Prop := fnGotLeavesOtherKindsAloneRow.holds Try.pinned (OpenSpec.ofChange fnGotLeavesOtherKindsAloneWrong)

end Rows
end Go.Proofs.Qxb6606299a
