/-
  No cell of these rows narrows 'for every input' (looked for: loops, veiled, ifaces, maps, wideKeys, modest, calm, conditions, laid).
  DERIVED. THE GIVEN ROWS OF THIS SEAT. 3 by the template 'for every input the law returns true; each argument reads behind the call as it read before'; 0 by the template 'total and deterministic' (their statements: Qxb6606270aTotals.lean).
  GIVEN WITH THE SEED: the statements are not yours to turn. If you find one false, say at which input.
  Laid BY PROGRAM, IN A SANDBOX (cutbox-rows.mjs): the forced cells as the released guide's own fill.sh prints them over the translation 43ee068d12b1d6ba… (all of the seat's roots in one cut). By AI agents, Wed Nov 11 2026. No macro, syntax, notation, axiom, sorry.
-/
import Derived.Test.Qxb6606270aChecked
import GoSem.Claim
import GoSem.ClaimJoined
import GoSem.ClaimMapViews
import Derived.JoinedTies
import Derived.KernelRfl
namespace Go.Proofs.Qxb6606270a
/- THE CELL 'sum', in the pinned program and in every row, IS THE sha256 OF THE DUMP (.gsa) THAT Qxb6606270aProg.lean LOADS. Nothing in Lean hashes anything: it is a label: what it is worth is what the hold of that sum in a sandbox is worth. -/
noncomputable def Try.pinned : Pinned := { name := "qxb6606270a", sum := "43ee068d12b1d6ba8b5f85d85625c64722a5319d0d72cd8a55e50b5ba8a50acd", checked := Try.checked }
namespace Rows
def none {H : Type} : Left H := { results := [], args := [] }

/-- 'zzlaws_federation_b1.FnCombineIsTheIntegerWeightedSum': WHATEVER THE INPUT: true; the input reads as it did. -/
def fnCombineIsTheIntegerWeightedSumSpec : ChangeSpec := { name := "fnCombineIsTheIntegerWeightedSum", fn := fun _ => fun
  | [d1, d2, d3] => { results := [.lit (.bool true)], args := [d1, d2, d3] }
  | _ => none }
def fnCombineIsTheIntegerWeightedSumRow : OpenClaim := { program := "qxb6606270a", sum := "43ee068d12b1d6ba8b5f85d85625c64722a5319d0d72cd8a55e50b5ba8a50acd", func := "example.com/nox-train/nox-train/zzlaws_federation_b1.FnCombineIsTheIntegerWeightedSum", spec := "fnCombineIsTheIntegerWeightedSum", apart := false }
def FnCombineIsTheIntegerWeightedSumSaid : Prop := fnCombineIsTheIntegerWeightedSumRow.holds Try.pinned (OpenSpec.ofChange fnCombineIsTheIntegerWeightedSumSpec)

/-- ITS FALSE NEIGHBOUR: 'it returns false'. Refute it at one input. -/
def fnCombineIsTheIntegerWeightedSumWrong : ChangeSpec := { name := "fnCombineIsTheIntegerWeightedSum", fn := fun _ => fun
  | [d1, d2, d3] => { results := [.lit (.bool false)], args := [d1, d2, d3] }
  | _ => none }
def FnCombineIsTheIntegerWeightedSumWrongFalsely : Prop := fnCombineIsTheIntegerWeightedSumRow.holds Try.pinned (OpenSpec.ofChange fnCombineIsTheIntegerWeightedSumWrong)

/-- 'zzlaws_federation_b1.FnCombineOfOneNetworkAtWeightOneIsIt': WHATEVER THE INPUT: true; the input reads as it did. -/
def fnCombineOfOneNetworkAtWeightOneIsItSpec : ChangeSpec := { name := "fnCombineOfOneNetworkAtWeightOneIsIt", fn := fun _ => fun
  | [d1, d2] => { results := [.lit (.bool true)], args := [d1, d2] }
  | _ => none }
def fnCombineOfOneNetworkAtWeightOneIsItRow : OpenClaim := { program := "qxb6606270a", sum := "43ee068d12b1d6ba8b5f85d85625c64722a5319d0d72cd8a55e50b5ba8a50acd", func := "example.com/nox-train/nox-train/zzlaws_federation_b1.FnCombineOfOneNetworkAtWeightOneIsIt", spec := "fnCombineOfOneNetworkAtWeightOneIsIt", apart := false }
def FnCombineOfOneNetworkAtWeightOneIsItSaid : Prop := fnCombineOfOneNetworkAtWeightOneIsItRow.holds Try.pinned (OpenSpec.ofChange fnCombineOfOneNetworkAtWeightOneIsItSpec)

/-- ITS FALSE NEIGHBOUR: 'it returns false'. Refute it at one input. -/
def fnCombineOfOneNetworkAtWeightOneIsItWrong : ChangeSpec := { name := "fnCombineOfOneNetworkAtWeightOneIsIt", fn := fun _ => fun
  | [d1, d2] => { results := [.lit (.bool false)], args := [d1, d2] }
  | _ => none }
def FnCombineOfOneNetworkAtWeightOneIsItWrongFalsely : Prop := fnCombineOfOneNetworkAtWeightOneIsItRow.holds Try.pinned (OpenSpec.ofChange fnCombineOfOneNetworkAtWeightOneIsItWrong)

/-- 'zzlaws_federation_b1.FnCombineIgnoresANetworkOfWeightZero': WHATEVER THE INPUT: true; the input reads as it did. -/
def fnCombineIgnoresANetworkOfWeightZeroSpec : ChangeSpec := { name := "fnCombineIgnoresANetworkOfWeightZero", fn := fun _ => fun
  | [d1, d2, d3, d4, d5] => { results := [.lit (.bool true)], args := [d1, d2, d3, d4, d5] }
  | _ => none }
def fnCombineIgnoresANetworkOfWeightZeroRow : OpenClaim := { program := "qxb6606270a", sum := "43ee068d12b1d6ba8b5f85d85625c64722a5319d0d72cd8a55e50b5ba8a50acd", func := "example.com/nox-train/nox-train/zzlaws_federation_b1.FnCombineIgnoresANetworkOfWeightZero", spec := "fnCombineIgnoresANetworkOfWeightZero", apart := false }
def FnCombineIgnoresANetworkOfWeightZeroSaid : Prop := fnCombineIgnoresANetworkOfWeightZeroRow.holds Try.pinned (OpenSpec.ofChange fnCombineIgnoresANetworkOfWeightZeroSpec)

/-- ITS FALSE NEIGHBOUR: 'it returns false'. Refute it at one input. -/
def fnCombineIgnoresANetworkOfWeightZeroWrong : ChangeSpec := { name := "fnCombineIgnoresANetworkOfWeightZero", fn := fun _ => fun
  | [d1, d2, d3, d4, d5] => { results := [.lit (.bool false)], args := [d1, d2, d3, d4, d5] }
  | _ => none }
def FnCombineIgnoresANetworkOfWeightZeroWrongFalsely : Prop := fnCombineIgnoresANetworkOfWeightZeroRow.holds Try.pinned (OpenSpec.ofChange fnCombineIgnoresANetworkOfWeightZeroWrong)

end Rows
end Go.Proofs.Qxb6606270a
