/-
  No cell of these rows narrows 'for every input' (looked for: loops, veiled, ifaces, maps, wideKeys, modest, calm, conditions, laid).
  DERIVED. THE GIVEN ROWS OF THIS SEAT. 4 by the template 'for every input the law returns true; each argument reads behind the call as it read before'; 0 by the template 'total and deterministic' (their statements: Qxb6606073aTotals.lean).
  GIVEN WITH THE SEED: the statements are not yours to turn. If you find one false, say at which input.
  Laid BY PROGRAM, IN A SANDBOX (cutbox-rows.mjs): the forced cells as the released guide's own fill.sh prints them over the translation b74619162a676d61… (all of the seat's roots in one cut). By AI agents, Wed Nov 11 2026. No macro, syntax, notation, axiom, sorry.
-/
import Derived.Test.Qxb6606073aChecked
import GoSem.Claim
import GoSem.ClaimJoined
import GoSem.ClaimMapViews
import Derived.JoinedTies
import Derived.KernelRfl
namespace Go.Proofs.Qxb6606073a
/- THE CELL 'sum', in the pinned program and in every row, IS THE sha256 OF THE DUMP (.gsa) THAT Qxb6606073aProg.lean LOADS. Nothing in Lean hashes anything: it is a label: what it is worth is what the hold of that sum in a sandbox is worth. -/
noncomputable def Try.pinned : Pinned := { name := "qxb6606073a", sum := "b74619162a676d6196af709e6c0efadeb41a5f9f26da751b5903f0b26793f29d", checked := Try.checked }
namespace Rows
def none {H : Type} : Left H := { results := [], args := [] }

/-- 'zzlaws_authz_b1.FnAppendUncoveredWithNoScopeListsEveryTriple': WHATEVER THE INPUT: true; the input reads as it did. -/
def fnAppendUncoveredWithNoScopeListsEveryTripleSpec : ChangeSpec := { name := "fnAppendUncoveredWithNoScopeListsEveryTriple", fn := fun _ => fun
  | [d1, d2] => { results := [.lit (.bool true)], args := [d1, d2] }
  | _ => none }
def fnAppendUncoveredWithNoScopeListsEveryTripleRow : OpenClaim := { program := "qxb6606073a", sum := "b74619162a676d6196af709e6c0efadeb41a5f9f26da751b5903f0b26793f29d", func := "example.com/verdict/verdict/zzlaws_authz_b1.FnAppendUncoveredWithNoScopeListsEveryTriple", spec := "fnAppendUncoveredWithNoScopeListsEveryTriple", inPlace := ["internal/bytealg.IndexByteString", "internal/bytealg.IndexString"], unfollowed := true, recurses := true, named := ["internal/bytealg.MaxLen"], plainKeys := false, apart := false }
def FnAppendUncoveredWithNoScopeListsEveryTripleSaid : Prop := fnAppendUncoveredWithNoScopeListsEveryTripleRow.holds Try.pinned (OpenSpec.ofChange fnAppendUncoveredWithNoScopeListsEveryTripleSpec)

/-- ITS FALSE NEIGHBOUR: 'it returns false'. Refute it at one input. -/
def fnAppendUncoveredWithNoScopeListsEveryTripleWrong : ChangeSpec := { name := "fnAppendUncoveredWithNoScopeListsEveryTriple", fn := fun _ => fun
  | [d1, d2] => { results := [.lit (.bool false)], args := [d1, d2] }
  | _ => none }
def FnAppendUncoveredWithNoScopeListsEveryTripleWrongFalsely : Prop := fnAppendUncoveredWithNoScopeListsEveryTripleRow.holds Try.pinned (OpenSpec.ofChange fnAppendUncoveredWithNoScopeListsEveryTripleWrong)

/-- 'zzlaws_authz_b1.FnMadeCoversExactlyWhatTheRulesGrant': WHATEVER THE INPUT: true; the input reads as it did. -/
def fnMadeCoversExactlyWhatTheRulesGrantSpec : ChangeSpec := { name := "fnMadeCoversExactlyWhatTheRulesGrant", fn := fun _ => fun
  | [d1, d2, d3, d4, d5, d6, d7] => { results := [.lit (.bool true)], args := [d1, d2, d3, d4, d5, d6, d7] }
  | _ => none }
def fnMadeCoversExactlyWhatTheRulesGrantRow : OpenClaim := { program := "qxb6606073a", sum := "b74619162a676d6196af709e6c0efadeb41a5f9f26da751b5903f0b26793f29d", func := "example.com/verdict/verdict/zzlaws_authz_b1.FnMadeCoversExactlyWhatTheRulesGrant", spec := "fnMadeCoversExactlyWhatTheRulesGrant", plainKeys := false, apart := false }
def FnMadeCoversExactlyWhatTheRulesGrantSaid : Prop := fnMadeCoversExactlyWhatTheRulesGrantRow.holds Try.pinned (OpenSpec.ofChange fnMadeCoversExactlyWhatTheRulesGrantSpec)

/-- ITS FALSE NEIGHBOUR: 'it returns false'. Refute it at one input. -/
def fnMadeCoversExactlyWhatTheRulesGrantWrong : ChangeSpec := { name := "fnMadeCoversExactlyWhatTheRulesGrant", fn := fun _ => fun
  | [d1, d2, d3, d4, d5, d6, d7] => { results := [.lit (.bool false)], args := [d1, d2, d3, d4, d5, d6, d7] }
  | _ => none }
def FnMadeCoversExactlyWhatTheRulesGrantWrongFalsely : Prop := fnMadeCoversExactlyWhatTheRulesGrantRow.holds Try.pinned (OpenSpec.ofChange fnMadeCoversExactlyWhatTheRulesGrantWrong)

/-- 'zzlaws_authz_b1.FnMadePathsHoldTheURLsOfEachVerb': WHATEVER THE INPUT: true; the input reads as it did. -/
def fnMadePathsHoldTheURLsOfEachVerbSpec : ChangeSpec := { name := "fnMadePathsHoldTheURLsOfEachVerb", fn := fun _ => fun
  | [d1, d2, d3] => { results := [.lit (.bool true)], args := [d1, d2, d3] }
  | _ => none }
def fnMadePathsHoldTheURLsOfEachVerbRow : OpenClaim := { program := "qxb6606073a", sum := "b74619162a676d6196af709e6c0efadeb41a5f9f26da751b5903f0b26793f29d", func := "example.com/verdict/verdict/zzlaws_authz_b1.FnMadePathsHoldTheURLsOfEachVerb", spec := "fnMadePathsHoldTheURLsOfEachVerb", plainKeys := false, apart := false }
def FnMadePathsHoldTheURLsOfEachVerbSaid : Prop := fnMadePathsHoldTheURLsOfEachVerbRow.holds Try.pinned (OpenSpec.ofChange fnMadePathsHoldTheURLsOfEachVerbSpec)

/-- ITS FALSE NEIGHBOUR: 'it returns false'. Refute it at one input. -/
def fnMadePathsHoldTheURLsOfEachVerbWrong : ChangeSpec := { name := "fnMadePathsHoldTheURLsOfEachVerb", fn := fun _ => fun
  | [d1, d2, d3] => { results := [.lit (.bool false)], args := [d1, d2, d3] }
  | _ => none }
def FnMadePathsHoldTheURLsOfEachVerbWrongFalsely : Prop := fnMadePathsHoldTheURLsOfEachVerbRow.holds Try.pinned (OpenSpec.ofChange fnMadePathsHoldTheURLsOfEachVerbWrong)

/-- 'zzlaws_authz_b1.FnCoverResourceOneGrantClosedForm': WHATEVER THE INPUT: true; the input reads as it did. -/
def fnCoverResourceOneGrantClosedFormSpec : ChangeSpec := { name := "fnCoverResourceOneGrantClosedForm", fn := fun _ => fun
  | [d1, d2, d3, d4, d5, d6, d7, d8, d9, d10, d11] => { results := [.lit (.bool true)], args := [d1, d2, d3, d4, d5, d6, d7, d8, d9, d10, d11] }
  | _ => none }
def fnCoverResourceOneGrantClosedFormRow : OpenClaim := { program := "qxb6606073a", sum := "b74619162a676d6196af709e6c0efadeb41a5f9f26da751b5903f0b26793f29d", func := "example.com/verdict/verdict/zzlaws_authz_b1.FnCoverResourceOneGrantClosedForm", spec := "fnCoverResourceOneGrantClosedForm", inPlace := ["internal/bytealg.IndexByteString", "internal/bytealg.IndexString"], unfollowed := true, recurses := true, named := ["internal/bytealg.MaxLen"], plainKeys := false, apart := false }
def FnCoverResourceOneGrantClosedFormSaid : Prop := fnCoverResourceOneGrantClosedFormRow.holds Try.pinned (OpenSpec.ofChange fnCoverResourceOneGrantClosedFormSpec)

/-- ITS FALSE NEIGHBOUR: 'it returns false'. Refute it at one input. -/
def fnCoverResourceOneGrantClosedFormWrong : ChangeSpec := { name := "fnCoverResourceOneGrantClosedForm", fn := fun _ => fun
  | [d1, d2, d3, d4, d5, d6, d7, d8, d9, d10, d11] => { results := [.lit (.bool false)], args := [d1, d2, d3, d4, d5, d6, d7, d8, d9, d10, d11] }
  | _ => none }
def FnCoverResourceOneGrantClosedFormWrongFalsely : Prop := fnCoverResourceOneGrantClosedFormRow.holds Try.pinned (OpenSpec.ofChange fnCoverResourceOneGrantClosedFormWrong)

end Rows
end Go.Proofs.Qxb6606073a
