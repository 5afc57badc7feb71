/-
  No cell of these rows narrows 'for every input' (looked for: loops, veiled, ifaces, maps, wideKeys, modest, calm, conditions, laid).
  DERIVED. THE GIVEN ROWS OF THIS SEAT. 4 by the template 'for every input the law returns true; each argument reads behind the call as it read before'; 0 by the template 'total and deterministic' (their statements: Qxb6001550aTotals.lean).
  GIVEN WITH THE SEED: the statements are not yours to turn. If you find one false, say at which input.
  Laid BY PROGRAM, IN A SANDBOX (cutbox-rows.mjs): the forced cells as the released guide's own fill.sh prints them over the translation 594873530cdf7dad… (all of the seat's roots in one cut). By AI agents, Wed Nov 11 2026. No macro, syntax, notation, axiom, sorry.
-/
import Derived.Test.Qxb6001550aChecked
import GoSem.Claim
import GoSem.ClaimJoined
import GoSem.ClaimMapViews
import Derived.JoinedTies
import Derived.KernelRfl
namespace Go.Proofs.Qxb6001550a
/- THE CELL 'sum', in the pinned program and in every row, IS THE sha256 OF THE DUMP (.gsa) THAT Qxb6001550aProg.lean LOADS. Nothing in Lean hashes anything: it is a label: what it is worth is what the hold of that sum in a sandbox is worth. -/
noncomputable def Try.pinned : Pinned := { name := "qxb6001550a", sum := "594873530cdf7dad42cfc1cddc3e74342f44df88568e671ad7f0532240eb93e4", checked := Try.checked }
namespace Rows
def none {H : Type} : Left H := { results := [], args := [] }

/-- 'zzlaws_directives_b1.FnApplyRemoveNeverGrants': WHATEVER THE INPUT: true; the input reads as it did. -/
def fnApplyRemoveNeverGrantsSpec : ChangeSpec := { name := "fnApplyRemoveNeverGrants", fn := fun _ => fun
  | [d1, d2, d3] => { results := [.lit (.bool true)], args := [d1, d2, d3] }
  | _ => none }
def fnApplyRemoveNeverGrantsRow : OpenClaim := { program := "qxb6001550a", sum := "594873530cdf7dad42cfc1cddc3e74342f44df88568e671ad7f0532240eb93e4", func := "example.com/aclimate/aclimate/zzlaws_directives_b1.FnApplyRemoveNeverGrants", spec := "fnApplyRemoveNeverGrants", apart := false }
def FnApplyRemoveNeverGrantsSaid : Prop := fnApplyRemoveNeverGrantsRow.holds Try.pinned (OpenSpec.ofChange fnApplyRemoveNeverGrantsSpec)

/-- ITS FALSE NEIGHBOUR: 'it returns false'. Refute it at one input. -/
def fnApplyRemoveNeverGrantsWrong : ChangeSpec := { name := "fnApplyRemoveNeverGrants", fn := fun _ => fun
  | [d1, d2, d3] => { results := [.lit (.bool false)], args := [d1, d2, d3] }
  | _ => none }
def FnApplyRemoveNeverGrantsWrongFalsely : Prop := fnApplyRemoveNeverGrantsRow.holds Try.pinned (OpenSpec.ofChange fnApplyRemoveNeverGrantsWrong)

/-- 'zzlaws_directives_b1.FnSplitWordsQuotedRoundTrip': WHATEVER THE INPUT: true; the input reads as it did. -/
def fnSplitWordsQuotedRoundTripSpec : ChangeSpec := { name := "fnSplitWordsQuotedRoundTrip", fn := fun _ => fun
  | [d1, d2] => { results := [.lit (.bool true)], args := [d1, d2] }
  | _ => none }
def fnSplitWordsQuotedRoundTripRow : OpenClaim := { program := "qxb6001550a", sum := "594873530cdf7dad42cfc1cddc3e74342f44df88568e671ad7f0532240eb93e4", func := "example.com/aclimate/aclimate/zzlaws_directives_b1.FnSplitWordsQuotedRoundTrip", spec := "fnSplitWordsQuotedRoundTrip", inPlace := ["internal/bytealg.IndexByteString", "internal/abi.NoEscape"], apart := false }
def FnSplitWordsQuotedRoundTripSaid : Prop := fnSplitWordsQuotedRoundTripRow.holds Try.pinned (OpenSpec.ofChange fnSplitWordsQuotedRoundTripSpec)

/-- ITS FALSE NEIGHBOUR: 'it returns false'. Refute it at one input. -/
def fnSplitWordsQuotedRoundTripWrong : ChangeSpec := { name := "fnSplitWordsQuotedRoundTrip", fn := fun _ => fun
  | [d1, d2] => { results := [.lit (.bool false)], args := [d1, d2] }
  | _ => none }
def FnSplitWordsQuotedRoundTripWrongFalsely : Prop := fnSplitWordsQuotedRoundTripRow.holds Try.pinned (OpenSpec.ofChange fnSplitWordsQuotedRoundTripWrong)

/-- 'zzlaws_directives_b1.FnSplitWordsLinesOrderedAndBounded': WHATEVER THE INPUT: true; the input reads as it did. -/
def fnSplitWordsLinesOrderedAndBoundedSpec : ChangeSpec := { name := "fnSplitWordsLinesOrderedAndBounded", fn := fun _ => fun
  | [d1, d2, d3, d4] => { results := [.lit (.bool true)], args := [d1, d2, d3, d4] }
  | _ => none }
def fnSplitWordsLinesOrderedAndBoundedRow : OpenClaim := { program := "qxb6001550a", sum := "594873530cdf7dad42cfc1cddc3e74342f44df88568e671ad7f0532240eb93e4", func := "example.com/aclimate/aclimate/zzlaws_directives_b1.FnSplitWordsLinesOrderedAndBounded", spec := "fnSplitWordsLinesOrderedAndBounded", inPlace := ["internal/bytealg.IndexByteString", "internal/abi.NoEscape"], apart := false }
def FnSplitWordsLinesOrderedAndBoundedSaid : Prop := fnSplitWordsLinesOrderedAndBoundedRow.holds Try.pinned (OpenSpec.ofChange fnSplitWordsLinesOrderedAndBoundedSpec)

/-- ITS FALSE NEIGHBOUR: 'it returns false'. Refute it at one input. -/
def fnSplitWordsLinesOrderedAndBoundedWrong : ChangeSpec := { name := "fnSplitWordsLinesOrderedAndBounded", fn := fun _ => fun
  | [d1, d2, d3, d4] => { results := [.lit (.bool false)], args := [d1, d2, d3, d4] }
  | _ => none }
def FnSplitWordsLinesOrderedAndBoundedWrongFalsely : Prop := fnSplitWordsLinesOrderedAndBoundedRow.holds Try.pinned (OpenSpec.ofChange fnSplitWordsLinesOrderedAndBoundedWrong)

/-- 'zzlaws_directives_b1.FnSplitWordsRulesAgreeWithoutBackslash': WHATEVER THE INPUT: true; the input reads as it did. -/
def fnSplitWordsRulesAgreeWithoutBackslashSpec : ChangeSpec := { name := "fnSplitWordsRulesAgreeWithoutBackslash", fn := fun _ => fun
  | [d1, d2, d3] => { results := [.lit (.bool true)], args := [d1, d2, d3] }
  | _ => none }
def fnSplitWordsRulesAgreeWithoutBackslashRow : OpenClaim := { program := "qxb6001550a", sum := "594873530cdf7dad42cfc1cddc3e74342f44df88568e671ad7f0532240eb93e4", func := "example.com/aclimate/aclimate/zzlaws_directives_b1.FnSplitWordsRulesAgreeWithoutBackslash", spec := "fnSplitWordsRulesAgreeWithoutBackslash", inPlace := ["internal/bytealg.IndexByteString", "internal/abi.NoEscape"], apart := false }
def FnSplitWordsRulesAgreeWithoutBackslashSaid : Prop := fnSplitWordsRulesAgreeWithoutBackslashRow.holds Try.pinned (OpenSpec.ofChange fnSplitWordsRulesAgreeWithoutBackslashSpec)

/-- ITS FALSE NEIGHBOUR: 'it returns false'. Refute it at one input. -/
def fnSplitWordsRulesAgreeWithoutBackslashWrong : ChangeSpec := { name := "fnSplitWordsRulesAgreeWithoutBackslash", fn := fun _ => fun
  | [d1, d2, d3] => { results := [.lit (.bool false)], args := [d1, d2, d3] }
  | _ => none }
def FnSplitWordsRulesAgreeWithoutBackslashWrongFalsely : Prop := fnSplitWordsRulesAgreeWithoutBackslashRow.holds Try.pinned (OpenSpec.ofChange fnSplitWordsRulesAgreeWithoutBackslashWrong)

end Rows
end Go.Proofs.Qxb6001550a
