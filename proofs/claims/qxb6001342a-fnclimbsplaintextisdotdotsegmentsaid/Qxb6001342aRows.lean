/-
  No cell of these rows narrows 'for every input' (looked for: loops, veiled, ifaces, maps, wideKeys, modest, calm, conditions, laid).
  DERIVED. THE GIVEN ROWS OF THIS SEAT. 6 by the template 'for every input the law returns true; each argument reads behind the call as it read before'; 0 by the template 'total and deterministic' (their statements: Qxb6001342aTotals.lean).
  GIVEN WITH THE SEED: the statements are not yours to turn. If you find one false, say at which input.
  Laid BY PROGRAM, IN A SANDBOX (cutbox-rows.mjs): the forced cells as the released guide's own fill.sh prints them over the translation d606355f25a52203… (all of the seat's roots in one cut). By AI agents, Wed Nov 11 2026. No macro, syntax, notation, axiom, sorry.
-/
import Derived.Test.Qxb6001342aChecked
import GoSem.Claim
import GoSem.ClaimJoined
import GoSem.ClaimMapViews
import Derived.JoinedTies
import Derived.KernelRfl
namespace Go.Proofs.Qxb6001342a
/- THE CELL 'sum', in the pinned program and in every row, IS THE sha256 OF THE DUMP (.gsa) THAT Qxb6001342aProg.lean LOADS. Nothing in Lean hashes anything: it is a label: what it is worth is what the hold of that sum in a sandbox is worth. -/
noncomputable def Try.pinned : Pinned := { name := "qxb6001342a", sum := "d606355f25a52203ec951d5696cf6db86f8907c40aa5eccabe270bc49537e16d", checked := Try.checked }
namespace Rows
def none {H : Type} : Left H := { results := [], args := [] }

/-- 'zzlaws_internal_policy_b1.FnAfterLeavesEveryReadingAlive': WHATEVER THE INPUT: true; the input reads as it did. -/
def fnAfterLeavesEveryReadingAliveSpec : ChangeSpec := { name := "fnAfterLeavesEveryReadingAlive", fn := fun _ => fun
  | [d1, d2, d3] => { results := [.lit (.bool true)], args := [d1, d2, d3] }
  | _ => none }
def fnAfterLeavesEveryReadingAliveRow : OpenClaim := { program := "qxb6001342a", sum := "d606355f25a52203ec951d5696cf6db86f8907c40aa5eccabe270bc49537e16d", func := "example.com/fenced-conduct/fenced-conduct/zzlaws_internal_policy_b1.FnAfterLeavesEveryReadingAlive", spec := "fnAfterLeavesEveryReadingAlive", inPlace := ["internal/bytealg.IndexByteString"], apart := false }
def FnAfterLeavesEveryReadingAliveSaid : Prop := fnAfterLeavesEveryReadingAliveRow.holds Try.pinned (OpenSpec.ofChange fnAfterLeavesEveryReadingAliveSpec)

/-- ITS FALSE NEIGHBOUR: 'it returns false'. Refute it at one input. -/
def fnAfterLeavesEveryReadingAliveWrong : ChangeSpec := { name := "fnAfterLeavesEveryReadingAlive", fn := fun _ => fun
  | [d1, d2, d3] => { results := [.lit (.bool false)], args := [d1, d2, d3] }
  | _ => none }
def FnAfterLeavesEveryReadingAliveWrongFalsely : Prop := fnAfterLeavesEveryReadingAliveRow.holds Try.pinned (OpenSpec.ofChange fnAfterLeavesEveryReadingAliveWrong)

/-- 'zzlaws_internal_policy_b1.FnAfterEscapedByteIsPlainName': WHATEVER THE INPUT: true; the input reads as it did. -/
def fnAfterEscapedByteIsPlainNameSpec : ChangeSpec := { name := "fnAfterEscapedByteIsPlainName", fn := fun _ => fun
  | [d1, d2] => { results := [.lit (.bool true)], args := [d1, d2] }
  | _ => none }
def fnAfterEscapedByteIsPlainNameRow : OpenClaim := { program := "qxb6001342a", sum := "d606355f25a52203ec951d5696cf6db86f8907c40aa5eccabe270bc49537e16d", func := "example.com/fenced-conduct/fenced-conduct/zzlaws_internal_policy_b1.FnAfterEscapedByteIsPlainName", spec := "fnAfterEscapedByteIsPlainName", inPlace := ["internal/bytealg.IndexByteString"], apart := false }
def FnAfterEscapedByteIsPlainNameSaid : Prop := fnAfterEscapedByteIsPlainNameRow.holds Try.pinned (OpenSpec.ofChange fnAfterEscapedByteIsPlainNameSpec)

/-- ITS FALSE NEIGHBOUR: 'it returns false'. Refute it at one input. -/
def fnAfterEscapedByteIsPlainNameWrong : ChangeSpec := { name := "fnAfterEscapedByteIsPlainName", fn := fun _ => fun
  | [d1, d2] => { results := [.lit (.bool false)], args := [d1, d2] }
  | _ => none }
def FnAfterEscapedByteIsPlainNameWrongFalsely : Prop := fnAfterEscapedByteIsPlainNameRow.holds Try.pinned (OpenSpec.ofChange fnAfterEscapedByteIsPlainNameWrong)

/-- 'zzlaws_internal_policy_b1.FnAfterSyntaxFlagMattersOnlyForGlobBytes': WHATEVER THE INPUT: true; the input reads as it did. -/
def fnAfterSyntaxFlagMattersOnlyForGlobBytesSpec : ChangeSpec := { name := "fnAfterSyntaxFlagMattersOnlyForGlobBytes", fn := fun _ => fun
  | [d1, d2] => { results := [.lit (.bool true)], args := [d1, d2] }
  | _ => none }
def fnAfterSyntaxFlagMattersOnlyForGlobBytesRow : OpenClaim := { program := "qxb6001342a", sum := "d606355f25a52203ec951d5696cf6db86f8907c40aa5eccabe270bc49537e16d", func := "example.com/fenced-conduct/fenced-conduct/zzlaws_internal_policy_b1.FnAfterSyntaxFlagMattersOnlyForGlobBytes", spec := "fnAfterSyntaxFlagMattersOnlyForGlobBytes", inPlace := ["internal/bytealg.IndexByteString"], apart := false }
def FnAfterSyntaxFlagMattersOnlyForGlobBytesSaid : Prop := fnAfterSyntaxFlagMattersOnlyForGlobBytesRow.holds Try.pinned (OpenSpec.ofChange fnAfterSyntaxFlagMattersOnlyForGlobBytesSpec)

/-- ITS FALSE NEIGHBOUR: 'it returns false'. Refute it at one input. -/
def fnAfterSyntaxFlagMattersOnlyForGlobBytesWrong : ChangeSpec := { name := "fnAfterSyntaxFlagMattersOnlyForGlobBytes", fn := fun _ => fun
  | [d1, d2] => { results := [.lit (.bool false)], args := [d1, d2] }
  | _ => none }
def FnAfterSyntaxFlagMattersOnlyForGlobBytesWrongFalsely : Prop := fnAfterSyntaxFlagMattersOnlyForGlobBytesRow.holds Try.pinned (OpenSpec.ofChange fnAfterSyntaxFlagMattersOnlyForGlobBytesWrong)

/-- 'zzlaws_internal_policy_b1.FnClimbsPlainTextIsDotDotSegment': WHATEVER THE INPUT: true; the input reads as it did. -/
def fnClimbsPlainTextIsDotDotSegmentSpec : ChangeSpec := { name := "fnClimbsPlainTextIsDotDotSegment", fn := fun _ => fun
  | [d] => { results := [.lit (.bool true)], args := [d] }
  | _ => none }
def fnClimbsPlainTextIsDotDotSegmentRow : OpenClaim := { program := "qxb6001342a", sum := "d606355f25a52203ec951d5696cf6db86f8907c40aa5eccabe270bc49537e16d", func := "example.com/fenced-conduct/fenced-conduct/zzlaws_internal_policy_b1.FnClimbsPlainTextIsDotDotSegment", spec := "fnClimbsPlainTextIsDotDotSegment", inPlace := ["internal/bytealg.IndexByteString"], apart := false }
def FnClimbsPlainTextIsDotDotSegmentSaid : Prop := fnClimbsPlainTextIsDotDotSegmentRow.holds Try.pinned (OpenSpec.ofChange fnClimbsPlainTextIsDotDotSegmentSpec)

/-- ITS FALSE NEIGHBOUR: 'it returns false'. Refute it at one input. -/
def fnClimbsPlainTextIsDotDotSegmentWrong : ChangeSpec := { name := "fnClimbsPlainTextIsDotDotSegment", fn := fun _ => fun
  | [d] => { results := [.lit (.bool false)], args := [d] }
  | _ => none }
def FnClimbsPlainTextIsDotDotSegmentWrongFalsely : Prop := fnClimbsPlainTextIsDotDotSegmentRow.holds Try.pinned (OpenSpec.ofChange fnClimbsPlainTextIsDotDotSegmentWrong)

/-- 'zzlaws_internal_policy_b1.FnClimbsBraceChoiceIsEitherAlternative': WHATEVER THE INPUT: true; the input reads as it did. -/
def fnClimbsBraceChoiceIsEitherAlternativeSpec : ChangeSpec := { name := "fnClimbsBraceChoiceIsEitherAlternative", fn := fun _ => fun
  | [d1, d2, d3, d4] => { results := [.lit (.bool true)], args := [d1, d2, d3, d4] }
  | _ => none }
def fnClimbsBraceChoiceIsEitherAlternativeRow : OpenClaim := { program := "qxb6001342a", sum := "d606355f25a52203ec951d5696cf6db86f8907c40aa5eccabe270bc49537e16d", func := "example.com/fenced-conduct/fenced-conduct/zzlaws_internal_policy_b1.FnClimbsBraceChoiceIsEitherAlternative", spec := "fnClimbsBraceChoiceIsEitherAlternative", inPlace := ["internal/bytealg.IndexByteString"], apart := false }
def FnClimbsBraceChoiceIsEitherAlternativeSaid : Prop := fnClimbsBraceChoiceIsEitherAlternativeRow.holds Try.pinned (OpenSpec.ofChange fnClimbsBraceChoiceIsEitherAlternativeSpec)

/-- ITS FALSE NEIGHBOUR: 'it returns false'. Refute it at one input. -/
def fnClimbsBraceChoiceIsEitherAlternativeWrong : ChangeSpec := { name := "fnClimbsBraceChoiceIsEitherAlternative", fn := fun _ => fun
  | [d1, d2, d3, d4] => { results := [.lit (.bool false)], args := [d1, d2, d3, d4] }
  | _ => none }
def FnClimbsBraceChoiceIsEitherAlternativeWrongFalsely : Prop := fnClimbsBraceChoiceIsEitherAlternativeRow.holds Try.pinned (OpenSpec.ofChange fnClimbsBraceChoiceIsEitherAlternativeWrong)

/-- 'zzlaws_internal_policy_b1.FnClimbsWithADotDotSegmentAtEitherEnd': WHATEVER THE INPUT: true; the input reads as it did. -/
def fnClimbsWithADotDotSegmentAtEitherEndSpec : ChangeSpec := { name := "fnClimbsWithADotDotSegmentAtEitherEnd", fn := fun _ => fun
  | [d] => { results := [.lit (.bool true)], args := [d] }
  | _ => none }
def fnClimbsWithADotDotSegmentAtEitherEndRow : OpenClaim := { program := "qxb6001342a", sum := "d606355f25a52203ec951d5696cf6db86f8907c40aa5eccabe270bc49537e16d", func := "example.com/fenced-conduct/fenced-conduct/zzlaws_internal_policy_b1.FnClimbsWithADotDotSegmentAtEitherEnd", spec := "fnClimbsWithADotDotSegmentAtEitherEnd", inPlace := ["internal/bytealg.IndexByteString"], apart := false }
def FnClimbsWithADotDotSegmentAtEitherEndSaid : Prop := fnClimbsWithADotDotSegmentAtEitherEndRow.holds Try.pinned (OpenSpec.ofChange fnClimbsWithADotDotSegmentAtEitherEndSpec)

/-- ITS FALSE NEIGHBOUR: 'it returns false'. Refute it at one input. -/
def fnClimbsWithADotDotSegmentAtEitherEndWrong : ChangeSpec := { name := "fnClimbsWithADotDotSegmentAtEitherEnd", fn := fun _ => fun
  | [d] => { results := [.lit (.bool false)], args := [d] }
  | _ => none }
def FnClimbsWithADotDotSegmentAtEitherEndWrongFalsely : Prop := fnClimbsWithADotDotSegmentAtEitherEndRow.holds Try.pinned (OpenSpec.ofChange fnClimbsWithADotDotSegmentAtEitherEndWrong)

end Rows
end Go.Proofs.Qxb6001342a
