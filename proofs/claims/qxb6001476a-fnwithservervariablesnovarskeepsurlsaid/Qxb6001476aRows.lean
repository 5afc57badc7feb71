/-
  No cell of these rows narrows 'for every input' (looked for: loops, veiled, ifaces, maps, wideKeys, modest, calm, conditions, laid).
  DERIVED. THE GIVEN ROWS OF THIS SEAT. 3 by the template 'for every input the law returns true; each argument reads behind the call as it read before'; 0 by the template 'total and deterministic' (their statements: Qxb6001476aTotals.lean).
  GIVEN WITH THE SEED: the statements are not yours to turn. If you find one false, say at which input.
  Laid BY PROGRAM, IN A SANDBOX (cutbox-rows.mjs): the forced cells as the released guide's own fill.sh prints them over the translation f3d3e384fa6f99b5… (all of the seat's roots in one cut). By AI agents, Wed Nov 11 2026. No macro, syntax, notation, axiom, sorry.
-/
import Derived.Test.Qxb6001476aChecked
import GoSem.Claim
import GoSem.ClaimJoined
import GoSem.ClaimMapViews
import Derived.JoinedTies
import Derived.KernelRfl
namespace Go.Proofs.Qxb6001476a
/- THE CELL 'sum', in the pinned program and in every row, IS THE sha256 OF THE DUMP (.gsa) THAT Qxb6001476aProg.lean LOADS. Nothing in Lean hashes anything: it is a label: what it is worth is what the hold of that sum in a sandbox is worth. -/
noncomputable def Try.pinned : Pinned := { name := "qxb6001476a", sum := "f3d3e384fa6f99b5b3990dc6eacfbc79373ce3ca7c1cd0d078b4d75164570705", checked := Try.checked }
namespace Rows
def none {H : Type} : Left H := { results := [], args := [] }

/-- 'zzlaws_root_b1.FnNormalizePercentIdempotent': WHATEVER THE INPUT: true; the input reads as it did. -/
def fnNormalizePercentIdempotentSpec : ChangeSpec := { name := "fnNormalizePercentIdempotent", fn := fun _ => fun
  | [d] => { results := [.lit (.bool true)], args := [d] }
  | _ => none }
def fnNormalizePercentIdempotentRow : OpenClaim := { program := "qxb6001476a", sum := "f3d3e384fa6f99b5b3990dc6eacfbc79373ce3ca7c1cd0d078b4d75164570705", func := "example.com/pathfold/pathfold/zzlaws_root_b1.FnNormalizePercentIdempotent", spec := "fnNormalizePercentIdempotent", inPlace := ["internal/bytealg.IndexByteString"], apart := false }
def FnNormalizePercentIdempotentSaid : Prop := fnNormalizePercentIdempotentRow.holds Try.pinned (OpenSpec.ofChange fnNormalizePercentIdempotentSpec)

/-- ITS FALSE NEIGHBOUR: 'it returns false'. Refute it at one input. -/
def fnNormalizePercentIdempotentWrong : ChangeSpec := { name := "fnNormalizePercentIdempotent", fn := fun _ => fun
  | [d] => { results := [.lit (.bool false)], args := [d] }
  | _ => none }
def FnNormalizePercentIdempotentWrongFalsely : Prop := fnNormalizePercentIdempotentRow.holds Try.pinned (OpenSpec.ofChange fnNormalizePercentIdempotentWrong)

/-- 'zzlaws_root_b1.FnNormalizePercentKeepsMeaning': WHATEVER THE INPUT: true; the input reads as it did. -/
def fnNormalizePercentKeepsMeaningSpec : ChangeSpec := { name := "fnNormalizePercentKeepsMeaning", fn := fun _ => fun
  | [d] => { results := [.lit (.bool true)], args := [d] }
  | _ => none }
def fnNormalizePercentKeepsMeaningRow : OpenClaim := { program := "qxb6001476a", sum := "f3d3e384fa6f99b5b3990dc6eacfbc79373ce3ca7c1cd0d078b4d75164570705", func := "example.com/pathfold/pathfold/zzlaws_root_b1.FnNormalizePercentKeepsMeaning", spec := "fnNormalizePercentKeepsMeaning", inPlace := ["internal/bytealg.IndexByteString"], apart := false }
def FnNormalizePercentKeepsMeaningSaid : Prop := fnNormalizePercentKeepsMeaningRow.holds Try.pinned (OpenSpec.ofChange fnNormalizePercentKeepsMeaningSpec)

/-- ITS FALSE NEIGHBOUR: 'it returns false'. Refute it at one input. -/
def fnNormalizePercentKeepsMeaningWrong : ChangeSpec := { name := "fnNormalizePercentKeepsMeaning", fn := fun _ => fun
  | [d] => { results := [.lit (.bool false)], args := [d] }
  | _ => none }
def FnNormalizePercentKeepsMeaningWrongFalsely : Prop := fnNormalizePercentKeepsMeaningRow.holds Try.pinned (OpenSpec.ofChange fnNormalizePercentKeepsMeaningWrong)

/-- 'zzlaws_root_b1.FnWithServerVariablesNoVarsKeepsURL': WHATEVER THE INPUT: true; the input reads as it did. -/
def fnWithServerVariablesNoVarsKeepsURLSpec : ChangeSpec := { name := "fnWithServerVariablesNoVarsKeepsURL", fn := fun _ => fun
  | [d] => { results := [.lit (.bool true)], args := [d] }
  | _ => none }
def fnWithServerVariablesNoVarsKeepsURLRow : OpenClaim := { program := "qxb6001476a", sum := "f3d3e384fa6f99b5b3990dc6eacfbc79373ce3ca7c1cd0d078b4d75164570705", func := "example.com/pathfold/pathfold/zzlaws_root_b1.FnWithServerVariablesNoVarsKeepsURL", spec := "fnWithServerVariablesNoVarsKeepsURL", inPlace := ["internal/bytealg.IndexByteString", "internal/abi.NoEscape"], apart := false }
def FnWithServerVariablesNoVarsKeepsURLSaid : Prop := fnWithServerVariablesNoVarsKeepsURLRow.holds Try.pinned (OpenSpec.ofChange fnWithServerVariablesNoVarsKeepsURLSpec)

/-- ITS FALSE NEIGHBOUR: 'it returns false'. Refute it at one input. -/
def fnWithServerVariablesNoVarsKeepsURLWrong : ChangeSpec := { name := "fnWithServerVariablesNoVarsKeepsURL", fn := fun _ => fun
  | [d] => { results := [.lit (.bool false)], args := [d] }
  | _ => none }
def FnWithServerVariablesNoVarsKeepsURLWrongFalsely : Prop := fnWithServerVariablesNoVarsKeepsURLRow.holds Try.pinned (OpenSpec.ofChange fnWithServerVariablesNoVarsKeepsURLWrong)

end Rows
end Go.Proofs.Qxb6001476a
