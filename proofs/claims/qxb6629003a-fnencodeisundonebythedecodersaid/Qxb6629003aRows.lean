/-
  No cell of these rows narrows 'for every input' (looked for: loops, veiled, ifaces, maps, wideKeys, modest, calm, conditions, laid).
  DERIVED. THE GIVEN ROWS OF THIS SEAT. 2 by the template 'for every input the law returns true; each argument reads behind the call as it read before'; 0 by the template 'total and deterministic' (their statements: Qxb6629003aTotals.lean).
  GIVEN WITH THE SEED: the statements are not yours to turn. If you find one false, say at which input.
  Laid BY PROGRAM, IN A SANDBOX (cutbox-rows.mjs): the forced cells as the released guide's own fill.sh prints them over the translation 6c8175d06397bdfd… (all of the seat's roots in one cut). By AI agents, Wed Nov 11 2026. No macro, syntax, notation, axiom, sorry.
-/
import Derived.Test.Qxb6629003aChecked
import GoSem.Claim
import GoSem.ClaimJoined
import GoSem.ClaimMapViews
import Derived.JoinedTies
import Derived.KernelRfl
namespace Go.Proofs.Qxb6629003a
/- THE CELL 'sum', in the pinned program and in every row, IS THE sha256 OF THE DUMP (.gsa) THAT Qxb6629003aProg.lean LOADS. Nothing in Lean hashes anything: it is a label: what it is worth is what the hold of that sum in a sandbox is worth. -/
noncomputable def Try.pinned : Pinned := { name := "qxb6629003a", sum := "6c8175d06397bdfd4e33a0f2c0fe884f32006abec3cbcbb2cdbb2ab8f1df98d1", checked := Try.checked }
namespace Rows
def none {H : Type} : Left H := { results := [], args := [] }

/-- 'zzlaws_fse_b1.FnEncodeStepsAreTheSymbolsStates': WHATEVER THE INPUT: true; the input reads as it did. -/
def fnEncodeStepsAreTheSymbolsStatesSpec : ChangeSpec := { name := "fnEncodeStepsAreTheSymbolsStates", fn := fun _ => fun
  | [d1, d2, d3] => { results := [.lit (.bool true)], args := [d1, d2, d3] }
  | _ => none }
def fnEncodeStepsAreTheSymbolsStatesRow : OpenClaim := { program := "qxb6629003a", sum := "6c8175d06397bdfd4e33a0f2c0fe884f32006abec3cbcbb2cdbb2ab8f1df98d1", func := "example.com/wringer/wringer/zzlaws_fse_b1.FnEncodeStepsAreTheSymbolsStates", spec := "fnEncodeStepsAreTheSymbolsStates", apart := false }
def FnEncodeStepsAreTheSymbolsStatesSaid : Prop := fnEncodeStepsAreTheSymbolsStatesRow.holds Try.pinned (OpenSpec.ofChange fnEncodeStepsAreTheSymbolsStatesSpec)

/-- ITS FALSE NEIGHBOUR: 'it returns false'. Refute it at one input. -/
def fnEncodeStepsAreTheSymbolsStatesWrong : ChangeSpec := { name := "fnEncodeStepsAreTheSymbolsStates", fn := fun _ => fun
  | [d1, d2, d3] => { results := [.lit (.bool false)], args := [d1, d2, d3] }
  | _ => none }
def FnEncodeStepsAreTheSymbolsStatesWrongFalsely : Prop := fnEncodeStepsAreTheSymbolsStatesRow.holds Try.pinned (OpenSpec.ofChange fnEncodeStepsAreTheSymbolsStatesWrong)

/-- 'zzlaws_fse_b1.FnEncodeIsUndoneByTheDecoder': WHATEVER THE INPUT: true; the input reads as it did. -/
def fnEncodeIsUndoneByTheDecoderSpec : ChangeSpec := { name := "fnEncodeIsUndoneByTheDecoder", fn := fun _ => fun
  | [d1, d2, d3] => { results := [.lit (.bool true)], args := [d1, d2, d3] }
  | _ => none }
def fnEncodeIsUndoneByTheDecoderRow : OpenClaim := { program := "qxb6629003a", sum := "6c8175d06397bdfd4e33a0f2c0fe884f32006abec3cbcbb2cdbb2ab8f1df98d1", func := "example.com/wringer/wringer/zzlaws_fse_b1.FnEncodeIsUndoneByTheDecoder", spec := "fnEncodeIsUndoneByTheDecoder", apart := false }
def FnEncodeIsUndoneByTheDecoderSaid : Prop := fnEncodeIsUndoneByTheDecoderRow.holds Try.pinned (OpenSpec.ofChange fnEncodeIsUndoneByTheDecoderSpec)

/-- ITS FALSE NEIGHBOUR: 'it returns false'. Refute it at one input. -/
def fnEncodeIsUndoneByTheDecoderWrong : ChangeSpec := { name := "fnEncodeIsUndoneByTheDecoder", fn := fun _ => fun
  | [d1, d2, d3] => { results := [.lit (.bool false)], args := [d1, d2, d3] }
  | _ => none }
def FnEncodeIsUndoneByTheDecoderWrongFalsely : Prop := fnEncodeIsUndoneByTheDecoderRow.holds Try.pinned (OpenSpec.ofChange fnEncodeIsUndoneByTheDecoderWrong)

end Rows
end Go.Proofs.Qxb6629003a
