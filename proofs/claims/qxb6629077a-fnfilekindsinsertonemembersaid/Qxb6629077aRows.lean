/-
  No cell of these rows narrows 'for every input' (looked for: loops, veiled, ifaces, maps, wideKeys, modest, calm, conditions, laid).
  DERIVED. THE GIVEN ROWS OF THIS SEAT. 2 by the template 'for every input the law returns true; each argument reads behind the call as it read before'; 0 by the template 'total and deterministic' (their statements: Qxb6629077aTotals.lean).
  GIVEN WITH THE SEED: the statements are not yours to turn. If you find one false, say at which input.
  Laid BY PROGRAM, IN A SANDBOX (cutbox-rows.mjs): the forced cells as the released guide's own fill.sh prints them over the translation bb8266b96794d108… (all of the seat's roots in one cut). By AI agents, Wed Nov 11 2026. No macro, syntax, notation, axiom, sorry.
-/
import Derived.Test.Qxb6629077aChecked
import GoSem.Claim
import GoSem.ClaimJoined
import GoSem.ClaimMapViews
import Derived.JoinedTies
import Derived.KernelRfl
namespace Go.Proofs.Qxb6629077a
/- THE CELL 'sum', in the pinned program and in every row, IS THE sha256 OF THE DUMP (.gsa) THAT Qxb6629077aProg.lean LOADS. Nothing in Lean hashes anything: it is a label: what it is worth is what the hold of that sum in a sandbox is worth. -/
noncomputable def Try.pinned : Pinned := { name := "qxb6629077a", sum := "bb8266b96794d108c7dc86543011c5161307da960aaa79f9bbfe7d6b699bde12", checked := Try.checked }
namespace Rows
def none {H : Type} : Left H := { results := [], args := [] }

/-- 'zzlaws_internal_objects_b1.FnFileKindsInsertOneMember': WHATEVER THE INPUT: true; the input reads as it did. -/
def fnFileKindsInsertOneMemberSpec : ChangeSpec := { name := "fnFileKindsInsertOneMember", fn := fun _ => fun
  | [d1, d2, d3, d4, d5] => { results := [.lit (.bool true)], args := [d1, d2, d3, d4, d5] }
  | _ => none }
def fnFileKindsInsertOneMemberRow : OpenClaim := { program := "qxb6629077a", sum := "bb8266b96794d108c7dc86543011c5161307da960aaa79f9bbfe7d6b699bde12", func := "example.com/mayfly/mayfly/zzlaws_internal_objects_b1.FnFileKindsInsertOneMember", spec := "fnFileKindsInsertOneMember", apart := false }
def FnFileKindsInsertOneMemberSaid : Prop := fnFileKindsInsertOneMemberRow.holds Try.pinned (OpenSpec.ofChange fnFileKindsInsertOneMemberSpec)

/-- ITS FALSE NEIGHBOUR: 'it returns false'. Refute it at one input. -/
def fnFileKindsInsertOneMemberWrong : ChangeSpec := { name := "fnFileKindsInsertOneMember", fn := fun _ => fun
  | [d1, d2, d3, d4, d5] => { results := [.lit (.bool false)], args := [d1, d2, d3, d4, d5] }
  | _ => none }
def FnFileKindsInsertOneMemberWrongFalsely : Prop := fnFileKindsInsertOneMemberRow.holds Try.pinned (OpenSpec.ofChange fnFileKindsInsertOneMemberWrong)

/-- 'zzlaws_internal_objects_b1.FnFileKindsSplitAtEveryCut': WHATEVER THE INPUT: true; the input reads as it did. -/
def fnFileKindsSplitAtEveryCutSpec : ChangeSpec := { name := "fnFileKindsSplitAtEveryCut", fn := fun _ => fun
  | [d1, d2, d3, d4, d5] => { results := [.lit (.bool true)], args := [d1, d2, d3, d4, d5] }
  | _ => none }
def fnFileKindsSplitAtEveryCutRow : OpenClaim := { program := "qxb6629077a", sum := "bb8266b96794d108c7dc86543011c5161307da960aaa79f9bbfe7d6b699bde12", func := "example.com/mayfly/mayfly/zzlaws_internal_objects_b1.FnFileKindsSplitAtEveryCut", spec := "fnFileKindsSplitAtEveryCut", apart := false }
def FnFileKindsSplitAtEveryCutSaid : Prop := fnFileKindsSplitAtEveryCutRow.holds Try.pinned (OpenSpec.ofChange fnFileKindsSplitAtEveryCutSpec)

/-- ITS FALSE NEIGHBOUR: 'it returns false'. Refute it at one input. -/
def fnFileKindsSplitAtEveryCutWrong : ChangeSpec := { name := "fnFileKindsSplitAtEveryCut", fn := fun _ => fun
  | [d1, d2, d3, d4, d5] => { results := [.lit (.bool false)], args := [d1, d2, d3, d4, d5] }
  | _ => none }
def FnFileKindsSplitAtEveryCutWrongFalsely : Prop := fnFileKindsSplitAtEveryCutRow.holds Try.pinned (OpenSpec.ofChange fnFileKindsSplitAtEveryCutWrong)

end Rows
end Go.Proofs.Qxb6629077a
