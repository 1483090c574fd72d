/-
  DERIVED. GIVEN WITH THE SEED: THE CARDS: each row of Qxb6629031aFmtRows.lean that lists a variable, with what it lists TIED to the program's text (the seventh form; the later family's looks); each row that meets fmt, with fmt's text TOLD by the authors' own Lean function (tested against real Go, not proved from fmt's source: count such statements apart). THE CARD IS WHAT COUNTS. Prove the row's statement (the work); the ties are given (Qxb6629031aFmtTie.lean); close each card by the builder's one call (the guide's Derived/Test/ToyasCard.lean, 'card_holds'). Laid BY PROGRAM, IN A SANDBOX (cutbox-door.mjs). By AI agents, Wed Nov 11 2026. No macro, syntax, notation, axiom, sorry.
-/
import Derived.Test.Qxb6629031aFmtRows
import GoSem.ClaimSeven
namespace Go.Proofs.Qxb6629031aFmt
namespace Rows

/-- THE TOLD AND TIED CARD OF 'zzlaws_taskfile_b1.FnPlainIsTheLineTableOfKeptTasks'. -/
def fnPlainIsTheLineTableOfKeptTasksCard : Claim7 := { stood := { row := fnPlainIsTheLineTableOfKeptTasksRow, standIns := [], harness := (true, "c6331bd3d77f80495664d11742d16824159c79aaa549b377af0b5a4a590a9786"), looks := true }, told := true, laidByText := true, laidKinds := [.data, .data, .data, .called, .called], laidTests := true, laidLooks := .later, goes := false }
def FnPlainIsTheLineTableOfKeptTasksToldSaid : Prop := Claim7.holds Tryf.pinned (.plain (OpenSpec.ofChange fnPlainIsTheLineTableOfKeptTasksSpec)) fnPlainIsTheLineTableOfKeptTasksCard
/-- ITS FALSE NEIGHBOUR. Refute it at one input. -/
def FnPlainIsTheLineTableOfKeptTasksToldWrongFalsely : Prop := Claim7.holds Tryf.pinned (.plain (OpenSpec.ofChange fnPlainIsTheLineTableOfKeptTasksWrong)) fnPlainIsTheLineTableOfKeptTasksCard

/-- THE TOLD AND TIED CARD OF 'zzlaws_taskfile_b1.FnPlainSplicesAtAnyCut'. -/
def fnPlainSplicesAtAnyCutCard : Claim7 := { stood := { row := fnPlainSplicesAtAnyCutRow, standIns := [], harness := (true, "c6331bd3d77f80495664d11742d16824159c79aaa549b377af0b5a4a590a9786"), looks := true }, told := true, laidByText := true, laidKinds := [.data, .data, .data, .called, .called], laidTests := true, laidLooks := .later, goes := false }
def FnPlainSplicesAtAnyCutToldSaid : Prop := Claim7.holds Tryf.pinned (.plain (OpenSpec.ofChange fnPlainSplicesAtAnyCutSpec)) fnPlainSplicesAtAnyCutCard
/-- ITS FALSE NEIGHBOUR. Refute it at one input. -/
def FnPlainSplicesAtAnyCutToldWrongFalsely : Prop := Claim7.holds Tryf.pinned (.plain (OpenSpec.ofChange fnPlainSplicesAtAnyCutWrong)) fnPlainSplicesAtAnyCutCard
end Rows
end Go.Proofs.Qxb6629031aFmt
