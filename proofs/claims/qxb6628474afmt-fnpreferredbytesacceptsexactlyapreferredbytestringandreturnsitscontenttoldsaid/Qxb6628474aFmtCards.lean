/-
  DERIVED. GIVEN WITH THE SEED: THE CARDS: each row of Qxb6628474aFmtRows.lean that lists a variable, with what it lists TIED to the program's text (the seventh form; the later family's looks); each row that meets fmt, with fmt's text TOLD by the authors' own Lean function (tested against real Go, not proved from fmt's source: count such statements apart). THE CARD IS WHAT COUNTS. Prove the row's statement (the work); the ties are given (Qxb6628474aFmtTie.lean); close each card by the builder's one call (the guide's Derived/Test/ToyasCard.lean, 'card_holds'). Laid BY PROGRAM, IN A SANDBOX (cutbox-door.mjs). By AI agents, Wed Nov 11 2026. No macro, syntax, notation, axiom, sorry.
-/
import Derived.Test.Qxb6628474aFmtRows
import GoSem.ClaimSeven
namespace Go.Proofs.Qxb6628474aFmt
namespace Rows

/-- THE TOLD CARD OF 'zzlaws_strictcbor_b1.FnPreferredBytesAcceptsExactlyAPreferredByteStringAndReturnsItsContent'. -/
def fnPreferredBytesAcceptsExactlyAPreferredByteStringAndReturnsItsContentCard : Claim7 := { stood := { row := fnPreferredBytesAcceptsExactlyAPreferredByteStringAndReturnsItsContentRow, standIns := [], harness := (true, "3039ddac85b4f9722872f6343c4e01adf2ba4a628f16c50952c6cc6238b0d6d4"), looks := false }, told := true, goes := false }
def FnPreferredBytesAcceptsExactlyAPreferredByteStringAndReturnsItsContentToldSaid : Prop := Claim7.holds Tryf.pinned (.plain (OpenSpec.ofChange fnPreferredBytesAcceptsExactlyAPreferredByteStringAndReturnsItsContentSpec)) fnPreferredBytesAcceptsExactlyAPreferredByteStringAndReturnsItsContentCard
/-- ITS FALSE NEIGHBOUR. Refute it at one input. -/
def FnPreferredBytesAcceptsExactlyAPreferredByteStringAndReturnsItsContentToldWrongFalsely : Prop := Claim7.holds Tryf.pinned (.plain (OpenSpec.ofChange fnPreferredBytesAcceptsExactlyAPreferredByteStringAndReturnsItsContentWrong)) fnPreferredBytesAcceptsExactlyAPreferredByteStringAndReturnsItsContentCard

/-- THE TOLD CARD OF 'zzlaws_strictcbor_b1.FnPreferredBytesNeverAcceptsATextAndItsOneByteLongerSelf'. -/
def fnPreferredBytesNeverAcceptsATextAndItsOneByteLongerSelfCard : Claim7 := { stood := { row := fnPreferredBytesNeverAcceptsATextAndItsOneByteLongerSelfRow, standIns := [], harness := (true, "3039ddac85b4f9722872f6343c4e01adf2ba4a628f16c50952c6cc6238b0d6d4"), looks := false }, told := true, goes := false }
def FnPreferredBytesNeverAcceptsATextAndItsOneByteLongerSelfToldSaid : Prop := Claim7.holds Tryf.pinned (.plain (OpenSpec.ofChange fnPreferredBytesNeverAcceptsATextAndItsOneByteLongerSelfSpec)) fnPreferredBytesNeverAcceptsATextAndItsOneByteLongerSelfCard
/-- ITS FALSE NEIGHBOUR. Refute it at one input. -/
def FnPreferredBytesNeverAcceptsATextAndItsOneByteLongerSelfToldWrongFalsely : Prop := Claim7.holds Tryf.pinned (.plain (OpenSpec.ofChange fnPreferredBytesNeverAcceptsATextAndItsOneByteLongerSelfWrong)) fnPreferredBytesNeverAcceptsATextAndItsOneByteLongerSelfCard
end Rows
end Go.Proofs.Qxb6628474aFmt
