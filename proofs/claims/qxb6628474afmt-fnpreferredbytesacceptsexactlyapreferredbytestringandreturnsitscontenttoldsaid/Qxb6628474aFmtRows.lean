/-
  No cell of these rows narrows 'for every input' (looked for: loops, veiled, ifaces, maps, wideKeys, modest, calm, conditions, laid).
  DERIVED. THE GIVEN ROWS OF THIS SEAT. 2 by the template 'for every input the law returns true; each argument reads behind the call as it read before'; 0 by the template 'total and deterministic' (their statements: Qxb6628474aFmtTotals.lean).
  GIVEN WITH THE SEED: the statements are not yours to turn. If you find one false, say at which input.
  Laid BY PROGRAM, IN A SANDBOX (cutbox-rows.mjs): the forced cells as the released guide's own fill.sh prints them over the translation 18c04b83d0420703… (all of the seat's roots in one cut). By AI agents, Wed Nov 11 2026. No macro, syntax, notation, axiom, sorry.
-/
import Derived.Test.Qxb6628474aFmtChecked
import GoSem.Claim
import GoSem.ClaimJoined
import GoSem.ClaimMapViews
import Derived.JoinedTies
import Derived.KernelRfl
namespace Go.Proofs.Qxb6628474aFmt
/- THE CELL 'sum', in the pinned program and in every row, IS THE sha256 OF THE DUMP (.gsa) THAT Qxb6628474aFmtProg.lean LOADS. Nothing in Lean hashes anything: it is a label: what it is worth is what the hold of that sum in a sandbox is worth. -/
noncomputable def Tryf.pinned : Pinned := { name := "qxb6628474afmt", sum := "18c04b83d0420703db3d848971d3ebd3d04665155144e811894aa65278922314", checked := Tryf.checked }
namespace Rows
def none {H : Type} : Left H := { results := [], args := [] }

/-- 'zzlaws_strictcbor_b1.FnPreferredBytesAcceptsExactlyAPreferredByteStringAndReturnsItsContent': WHATEVER THE INPUT: true; the input reads as it did. -/
def fnPreferredBytesAcceptsExactlyAPreferredByteStringAndReturnsItsContentSpec : ChangeSpec := { name := "fnPreferredBytesAcceptsExactlyAPreferredByteStringAndReturnsItsContent", fn := fun _ => fun
  | [d1, d2] => { results := [.lit (.bool true)], args := [d1, d2] }
  | _ => none }
def fnPreferredBytesAcceptsExactlyAPreferredByteStringAndReturnsItsContentRow : OpenClaim := { program := "qxb6628474afmt", sum := "18c04b83d0420703db3d848971d3ebd3d04665155144e811894aa65278922314", func := "example.com/rumorwire/rumorwire/zzlaws_strictcbor_b1.FnPreferredBytesAcceptsExactlyAPreferredByteStringAndReturnsItsContent", spec := "fnPreferredBytesAcceptsExactlyAPreferredByteStringAndReturnsItsContent", stops := ["fmt.errorf"], inPlace := ["fmt.errorf"], apart := false }
/-- NO THEOREM (fmt's text is open here; it may be false): for the released tool's asking of the row's closed facts alone. THE STATEMENT IS 'FnPreferredBytesAcceptsExactlyAPreferredByteStringAndReturnsItsContentToldSaid' (Qxb6628474aFmtCards.lean). -/
def FnPreferredBytesAcceptsExactlyAPreferredByteStringAndReturnsItsContentFormAsk : Prop := fnPreferredBytesAcceptsExactlyAPreferredByteStringAndReturnsItsContentRow.holds Tryf.pinned (OpenSpec.ofChange fnPreferredBytesAcceptsExactlyAPreferredByteStringAndReturnsItsContentSpec)

/-- ITS FALSE NEIGHBOUR: 'it returns false'. Refute it at one input. -/
def fnPreferredBytesAcceptsExactlyAPreferredByteStringAndReturnsItsContentWrong : ChangeSpec := { name := "fnPreferredBytesAcceptsExactlyAPreferredByteStringAndReturnsItsContent", fn := fun _ => fun
  | [d1, d2] => { results := [.lit (.bool false)], args := [d1, d2] }
  | _ => none }
def FnPreferredBytesAcceptsExactlyAPreferredByteStringAndReturnsItsContentWrongFormAsk : Prop := fnPreferredBytesAcceptsExactlyAPreferredByteStringAndReturnsItsContentRow.holds Tryf.pinned (OpenSpec.ofChange fnPreferredBytesAcceptsExactlyAPreferredByteStringAndReturnsItsContentWrong)

/-- 'zzlaws_strictcbor_b1.FnPreferredBytesNeverAcceptsATextAndItsOneByteLongerSelf': WHATEVER THE INPUT: true; the input reads as it did. -/
def fnPreferredBytesNeverAcceptsATextAndItsOneByteLongerSelfSpec : ChangeSpec := { name := "fnPreferredBytesNeverAcceptsATextAndItsOneByteLongerSelf", fn := fun _ => fun
  | [d1, d2, d3] => { results := [.lit (.bool true)], args := [d1, d2, d3] }
  | _ => none }
def fnPreferredBytesNeverAcceptsATextAndItsOneByteLongerSelfRow : OpenClaim := { program := "qxb6628474afmt", sum := "18c04b83d0420703db3d848971d3ebd3d04665155144e811894aa65278922314", func := "example.com/rumorwire/rumorwire/zzlaws_strictcbor_b1.FnPreferredBytesNeverAcceptsATextAndItsOneByteLongerSelf", spec := "fnPreferredBytesNeverAcceptsATextAndItsOneByteLongerSelf", stops := ["fmt.errorf"], inPlace := ["fmt.errorf"], apart := false }
/-- NO THEOREM (fmt's text is open here; it may be false): for the released tool's asking of the row's closed facts alone. THE STATEMENT IS 'FnPreferredBytesNeverAcceptsATextAndItsOneByteLongerSelfToldSaid' (Qxb6628474aFmtCards.lean). -/
def FnPreferredBytesNeverAcceptsATextAndItsOneByteLongerSelfFormAsk : Prop := fnPreferredBytesNeverAcceptsATextAndItsOneByteLongerSelfRow.holds Tryf.pinned (OpenSpec.ofChange fnPreferredBytesNeverAcceptsATextAndItsOneByteLongerSelfSpec)

/-- ITS FALSE NEIGHBOUR: 'it returns false'. Refute it at one input. -/
def fnPreferredBytesNeverAcceptsATextAndItsOneByteLongerSelfWrong : ChangeSpec := { name := "fnPreferredBytesNeverAcceptsATextAndItsOneByteLongerSelf", fn := fun _ => fun
  | [d1, d2, d3] => { results := [.lit (.bool false)], args := [d1, d2, d3] }
  | _ => none }
def FnPreferredBytesNeverAcceptsATextAndItsOneByteLongerSelfWrongFormAsk : Prop := fnPreferredBytesNeverAcceptsATextAndItsOneByteLongerSelfRow.holds Tryf.pinned (OpenSpec.ofChange fnPreferredBytesNeverAcceptsATextAndItsOneByteLongerSelfWrong)

end Rows
end Go.Proofs.Qxb6628474aFmt
