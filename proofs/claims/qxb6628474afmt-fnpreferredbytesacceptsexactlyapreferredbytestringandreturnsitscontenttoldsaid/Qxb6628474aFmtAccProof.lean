/-
  The told card of FnPreferredBytesAcceptsExactlyAPreferredByteStringAndReturnsItsContent.
-/
import Derived.Test.Qxb6628474aFmtAcc
import Derived.Test.Qxb6628474aFmtCardKit
import Derived.Test.Qxb6628474aFmtCards
import Derived.ProofKit
import Derived.OpenShut
import Derived.ShutString
import Derived.ChangeOld
import Derived.Stop.JoinedTold
import Derived.SevenToldRow
namespace Go.Proofs.Qxb6628474aFmt
open Go.ChangeShapes Go.WideShapes Go.ChangeAt Go.RowKit
open Go.ChangeMaps (open_string shut_string)
open Go.Extern.Stop Go.Stop Go.Extern
set_option linter.unusedVariables false

theorem acc_walk (F : Interp) (a : Option Addr) (len cap : Nat) (zs : List Int) (nm : ByteArray) (w : World) (hF : F.answers w.tape) (h0 : IsRow w a len cap zs) :
    Calls Tryf.prog 3 #[.slice a len cap, .string nm] w fun e w' => e = .returned (.bool true) ∧ Below w.heap.size w w' := by
  rcases h0 with ⟨rfl, rfl, rfl, rfl⟩ | ⟨ad, rfl, hl, hm, hz, hc, hw⟩
  · by_cases hin : nm.size ≤ 1048576
    · exact acc_none F nm w hF hin
    · exact acc_out none 0 0 nm w (by omega) (by unfold maxLen; omega)
  · by_cases hin : len + nm.size ≤ 1048576
    · have hlen : (zs.take len).length = len := by rw [List.length_take]; omega
      cases hp : pb (zs.take len) with
      | none =>
        have := acc_no F (zs.take len) ad cap nm w hF (bytes_take hw _) (by omega) (cells_take hc) hp
        rw [hlen] at this
        exact this
      | some h0 =>
        have := acc_yes F (zs.take len) ad cap nm w hF (bytes_take hw _) (by omega) (cells_take hc) h0 hp
        rw [hlen] at this
        exact this
    · exact acc_out (some ad) len cap nm w (by omega) (by omega)

set_option maxRecDepth 100000 in
theorem acc_lifted (os : Os) (started : os.Started) (H : Type) (enc : TypeId × Value → H) :
    ReturnsInTold none {} Tryf.checked os 3 .any Input.okWide ((OpenSpec.ofChange Rows.fnPreferredBytesAcceptsExactlyAPreferredByteStringAndReturnsItsContentSpec).preRow enc Tryf.prog Tryf.f3 [] false [])
      (fun F => ((OpenSpec.ofChange Rows.fnPreferredBytesAcceptsExactlyAPreferredByteStringAndReturnsItsContentSpec).at F).post enc Tryf.prog Tryf.f3 false true false false) (aloneAtReturn Tryf.prog) nothingAlways := by
  refine returnsInTold_of_row (C := Tryf.checked) (s := OpenSpec.ofChange Rows.fnPreferredBytesAcceptsExactlyAPreferredByteStringAndReturnsItsContentSpec) (by kernel_rfl) own started (by kernel_rfl) Tryf.func3
    (OpenSpec.witness_stopped (enc := enc) (C := Tryf.checked) false ⟨#[], #[.slice none 0 0, .string ⟨#[]⟩], []⟩ 8 (by kernel_rfl) (by kernel_rfl) (by kernel_rfl) (by kernel_rfl)) ?_
  intro F W base args ds gs before _ hF hval0 hW _ _ hsz _ _
  have hval : ∀ (j : Nat) t v, Tryf.f3.params[j]? = some t → args[j]? = some v → Value.okWide Tryf.prog W .any base t v := hval0
  have hW' := hW
  obtain ⟨p, q, hA0, hV, rfl, hfz, hnd⟩ := hW
  have hA : DataW.TrodAll enc Tryf.prog W 0 (fun _ => true) true Tryf.f3.params.toList args.toList ds p := hA0
  rw [Tryf.params3] at hA hval
  obtain ⟨v0, vs0, d0, ds0, p0, q0, hargs, rfl, rfl, h0, r0⟩ := trodAll_cons hA
  obtain ⟨v1, vs1, d1, ds1, p1, q1, rfl, rfl, rfl, h1, r1⟩ := trodAll_cons r0
  obtain ⟨rfl, rfl, rfl⟩ := trodAll_nil r1
  obtain rfl : args = #[v0, v1] := by cases args; simp_all
  obtain ⟨rfl, rfl⟩ := trodVars_none hV
  obtain ⟨a0, len0, cap0, rfl⟩ := okWide_slice Tryf.underlying22 (hval 0 22 v0 rfl rfl)
  have k0 := h0
  have lt0 : ∀ x ∈ p0, x.block < W.heap.size := by obtain ⟨m, hm⟩ := k0; exact DataW.trod_lt m _ _ _ hm
  obtain ⟨z0, w0⟩ : ∃ zs, IsRow W a0 len0 cap0 zs := by
    obtain ⟨fuel, hf⟩ := h0
    rcases open_ints Tryf.underlying22 Tryf.underlying5 (by kernel_rfl) hf with ⟨hcs, _⟩ | ⟨x, l, c, zs, hcs, _, hl, hm, hz, _, hcell, hwz⟩
    · simp [Value.cells] at hcs
      obtain ⟨rfl, rfl, rfl⟩ := hcs
      exact ⟨[], .inl ⟨rfl, rfl, rfl, rfl⟩⟩
    · simp [Value.cells] at hcs
      obtain ⟨rfl, rfl, rfl⟩ := hcs
      exact ⟨zs, .inr ⟨_, rfl, hl, hm, by simpa using hz, hcell, hwz⟩⟩
  obtain ⟨nm, rfl, rfl, rfl, w2⟩ := open_string Tryf.underlying9 (hval 1 9 v1 rfl rfl) h1
  clear hA0 hval0
  refine (acc_walk F.told a0 len0 cap0 z0 nm W hF w0).mono fun e W' ⟨he, bel⟩ => ?_
  subst he
  exact ⟨_, rfl, _, _, _, [], _, [], hW', trodAll_mk1 (shut_bool Tryf.underlying4 _), (trodAll_cons_mk (Below.trod laidOut (by kernel_rfl) (of_decide_eq_true (by kernel_rfl)) k0 bel lt0) (trodAll_cons_mk (shut_string Tryf.underlying9 w2) trodAll_mk0)), rfl, bel.frame _, fun h => by cases h⟩

theorem acc_holds : Rows.FnPreferredBytesAcceptsExactlyAPreferredByteStringAndReturnsItsContentToldSaid :=
  Claim7.holds_of_told_any 3 Tryf.f3 "fmt.errorf" [] [] _ _ _ (by kernel_rfl) rfl rfl rfl laidOut (by kernel_rfl) rfl ⟨rfl, rfl, rfl, rfl, rfl, rfl, rfl⟩ rfl rfl (by kernel_rfl) (by kernel_rfl) Tryf.func3 (by kernel_rfl)
    (of_decide_eq_true (by kernel_rfl)) (by unfold Func.isWrapper; rw [if_neg (of_decide_eq_false (by kernel_rfl))]; exact ⟨rfl, rfl⟩) stopsAre.symm rfl stopKnobs.symm (by kernel_rfl)
    (by kernel_rfl) (by kernel_rfl) (by kernel_rfl) (by kernel_rfl) (by kernel_rfl) (by kernel_rfl) (by kernel_rfl) (by kernel_rfl) (by kernel_rfl) rfl (by kernel_rfl) rfl rfl
    rfl rfl
    rfl (by kernel_rfl) (by kernel_rfl) (by kernel_rfl) (by decide) (by kernel_rfl)
    (OpenClaim.moreEntering_of (by kernel_rfl) (by kernel_rfl) (by kernel_rfl) (by kernel_rfl) (by kernel_rfl) (by kernel_rfl) (by kernel_rfl) (by kernel_rfl) (by kernel_rfl) (by kernel_rfl))
    ⟨_, WideRow.started_initial, quietAll _⟩
    (fun os started _ H enc _ => acc_lifted os started H enc)

end Go.Proofs.Qxb6628474aFmt
