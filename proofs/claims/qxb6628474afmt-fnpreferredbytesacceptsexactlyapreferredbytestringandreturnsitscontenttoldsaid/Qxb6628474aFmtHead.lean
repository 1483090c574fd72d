/-
  strictcbor.head at place 0, by its contract; strictcbor.HeadSize.
-/
import Derived.Test.Qxb6628474aFmtErrs
import Derived.Test.Qxb6628474aFmtPlain
import Derived.Deep.QuietTactic
import Derived.BigQuiet
import Derived.Laws.BitsLemmas
namespace Go.Proofs.Qxb6628474aFmt
open Go.RowKit Go.Extern.Stop Go.Stop Go.Extern
set_option linter.unusedVariables false

theorem headSize_any (a : Int) (w : World) (h0 : 0 ≤ a) : Calls Tryf.prog 16 #[.int .u64 a] w fun e w' => e = .returned (.int .i64 (hsz a)) ∧ w' = w := by
  by_cases h1 : a < 24
  · rw [hsz1 h1]; go_enter Tryf.func16, Tryf.ntmps16; go_wp2; go_ret; exact ⟨rfl, rfl⟩
  by_cases h2 : a ≤ 255
  · rw [hsz2 (by omega) h2]; go_enter Tryf.func16, Tryf.ntmps16; go_wp2; go_ret; exact ⟨rfl, rfl⟩
  by_cases h3 : a ≤ 65535
  · rw [hsz3 (by omega) h3]; go_enter Tryf.func16, Tryf.ntmps16; go_wp2; go_ret; exact ⟨rfl, rfl⟩
  by_cases h4 : a ≤ 4294967295
  · rw [hsz5 (by omega) h4]; go_enter Tryf.func16, Tryf.ntmps16; go_wp2; go_ret; exact ⟨rfl, rfl⟩
  · rw [hsz9 (by omega)]; go_enter Tryf.func16, Tryf.ntmps16; go_wp2; go_ret; exact ⟨rfl, rfl⟩

/-- The four results of a refusal. -/
def Refuses (w : World) (e : Ending) (w' : World) : Prop :=
  (∃ ad : Addr, e = .returned (.tuple #[.int .u8 0, .int .u64 0, .int .i64 0, .iface 45 (.pointer (some ad))])) ∧ Below w.heap.size w w'
def Gives (w : World) (m a h : Int) (e : Ending) (w' : World) : Prop :=
  e = .returned (.tuple #[.int .u8 m, .int .u64 a, .int .i64 h, .nilIface]) ∧ Below w.heap.size w w'

theorem step_or (x c : Int) (h0 : 0 ≤ x) (h1 : x < 72057594037927936) (c0 : 0 ≤ c) (c1 : c ≤ 255) :
    bits BinOp.or IntKind.u64 (IntKind.u64.wrap (x * 256)) (IntKind.u64.wrap c) = x * 256 + c := by
  rw [IntWalk.u64_in _ (by omega), IntWalk.u64_in _ (by omega)]
  exact bits_join .u64 64 (by decide) (fun n a b => IntWalk.u64_in n (by omega)) 8 _ _ (by omega) (by omega) (by omega) (by omega) (by omega) (by omega)

theorem head_empty (F : Interp) (a : Option Addr) (cap : Nat) (nm : ByteArray) (w : World) (hF : F.answers w.tape) :
    Calls Tryf.prog 13 #[.slice a 0 cap, .int .i64 0, .string nm] w fun e w' => Refuses w e w' := by
  go_enter Tryf.func13, Tryf.ntmps13
  go_wp2_with (go_at_call 17; refine (cutShort_any F _ _ _ (by exact hF)).mono ?_; rintro e w' ⟨⟨ad, rfl⟩, hb⟩)
  exact bodyPost_ret (v := .tuple #[.int .u8 0, .int .u64 0, .int .i64 0, .iface 45 (.pointer (some ad))]) (by simp [results, Tryf.results13, go_sem]) rfl ⟨⟨_, rfl⟩, hb⟩


theorem below_after {w w' : World} {o : Obj} {k : Nat} (hb : Below ((w.drewN k).alloc o).heap.size ((w.drewN k).alloc o) w') : Below w.heap.size w w' :=
  (((below_drewN (Below.refl w.heap.size w) k).alloc (by simp) o)).trans (hb.mono (by simp))
theorem below_after' {w w' : World} {k : Nat} (hb : Below (w.drewN k).heap.size (w.drewN k) w') : Below w.heap.size w w' :=
  ((below_drewN (Below.refl w.heap.size w) k)).trans (hb.mono (by simp))

set_option maxHeartbeats 400000 in
theorem head_small (F : Interp) (b0 : Int) (n cap g : Nat) (nm : ByteArray) (w : World) (hF : F.answers w.tape) (h0 : 0 ≤ b0) (h1 : b0 ≤ 255) (hn : 0 < n) (hN : n ≤ 2000000) (hcap : n ≤ cap)
    (hc0 : w.cell? ⟨g, 0, none⟩ = some (.int .u8 b0)) (hi : b0 % 32 < 24) :
    Calls Tryf.prog 13 #[.slice (some ⟨g, 0, none⟩) n cap, .int .i64 0, .string nm] w fun e w' => Gives w (b0 / 32) (b0 % 32) 1 e w' := by
  clear hF
  go_enter Tryf.func13, Tryf.ntmps13
  go_wp2_with fail
  go_quiet (fail)
  go_wp2
  exact bodyPost_ret (v := .tuple #[.int .u8 (b0 / 32), .int .u64 (b0 % 32), .int .i64 1, .nilIface]) (by simp [results, Tryf.results13, go_sem]) rfl ⟨rfl, below_drewN (Below.refl _ _) _⟩

set_option maxHeartbeats 400000 in
theorem head_indef (F : Interp) (b0 : Int) (n cap g : Nat) (nm : ByteArray) (w : World) (hF : F.answers w.tape) (h0 : 0 ≤ b0) (h1 : b0 ≤ 255) (hn : 0 < n) (hN : n ≤ 2000000) (hcap : n ≤ cap)
    (hc0 : w.cell? ⟨g, 0, none⟩ = some (.int .u8 b0)) (e31 : b0 % 32 = 31) (e2 : 2 ≤ b0 / 32) (e5 : b0 / 32 ≤ 5) :
    Calls Tryf.prog 13 #[.slice (some ⟨g, 0, none⟩) n cap, .int .i64 0, .string nm] w fun e w' => Refuses w e w' := by
  go_enter Tryf.func13, Tryf.ntmps13
  go_wp2_with fail
  go_quiet (fail)
  go_wp2_with fail
  refine (errorf2 F _ nm 0 _ _ (by exact hF) fmt2 ?c1 ?c2).mono ?_
  case c1 => exact World.cell?_alloc_at _ _ _ _ rfl
  case c2 => exact World.cell?_alloc_at _ _ _ _ rfl
  rintro e w' ⟨⟨ad, rfl⟩, hb⟩
  go_wp2
  refine bodyPost_ret (v := .tuple #[.int .u8 0, .int .u64 0, .int .i64 0, .iface 45 (.pointer (some ad))]) (by simp [results, Tryf.results13, go_sem]) rfl ⟨⟨_, rfl⟩, ?_⟩
  exact below_after hb

set_option maxHeartbeats 400000 in
theorem head_big (F : Interp) (b0 : Int) (n cap g : Nat) (nm : ByteArray) (w : World) (hF : F.answers w.tape) (h0 : 0 ≤ b0) (h1 : b0 ≤ 255) (hn : 0 < n) (hN : n ≤ 2000000) (hcap : n ≤ cap)
    (hc0 : w.cell? ⟨g, 0, none⟩ = some (.int .u8 b0)) (hi : 27 < b0 % 32) (hx : ¬ (b0 % 32 = 31 ∧ 2 ≤ b0 / 32 ∧ b0 / 32 ≤ 5)) :
    Calls Tryf.prog 13 #[.slice (some ⟨g, 0, none⟩) n cap, .int .i64 0, .string nm] w fun e w' => Refuses w e w' := by
  by_cases h31 : b0 % 32 = 31
  · by_cases h2 : 2 ≤ b0 / 32
    · have h5 : 5 < b0 / 32 := by omega
      clear hx
      go_enter Tryf.func13, Tryf.ntmps13
      go_wp2_with fail
      go_quiet (fail)
      go_wp2_with (go_at_call 18; refine (notWell_any F _ _ _ (by exact hF)).mono ?_; rintro e w' ⟨⟨ad, rfl⟩, hb⟩)
      exact bodyPost_ret (v := .tuple #[.int .u8 0, .int .u64 0, .int .i64 0, .iface 45 (.pointer (some ad))]) (by simp [results, Tryf.results13, go_sem]) rfl ⟨⟨_, rfl⟩, below_after' hb⟩
    · clear hx
      go_enter Tryf.func13, Tryf.ntmps13
      go_wp2_with fail
      go_quiet (fail)
      go_wp2_with (go_at_call 18; refine (notWell_any F _ _ _ (by exact hF)).mono ?_; rintro e w' ⟨⟨ad, rfl⟩, hb⟩)
      exact bodyPost_ret (v := .tuple #[.int .u8 0, .int .u64 0, .int .i64 0, .iface 45 (.pointer (some ad))]) (by simp [results, Tryf.results13, go_sem]) rfl ⟨⟨_, rfl⟩, below_after' hb⟩
  · clear hx
    go_enter Tryf.func13, Tryf.ntmps13
    go_wp2_with fail
    go_quiet (fail)
    go_wp2_with (go_at_call 18; refine (notWell_any F _ _ _ (by exact hF)).mono ?_; rintro e w' ⟨⟨ad, rfl⟩, hb⟩)
    exact bodyPost_ret (v := .tuple #[.int .u8 0, .int .u64 0, .int .i64 0, .iface 45 (.pointer (some ad))]) (by simp [results, Tryf.results13, go_sem]) rfl ⟨⟨_, rfl⟩, below_after' hb⟩

set_option maxHeartbeats 400000 in
theorem head_float (F : Interp) (b0 : Int) (n cap g : Nat) (nm : ByteArray) (w : World) (hF : F.answers w.tape) (h0 : 0 ≤ b0) (h1 : b0 ≤ 255) (hn : 0 < n) (hN : n ≤ 2000000) (hcap : n ≤ cap)
    (hc0 : w.cell? ⟨g, 0, none⟩ = some (.int .u8 b0)) (hi : 24 < b0 % 32) (hj : b0 % 32 ≤ 27) (h7 : b0 / 32 = 7) :
    Calls Tryf.prog 13 #[.slice (some ⟨g, 0, none⟩) n cap, .int .i64 0, .string nm] w fun e w' => Refuses w e w' := by
  go_enter Tryf.func13, Tryf.ntmps13
  go_wp2_with fail
  go_quiet (fail)
  go_wp2_with fail
  refine (errorf2 F _ nm 0 _ _ (by exact hF) fmt3 ?c1 ?c2).mono ?_
  case c1 => exact World.cell?_alloc_at _ _ _ _ rfl
  case c2 => exact World.cell?_alloc_at _ _ _ _ rfl
  rintro e w' ⟨⟨ad, rfl⟩, hb⟩
  go_wp2
  refine bodyPost_ret (v := .tuple #[.int .u8 0, .int .u64 0, .int .i64 0, .iface 45 (.pointer (some ad))]) (by simp [results, Tryf.results13, go_sem]) rfl ⟨⟨_, rfl⟩, ?_⟩
  exact below_after hb

theorem pow_top : ∀ k, k < 8 → (256 : Int) ^ k ≤ 72057594037927936 := by decide

theorem be_step {zs : List Int} (hb : Bytes zs) (k : Nat) (hk : k < 8) :
    bits BinOp.or IntKind.u64 (IntKind.u64.wrap (be zs k * 256)) (IntKind.u64.wrap (zs[1 + k]?.getD 0)) = be zs (k + 1) := by
  have h1 := be_bounds hb k
  have h2 := hb (1 + k)
  rw [List.getD_eq_getElem?_getD] at h2
  have h3 := pow_top k hk
  rw [step_or _ _ h1.1 (by omega) h2.1 h2.2]
  simp only [be, List.getD_eq_getElem?_getD, Nat.add_comm]

end Go.Proofs.Qxb6628474aFmt
