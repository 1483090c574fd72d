/-
  strictcbor.head at place 0 where the argument follows the first byte in 2 bytes.
-/
import Derived.Test.Qxb6628474aFmtHead
namespace Go.Proofs.Qxb6628474aFmt
open Go.RowKit Go.Extern.Stop Go.Stop Go.Extern
set_option linter.unusedVariables false

set_option maxHeartbeats 400000 in
theorem h25_short (F : Interp) (b0 : Int) (n cap g : Nat) (nm : ByteArray) (w : World) (hF : F.answers w.tape) (h0 : 0 ≤ b0) (h1 : b0 ≤ 255) (hn : 0 < n) (hN : n ≤ 2000000) (hcap : n ≤ cap)
    (hc0 : w.cell? ⟨g, 0, none⟩ = some (.int .u8 b0)) (hi : b0 % 32 = 25) (h7 : (b0 / 32 == 7) = false) (hs : n < 3) :
    Calls Tryf.prog 13 #[.slice (some ⟨g, 0, none⟩) n cap, .int .i64 0, .string nm] w fun e w' => Refuses w e w' := by
  go_enter Tryf.func13, Tryf.ntmps13
  go_wp2_with fail
  go_quiet (fail)
  go_wp2_with (go_at_call 17; refine (cutShort_any F _ _ _ (by exact hF)).mono ?_; rintro e w' ⟨⟨ad, rfl⟩, hb⟩)
  exact bodyPost_ret (v := .tuple #[.int .u8 0, .int .u64 0, .int .i64 0, .iface 45 (.pointer (some ad))]) (by simp [results, Tryf.results13, go_sem]) rfl ⟨⟨_, rfl⟩, below_after' hb⟩

set_option maxHeartbeats 400000 in
theorem h25_low (F : Interp) (b0 : Int) (n cap g : Nat) (nm : ByteArray) (w : World) (hF : F.answers w.tape) (h0 : 0 ≤ b0) (h1 : b0 ≤ 255) (hn : 0 < n) (hN : n ≤ 2000000) (hcap : n ≤ cap)
    (hc0 : w.cell? ⟨g, 0, none⟩ = some (.int .u8 b0)) (zs : List Int) (hb : Bytes zs) (hi : b0 % 32 = 25) (hs : 3 ≤ n) (h7 : (b0 / 32 == 7) = false) (ha : be zs 2 < 256)
    (hc : ∀ k, k < n → w.cell? ⟨g, k, none⟩ = some (.int .u8 (zs.getD k 0))) :
    Calls Tryf.prog 13 #[.slice (some ⟨g, 0, none⟩) n cap, .int .i64 0, .string nm] w fun e w' => Refuses w e w' := by
  go_enter Tryf.func13, Tryf.ntmps13
  go_wp2_with fail
  go_quiet (fail)
  go_wp2_with fail
  go_loop [14, 99] (fun a i => ∃ k : Nat, k ≤ 2 ∧ i = .int .i64 k ∧ a = .int .u64 (be zs k)) (fun _ i => 2 - (intOf i).toNat)
  case atStart => exact ⟨0, Nat.zero_le _, rfl, rfl⟩
  case round =>
    obtain ⟨k, hk, rfl, rfl⟩ := hrel
    have hbk := be_bounds hb k
    by_cases hlt : k < 2
    · have hck := hc (1 + k) (by omega)
      have HS : Hid (bits BinOp.or IntKind.u64 (IntKind.u64.wrap (be zs k * 256)) (IntKind.u64.wrap (zs[1 + k]?.getD 0)) = be zs (k + 1)) := be_step hb k (by omega)
      clear hc hbk
      go_wp2
      go_round
      case rel => exact ⟨k + 1, by omega, by go_num, by rw [HS.out]⟩
      case measure => simp [intOf]; omega
    · obtain rfl : k = 2 := by omega

      go_wp2_with (go_at_call 16; refine (headSize_any _ _ (by omega)).mono ?_; rintro e w' ⟨rfl, rfl⟩)
      refine (errorf5 F _ nm (be zs 2) 0 3 (hsz (be zs 2)) _ _ (by exact hF) fmt4 ?c0 ?c1 ?c2 ?c3 ?c4).mono ?_
      case c0 => exact World.cell?_alloc_at _ _ _ _ rfl
      case c1 => exact World.cell?_alloc_at _ _ _ _ rfl
      case c2 => exact World.cell?_alloc_at _ _ _ _ rfl
      case c3 => exact World.cell?_alloc_at _ _ _ _ rfl
      case c4 => exact World.cell?_alloc_at _ _ _ _ rfl
      rintro e w' ⟨⟨ad, rfl⟩, hb'⟩
      go_wp2
      refine bodyPost_ret (v := .tuple #[.int .u8 0, .int .u64 0, .int .i64 0, .iface 45 (.pointer (some ad))]) (by simp [results, Tryf.results13, go_sem]) rfl ⟨⟨_, rfl⟩, ?_⟩
      exact below_after hb'

set_option maxHeartbeats 400000 in
theorem h25_ok (F : Interp) (b0 : Int) (n cap g : Nat) (nm : ByteArray) (w : World) (hF : F.answers w.tape) (h0 : 0 ≤ b0) (h1 : b0 ≤ 255) (hn : 0 < n) (hN : n ≤ 2000000) (hcap : n ≤ cap)
    (hc0 : w.cell? ⟨g, 0, none⟩ = some (.int .u8 b0)) (zs : List Int) (hb : Bytes zs) (hi : b0 % 32 = 25) (hs : 3 ≤ n) (h7 : (b0 / 32 == 7) = false) (ha : 256 ≤ be zs 2)
    (hc : ∀ k, k < n → w.cell? ⟨g, k, none⟩ = some (.int .u8 (zs.getD k 0))) :
    Calls Tryf.prog 13 #[.slice (some ⟨g, 0, none⟩) n cap, .int .i64 0, .string nm] w fun e w' => Gives w (b0 / 32) (be zs 2) 3 e w' := by
  go_enter Tryf.func13, Tryf.ntmps13
  go_wp2_with fail
  go_quiet (fail)
  go_wp2_with fail
  go_loop [14, 99] (fun a i => ∃ k : Nat, k ≤ 2 ∧ i = .int .i64 k ∧ a = .int .u64 (be zs k)) (fun _ i => 2 - (intOf i).toNat)
  case atStart => exact ⟨0, Nat.zero_le _, rfl, rfl⟩
  case round =>
    obtain ⟨k, hk, rfl, rfl⟩ := hrel
    have hbk := be_bounds hb k
    by_cases hlt : k < 2
    · have hck := hc (1 + k) (by omega)
      have HS : Hid (bits BinOp.or IntKind.u64 (IntKind.u64.wrap (be zs k * 256)) (IntKind.u64.wrap (zs[1 + k]?.getD 0)) = be zs (k + 1)) := be_step hb k (by omega)
      clear hc hbk
      go_wp2
      go_round
      case rel => exact ⟨k + 1, by omega, by go_num, by rw [HS.out]⟩
      case measure => simp [intOf]; omega
    · obtain rfl : k = 2 := by omega

      go_wp2
      exact bodyPost_ret (v := .tuple #[.int .u8 (b0 / 32), .int .u64 (be zs 2), .int .i64 3, .nilIface]) (by simp [results, Tryf.results13, go_sem]) rfl ⟨rfl, below_drewN (Below.refl _ _) _⟩

end Go.Proofs.Qxb6628474aFmt
