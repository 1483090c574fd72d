/-
  zzSameBytes, zzTailAgrees, the two guards on lengths.
-/
import Derived.Test.Qxb6628474aFmtPref
namespace Go.Proofs.Qxb6628474aFmt
open Go.RowKit Go.Extern.Stop Go.Stop Go.Extern
set_option linter.unusedVariables false

theorem same_empty (a b : Option Addr) (ca cb : Nat) (w : World) :
    Calls Tryf.prog 10 #[.slice a 0 ca, .slice b 0 cb] w fun e w' => e = .returned (.bool true) ∧ w' = w := by
  go_enter Tryf.func10, Tryf.ntmps10
  go_wp2
  refine wp_loop_rounds 1 ?_
  rw [rounds_succ]
  go_wp2
  go_ret
  exact ⟨rfl, rfl⟩

set_option maxHeartbeats 400000 in
theorem same_eq (ga oa gb ob n ca cb : Nat) (f : Nat → Int) (w : World) (hn : n ≤ 2000000)
    (ha : ∀ k, k < n → w.cell? ⟨ga, oa + k, none⟩ = some (.int .u8 (f k))) (hb : ∀ k, k < n → w.cell? ⟨gb, ob + k, none⟩ = some (.int .u8 (f k))) :
    Calls Tryf.prog 10 #[.slice (some ⟨ga, oa, none⟩) n ca, .slice (some ⟨gb, ob, none⟩) n cb] w fun e w' => e = .returned (.bool true) ∧ ∃ k, w' = w.drewN k := by
  go_enter Tryf.func10, Tryf.ntmps10
  go_wp2
  go_loopw [5] (fun i wr => ∃ k j : Nat, k ≤ n ∧ i = .int .i64 k ∧ wr = w.drewN j) (fun i _ => n - (intOf i).toNat)
  case atStart => exact ⟨0, 0, Nat.zero_le _, rfl, rfl⟩
  case round =>
    obtain ⟨k, j, hk, rfl, rfl⟩ := hrel
    by_cases hlt : k < n
    · have hak := ha k hlt
      have hbk := hb k hlt
      clear ha hb
      have hlt' : (k : Int) < n := by omega
      go_wp2
      go_quiet (fail)
      go_wp2
      go_roundw
      case rel => exact ⟨k + 1, _, by omega, by go_num, rfl⟩
      case measure => simp [intOf]; omega
    · clear ha hb
      go_wp2
      go_ret
      exact ⟨rfl, _, rfl⟩

theorem headSize_is (a : Int) (h : Nat) (w : World) (h0 : 0 ≤ a) (hz : Hid ((h : Int) = hsz a)) : Calls Tryf.prog 16 #[.int .u64 a] w fun e w' => e = .returned (.int .i64 h) ∧ w' = w := by
  rw [hz.out]; exact headSize_any a w h0

theorem tail_no (a b : Value) (w : World) : Calls Tryf.prog 12 #[a, b, .bool false] w fun e w' => e = .returned (.bool true) ∧ w' = w := by
  go_enter Tryf.func12, Tryf.ntmps12
  go_wp2
  go_ret
  exact ⟨rfl, rfl⟩

set_option maxHeartbeats 400000 in
theorem tail_yes0 (g h off : Nat) (w : World) (hN : h ≤ 2000000) (hz : Hid ((h : Int) = hsz 0)) :
    Calls Tryf.prog 12 #[.slice (some ⟨g, 0, none⟩) h h, .slice (some ⟨g, off, none⟩) 0 0, .bool true] w fun e w' => e = .returned (.bool true) ∧ ∃ k, w' = w.drewN k := by
  go_enter Tryf.func12, Tryf.ntmps12
  go_wp2_with fail
  refine (headSize_is 0 h _ (by omega) hz).mono ?_
  rintro e w' ⟨rfl, rfl⟩
  go_wp2_with fail
  refine (same_empty _ _ _ _ _).mono ?_
  rintro e w1 ⟨rfl, rfl⟩
  go_wp2
  go_ret
  exact ⟨rfl, 0, rfl⟩

set_option maxHeartbeats 400000 in
theorem tail_yes1 (g h n : Nat) (f : Nat → Int) (w : World) (hN : h + n ≤ 2000000) (hn : 0 < n) (hz : Hid ((h : Int) = hsz n))
    (hc : ∀ k, k < n → w.cell? ⟨g, h + k, none⟩ = some (.int .u8 (f k))) :
    Calls Tryf.prog 12 #[.slice (some ⟨g, 0, none⟩) (h + n) (h + n), .slice (some ⟨g, h, none⟩) n n, .bool true] w fun e w' => e = .returned (.bool true) ∧ ∃ k, w' = w.drewN k := by
  go_enter Tryf.func12, Tryf.ntmps12
  go_wp2_with fail
  refine (headSize_is n h _ (by omega) hz).mono ?_
  rintro e w' ⟨rfl, rfl⟩
  go_wp2_with fail
  refine (same_eq g h g h n n n f _ (by omega) hc hc).mono ?_
  rintro e w1 ⟨rfl, k, rfl⟩
  go_wp2
  go_ret
  exact ⟨rfl, k, rfl⟩

end Go.Proofs.Qxb6628474aFmt
