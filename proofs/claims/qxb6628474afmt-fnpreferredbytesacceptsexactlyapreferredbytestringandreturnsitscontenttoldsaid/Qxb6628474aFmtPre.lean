/-
  zzHeadLen, zzPrefByteStringHead, zzHasPrefix.
-/
import Derived.Test.Qxb6628474aFmtMade
import Derived.Test.Qxb6628474aFmtPlain2
namespace Go.Proofs.Qxb6628474aFmt
open Go.RowKit Go.Extern.Stop Go.Stop Go.Extern
set_option linter.unusedVariables false

theorem headLen_any (k : Nat) (w : World) (hk : k < 5) : Calls Tryf.prog 7 #[.int .i64 k] w fun e w' => e = .returned (.int .i64 (hl k)) ∧ w = w' := by
  rcases (by omega : k = 0 ∨ k = 1 ∨ k = 2 ∨ k = 3 ∨ k = 4) with rfl | rfl | rfl | rfl | rfl
  all_goals
    go_enter Tryf.func7, Tryf.ntmps7
    go_wp2
    go_ret
    exact ⟨rfl, rfl⟩

/-- A new slice over the numbers ps, in a block of its own. -/
def NewRow (w : World) (ps : List Int) (e : Ending) (w' : World) : Prop :=
  e = .returned (.slice (some ⟨w.heap.size, 0, none⟩) ps.length ps.length) ∧ Row w' w.heap.size ps ∧ Below w.heap.size w w' ∧ w.heap.size < w'.heap.size

theorem newRow_mk (w : World) (ps : List Int) : NewRow w ps (.returned (.slice (some ⟨w.heap.size, 0, none⟩) ps.length ps.length)) (w.alloc (.cells (u8s ps).toArray 5)) :=
  ⟨rfl, row_of_block (heap_alloc_new w _), (Below.refl _ w).alloc (Nat.le_refl _) _, by simp⟩

theorem prefHead_any (n : Int) (w : World) (h0 : 0 ≤ n) (h1 : n ≤ 2000000) : Calls Tryf.prog 8 #[.int .i64 n] w fun e w' => NewRow w (ph n) e w' := by
  by_cases c1 : n < 24
  · have hor : bits BinOp.or IntKind.u8 64 n = 64 + n := bits_join .u8 8 (by decide) (fun n a b => IntWalk.u8_in n (by omega)) 5 64 n (by decide) (by decide) (by decide) h0 (by omega) (by omega)
    rw [ph1 c1]
    go_enter Tryf.func8, Tryf.ntmps8
    go_wp2
    go_ret
    exact newRow_mk w [64 + n]
  by_cases c2 : n ≤ 255
  · rw [ph2 (by omega) c2]
    go_enter Tryf.func8, Tryf.ntmps8
    go_wp2
    go_ret
    exact newRow_mk w [88, n]
  by_cases c3 : n ≤ 65535
  · rw [ph3 (by omega) c3]
    go_enter Tryf.func8, Tryf.ntmps8
    go_wp2
    go_ret
    exact newRow_mk w [89, n / 256, n % 256]
  · rw [ph5 (by omega), show n / 16777216 % 256 = n / 16777216 from by omega, show n / 65536 % 256 = n / 65536 from by omega]
    go_enter Tryf.func8, Tryf.ntmps8
    go_wp2
    go_ret
    exact newRow_mk w [90, n / 16777216, n / 65536, n / 256 % 256, n % 256]

set_option maxHeartbeats 400000 in
theorem has_any (zs ps : List Int) (ga gb n m ca cb : Nat) (w : World) (hn : n ≤ 2000000) (hm : m ≤ n)
    (ha : ∀ k, k < n → w.cell? ⟨ga, k, none⟩ = some (.int .u8 (zs.getD k 0))) (hb : ∀ k, k < m → w.cell? ⟨gb, k, none⟩ = some (.int .u8 (ps.getD k 0))) :
    Calls Tryf.prog 9 #[.slice (some ⟨ga, 0, none⟩) n ca, .slice (some ⟨gb, 0, none⟩) m cb] w fun e w' => ∃ b, e = .returned (.bool b) ∧ (b = true ↔ ∀ j, j < m → zs.getD j 0 = ps.getD j 0) ∧ ∃ k, w' = w.drewN k := by
  go_enter Tryf.func9, Tryf.ntmps9
  go_wp2
  go_loopw [5] (fun i wr => ∃ k j : Nat, k ≤ m ∧ i = .int .i64 k ∧ wr = w.drewN j ∧ Hid (∀ t, t < k → zs.getD t 0 = ps.getD t 0)) (fun i _ => m - (intOf i).toNat)
  case atStart => exact ⟨0, 0, Nat.zero_le _, rfl, rfl, fun t ht => absurd ht (by omega)⟩
  case round =>
    obtain ⟨k, j, hk, rfl, rfl, HE⟩ := hrel
    by_cases hlt : k < m
    · have hak := ha k (by omega)
      have hbk := hb k hlt
      clear ha hb
      have hlt' : (k : Int) < m := by omega
      have hlt2 : (k : Int) < n := by omega
      by_cases heq : zs.getD k 0 = ps.getD k 0
      · rw [← heq] at hbk
        have HE' : Hid (∀ t, t < k + 1 → zs.getD t 0 = ps.getD t 0) := fun t ht => by
          by_cases h : t < k
          · exact HE.out t h
          · obtain rfl : t = k := by omega
            exact heq
        clear heq
        go_wp2
        go_quiet (fail)
        go_wp2
        go_roundw
        case rel => exact ⟨k + 1, _, by omega, by go_num, rfl, HE'⟩
        case measure => simp [intOf]; omega
      · have hne : (zs[k]?.getD 0 != ps[k]?.getD 0) = true := by
          simpa [List.getD_eq_getElem?_getD] using heq
        have HN : Hid (¬ ∀ j, j < m → zs.getD j 0 = ps.getD j 0) := fun h => heq (h k hlt)
        clear heq
        go_wp2
        go_quiet (fail)
        go_wp2
        go_ret
        exact ⟨false, rfl, ⟨fun h => (by cases h), fun h => (HN.out h).elim⟩, _, by rw [World.drewN_drewN]⟩
    · clear ha hb
      obtain rfl : k = m := by omega
      go_wp2
      go_ret
      exact ⟨true, rfl, ⟨fun _ => HE.out, fun _ => rfl⟩, _, rfl⟩

end Go.Proofs.Qxb6628474aFmt
