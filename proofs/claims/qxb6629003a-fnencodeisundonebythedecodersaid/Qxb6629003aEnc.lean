/-
  (*EncState).Encode, by its contract.
-/
import Derived.Test.Qxb6629003aBuild
namespace Go.Proofs.Qxb6629003a
open Go.RowKit
set_option linter.unusedVariables false
attribute [local go_sem ↓] Go.wp_at_zero Go.wp_at_succ

set_option maxRecDepth 20000 in
set_option maxHeartbeats 2000000 in
theorem enc_core (n q s gE gT gS gY v nb x p y r : Nat) (d N : Int) (w : World) (hv : v ≤ 65535) (hs : s < 256) (hnb : nb ≤ 15) (hn : n ≤ 32768) (hx : x < n) (hyb : y ≤ 65535) (hpn : p ≤ n) (hqn : q ≤ n) (hr : r ≤ 65535)
    (hE0 : w.cell? ⟨gE, 0, none⟩ = some (.pointer (some ⟨gT, 0, none⟩))) (hE1 : w.cell? ⟨gE, 1, none⟩ = some (.int .u32 v)) (hEf : w.frozen? ⟨gE, 1, none⟩ = false) (hEl : gE < w.heap.size)
    (hT1 : w.cell? ⟨gT, 1, none⟩ = some (.slice (some ⟨gS, 0, none⟩) n n)) (hT2 : w.cell? ⟨gT, 2, none⟩ = some (.slice (some ⟨gY, 0, none⟩) 256 256)) (hTl : gT < w.heap.size)
    (hY0 : w.cell? ⟨gY, s * 3, none⟩ = some (.int .u32 d)) (hY1 : w.cell? ⟨gY, s * 3 + 1, none⟩ = some (.int .i32 ((p : Int) - q))) (hY2 : w.cell? ⟨gY, s * 3 + 2, none⟩ = some (.int .i32 p)) (hYl : gY < w.heap.size) (hSl : gS < w.heap.size)
    (hsh : IntKind.u32.wrap (v + d) = N) (hN : N / 65536 = nb) (hsv : (v : Int) / 2 ^ nb = y) (hadd : (y : Int) + ((p : Int) - q) = x) (hS : w.cell? ⟨gS, x, none⟩ = some (.int .u16 r)) :
    Calls Try.prog 11 #[.pointer (some ⟨gE, 0, none⟩), .int .u8 s] w fun e w' => e = .returned (.tuple #[.int .u64 v, .int .u8 nb]) ∧ ∃ o k, w' = ((w.alloc o).setCell ⟨gE, 1, none⟩ (.int .u32 r)).drewN k := by
  have hs' : decide ((s : Int) < 256) = true := by simp; omega
  have hmod : (nb : Int) % 32 = nb := by omega
  go_enter Try.func11, Try.ntmps11
  go_wp2
  go_quiet (fail)
  go_wp2
  go_region
  all_goals go_wp2
  go_ret2
  exact ⟨rfl, _, _, rfl⟩

/-- One step from state v on symbol s: nb bits are written, the next state is the table's place x. -/
def StepOk (S : List Int) (lg s v nb x : Nat) : Prop :=
  x < S.length ∧ sy S x = s ∧ nb ≤ lg ∧ cnt S s ≤ v / 2 ^ nb ∧ v / 2 ^ nb < 2 * cnt S s ∧ cnt S s + rk S x = v / 2 ^ nb

/-- An encoder's state in memory. -/
def State (w : World) (gE gT : Nat) (v : Nat) : Prop := w.heap[gE]? = some (.cells #[.pointer (some ⟨gT, 0, none⟩), .int .u32 v] 44 (0, 0))

theorem shift_ok {lg q v : Nat} (h1 : 1 ≤ q) (hq : q ≤ 2 ^ lg) (hlg : lg ≤ 15) (hv : 2 ^ lg ≤ v) (hv2 : v < 2 * 2 ^ lg) :
    IntKind.u32.wrap (v + IntKind.u32.wrap (dbits lg q)) = v + dbits lg q ∧ (v + dbits lg q) / 65536 = ((bitsOf lg q (Nat.log2 q) v : Nat) : Int) := by
  have hh := isHb_log2 h1
  have hle := isHb_le hh hq
  obtain ⟨b1, b2, b3, b4⟩ := bits_ok hh hq hv hv2
  have hL : 2 ^ lg ≤ 32768 := by have := pow_mono hlg; simpa using this
  have e : 2 ^ Nat.log2 q * 2 ^ (lg - Nat.log2 q) = 2 ^ lg := by rw [← Nat.pow_add]; congr 1; omega
  have e1 : 2 ^ Nat.log2 q * 2 ^ (lg - Nat.log2 q) ≤ q * 2 ^ (lg - Nat.log2 q) := Nat.mul_le_mul_right _ hh.1
  have e2 : q * 2 ^ (lg - Nat.log2 q) ≤ 2 ^ (Nat.log2 q + 1) * 2 ^ (lg - Nat.log2 q) := Nat.mul_le_mul_right _ (Nat.le_of_lt hh.2)
  have e3 : 2 ^ (Nat.log2 q + 1) * 2 ^ (lg - Nat.log2 q) = 2 * 2 ^ lg := by rw [Nat.pow_succ, Nat.mul_comm (2 ^ Nat.log2 q) 2, Nat.mul_assoc, e]
  have e4 : ((q * 2 ^ (lg - Nat.log2 q) : Nat) : Int) = (q : Int) * 2 ^ (lg - Nat.log2 q) := by rw [Int.natCast_mul, Int.natCast_pow]; rfl
  unfold dbits nbOf
  rw [← e4]
  unfold bitsOf at b3 ⊢
  generalize q * 2 ^ (lg - Nat.log2 q) = Q at *
  have hnb : lg - Nat.log2 q ≤ 15 := by omega
  generalize lg - Nat.log2 q = nb at *
  simp only [IntKind.wrap_u32]
  by_cases c : v < Q
  · have := b4 c
    rw [if_pos c]
    constructor <;> omega
  · rw [if_neg c]
    constructor <;> omega

theorem setCell_state {w : World} {gE gT v : Nat} (h : State w gE gT v) (o : Obj) (u k : Nat) : State (((w.alloc o).setCell ⟨gE, 1, none⟩ (.int .u32 u)).drewN k) gE gT u := by
  have hl : gE < w.heap.size := lt_of_block h
  have h1 : (w.alloc o).heap[gE]? = some (.cells #[.pointer (some ⟨gT, 0, none⟩), .int .u32 v] 44 (0, 0)) := (Below.heap_alloc w o gE hl).trans h
  exact heap_setCell_same (w.alloc o) gE 1 _ 44 (.int .u32 u) h1

theorem enc_any (S : List Int) (lg s v gE gT gS gY : Nat) (w : World) (hby : Bytes S) (hL : S.length = 2 ^ lg) (hlg : lg ≤ 15) (hs : s < 256) (hq : cnt S s ≠ 0) (hv : 2 ^ lg ≤ v) (hv2 : v < 2 * 2 ^ lg)
    (hB : Built S lg gT gS gY w) (hE : State w gE gT v) :
    Calls Try.prog 11 #[.pointer (some ⟨gE, 0, none⟩), .int .u8 s] w fun e w' => ∃ nb x : Nat, e = .returned (.tuple #[.int .u64 v, .int .u8 nb]) ∧ StepOk S lg s v nb x ∧ State w' gE gT (S.length + x) ∧ w.grownBy w' (some gE) := by
  obtain ⟨bT, ⟨fv, bS, bS'⟩, bY⟩ := hB
  have hLn : S.length ≤ 32768 := by rw [hL]; have := pow_mono hlg; simpa using this
  have hqL : cnt S s ≤ S.length := cnt_le S s
  have hq2 : cnt S s ≤ 2 ^ lg := by rw [← hL]; exact hqL
  have hh := isHb_log2 (q := cnt S s) (by omega)
  obtain ⟨b1, b2, b3, b4⟩ := bits_ok hh hq2 hv hv2
  obtain ⟨s1, s2⟩ := shift_ok (by omega) hq2 hlg hv hv2
  obtain ⟨nb, hnb⟩ : ∃ nb, nb = bitsOf lg (cnt S s) (Nat.log2 (cnt S s)) v := ⟨_, rfl⟩
  rw [← hnb] at b1 b2 b3 s2
  obtain ⟨x, x1, x2, x3⟩ := place (S := S) S.length s (v / 2 ^ nb - cnt S s) (by show _ < cnt S s; omega)
  have hix : ix S x = fst S s + (v / 2 ^ nb - cnt S s) := by unfold ix; rw [x2, x3]
  have hixl := ix_lt hby x1
  have hrk : rk S x = v / 2 ^ nb - cnt S s := by unfold rk; rw [x2, x3]
  have hfl := fst_cnt_le hby hs
  have hdiv : (v : Int) / 2 ^ nb = ((v / 2 ^ nb : Nat) : Int) := by rw [Int.natCast_ediv, Int.natCast_pow]; rfl
  have hvL : v / 2 ^ nb ≤ v := Nat.div_le_self _ _
  have y0 := blk_cell bY (s := s * 3 + 0) (by omega)
  have y1 := blk_cell bY (s := s * 3 + 1) (by omega)
  have y2 := blk_cell bY (s := s * 3 + 2) (by omega)
  rw [sym_at hs hq (by decide)] at y0 y1 y2
  have hScell := blk_cell bS hixl
  rw [bS' x x1] at hScell
  refine (enc_core S.length (cnt S s) s gE gT gS gY v nb (ix S x) (fst S s) (v / 2 ^ nb) (S.length + x) _ _ w (by omega) hs (by omega) hLn hixl (by omega) (by omega) hqL (by omega)
    (by rw [cell_of_row w gE 0 _ 44 (0, 0) hE]; rfl) (by rw [cell_of_row w gE 1 _ 44 (0, 0) hE]; rfl) (frozen_of_row w gE 1 _ 44 hE) (lt_of_block hE)
    (by rw [cell_of_row w gT 1 _ 56 (0, 0) bT]; rfl) (by rw [cell_of_row w gT 2 _ 56 (0, 0) bT]; rfl) (lt_of_block bT)
    y0 y1 y2 (blk_lt bY) (blk_lt bS) s1 s2 hdiv (by rw [hix]; omega) hScell).mono ?_
  rintro e w' ⟨rfl, o, k, rfl⟩
  refine ⟨nb, x, rfl, ⟨x1, x2, b3, b1, b2, by omega⟩, setCell_state hE o _ k, ?_⟩
  exact grown_drewN (grown_set (grown_alloc (grown_refl w _) o) _ _) k

end Go.Proofs.Qxb6629003a
