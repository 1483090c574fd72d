/-
  The walk of FnEncodeIsUndoneByTheDecoder.
-/
import Derived.Test.Qxb6629003aSteps
import Derived.Laws.BitsLemmas
namespace Go.Proofs.Qxb6629003a
open Go.RowKit
set_option linter.unusedVariables false
attribute [local go_sem] zero27

set_option maxRecDepth 20000 in
theorem undone_out (a0 a2 : Option Addr) (len0 cap0 len2 cap2 : Nat) (v : Int) (w : World) (h : 1048576 < len0 + len2) (hl : len0 ≤ maxLen) (hl2 : len2 ≤ maxLen) :
    Calls Try.prog 4 #[.slice a0 len0 cap0, .int .u32 v, .slice a2 len2 cap2] w fun e w' => e = .returned (.bool true) ∧ Below w.heap.size w w' := by
  go_enter Try.func4, Try.ntmps4
  go_wp2_with (go_at_call 13; refine (bytes13_out _ _ _ _ _ _ _ _ h hl hl2).mono ?_; rintro e w' ⟨rfl, rfl⟩)
  go_ret
  exact ⟨rfl, Below.refl _ _⟩

set_option maxRecDepth 20000 in
theorem undone_long (a0 a2 : Option Addr) (len0 cap0 len2 cap2 : Nat) (v : Int) (w : World) (h : len0 + len2 ≤ 1048576) (h1 : 32768 < len0 ∨ 65536 < len2) :
    Calls Try.prog 4 #[.slice a0 len0 cap0, .int .u32 v, .slice a2 len2 cap2] w fun e w' => e = .returned (.bool true) ∧ Below w.heap.size w w' := by
  by_cases c : 32768 < len0
  · have d1 : decide ((32768 : Int) < len0) = true := by simp; omega
    clear h1
    go_enter Try.func4, Try.ntmps4
    go_wp2_with (go_at_call 13; refine (bytes13_in _ _ _ _ _ _ _ _ h).mono ?_; rintro e w' ⟨rfl, rfl⟩)
    go_ret
    exact ⟨rfl, Below.refl _ _⟩
  · have d1 : decide ((32768 : Int) < len0) = false := by simp; omega
    have d2 : decide ((65536 : Int) < len2) = true := by simp; omega
    clear h1 c
    go_enter Try.func4, Try.ntmps4
    go_wp2_with (go_at_call 13; refine (bytes13_in _ _ _ _ _ _ _ _ h).mono ?_; rintro e w' ⟨rfl, rfl⟩)
    go_ret
    exact ⟨rfl, Below.refl _ _⟩

set_option maxRecDepth 20000 in
theorem undone_zero (a0 a2 : Option Addr) (cap0 len2 cap2 : Nat) (v : Int) (w : World) (h2 : len2 ≤ 65536) :
    Calls Try.prog 4 #[.slice a0 0 cap0, .int .u32 v, .slice a2 len2 cap2] w fun e w' => e = .returned (.bool true) ∧ Below w.heap.size w w' := by
  have d2 : decide ((65536 : Int) < len2) = false := by simp; omega
  have d3 : decide ((1048576 : Int) < len2) = false := by simp; omega
  go_enter Try.func4, Try.ntmps4
  go_wp2_with (go_at_call 13; refine (bytes13_in _ _ _ _ _ _ _ _ (by omega)).mono ?_; rintro e w' ⟨rfl, rfl⟩)
  refine (log_zero _).mono ?_
  rintro e w' ⟨k, bb, rfl, hb, rfl⟩
  cases bb with
  | true => exact absurd (hb rfl).1.symm (Nat.pos_iff_ne_zero.1 (Nat.two_pow_pos k))
  | false =>
    go_wp2
    go_ret
    exact ⟨rfl, Below.refl _ _⟩

/-- The states, bits and places of the first k steps. -/
def Trace (S M : List Int) (lg v : Nat) (vf nf xf : Nat → Nat) (k : Nat) : Prop :=
  vf 0 = v ∧ ∀ j, j < k → StepOk S lg (sy M j) (vf j) (nf j) (xf j) ∧ vf (j + 1) = S.length + xf j

theorem trace_step {S M : List Int} {lg v : Nat} {vf nf xf : Nat → Nat} {k nb x : Nat} (h : Trace S M lg v vf nf xf k) (hs : StepOk S lg (sy M k) (vf k) nb x) :
    ∃ vf' nf' xf', Trace S M lg v vf' nf' xf' (k + 1) ∧ (∀ j, j ≤ k → vf' j = vf j) ∧ (∀ j, j < k → nf' j = nf j) ∧ vf' (k + 1) = S.length + x ∧ nf' k = nb := by
  refine ⟨fun j => if j ≤ k then vf j else S.length + x, fun j => if j < k then nf j else nb, fun j => if j < k then xf j else x, ⟨?_, fun j hj => ?_⟩, fun j hj => by simp [hj], fun j hj => by simp [hj], by simp only [show ¬ k + 1 ≤ k from by omega, if_false], by simp⟩
  · simp [h.1]
  · by_cases e : j < k
    · have := h.2 j e
      simp only [e, if_true, show j ≤ k from by omega, show j + 1 ≤ k from e]
      exact this
    · obtain rfl : j = k := by omega
      simp only [Nat.le_refl, if_true, Nat.lt_irrefl, if_false, show ¬ j + 1 ≤ j from by omega]
      exact ⟨hs, trivial⟩

theorem trace_range {S M : List Int} {lg v : Nat} {vf nf xf : Nat → Nat} {k : Nat} (h : Trace S M lg v vf nf xf k) (h1 : S.length ≤ v) (h2 : v < 2 * S.length) {j : Nat} (hj : j ≤ k) : S.length ≤ vf j ∧ vf j < 2 * S.length := by
  rcases Nat.eq_zero_or_pos j with rfl | hp
  · rw [h.1]; exact ⟨h1, h2⟩
  · obtain ⟨i, rfl⟩ : ∃ i, j = i + 1 := ⟨j - 1, by omega⟩
    obtain ⟨⟨x1, _⟩, e⟩ := h.2 i (by omega)
    rw [e]; omega

def upTo (k : Nat) (f : Nat → Value) (z : Value) (j : Nat) : Value := if j < k then f j else z

theorem blk_upTo {w : World} {g : Nat} {t : TypeId} {n k : Nat} {f : Nat → Value} {z v : Value} (f' : Nat → Value) (h : Blk w g t n (upTo k f z)) (hv : f' k = v) (hf : ∀ j, j < k → f' j = f j) : Blk (w.setCell ⟨g, k, none⟩ v) g t n (upTo (k + 1) f' z) :=
  blk_set h (by simp [upTo, hv]) (fun i hi => by
    simp only [upTo]
    by_cases c : i < k
    · rw [if_pos c, if_pos (by omega), hf i c]
    · rw [if_neg c, if_neg (by omega)])

theorem undone_rel {S M : List Int} {lg v : Nat} {vf nf xf : Nat → Nat} {k nb x u gE gT gV m : Nat} {w : World} (h : Trace S M lg v vf nf xf k) (hu : u = vf k) (hs : StepOk S lg (sy M k) u nb x) (hE : State w gE gT (S.length + x))
    (hV : Blk w gV 36 m (upTo k (fun j => .int .u64 (vf j)) (.int .u64 0))) (hN : Blk w (gV + 1) 5 m (upTo k (fun j => .int .u8 (nf j)) (.int .u8 0))) (hlt : gE < gV) :
    ∃ vf' nf' xf', Trace S M lg v vf' nf' xf' (k + 1) ∧ State ((w.setCell ⟨gV, k, none⟩ (.int .u64 u)).setCell ⟨gV + 1, k, none⟩ (.int .u8 nb)) gE gT (vf' (k + 1)) ∧
      Blk ((w.setCell ⟨gV, k, none⟩ (.int .u64 u)).setCell ⟨gV + 1, k, none⟩ (.int .u8 nb)) gV 36 m (upTo (k + 1) (fun j => .int .u64 (vf' j)) (.int .u64 0)) ∧
      Blk ((w.setCell ⟨gV, k, none⟩ (.int .u64 u)).setCell ⟨gV + 1, k, none⟩ (.int .u8 nb)) (gV + 1) 5 m (upTo (k + 1) (fun j => .int .u8 (nf' j)) (.int .u8 0)) := by
  rw [hu] at hs
  obtain ⟨vf', nf', xf', t1, t2, t3, t4, t5⟩ := trace_step h hs
  refine ⟨vf', nf', xf', t1, ?_, ?_, ?_⟩
  · unfold State
    rw [heap_setCell_other _ _ _ _ (by simp; omega), heap_setCell_other _ _ _ _ (by simp; omega), t4]
    exact hE
  · exact blk_far (blk_upTo (fun j => .int .u64 (vf' j)) hV (by rw [t2 k (Nat.le_refl _), hu]) (fun j hj => by rw [t2 j (by omega)])) (by simp)
  · exact blk_upTo (fun j => .int .u8 (nf' j)) (blk_far hN (by simp)) (by rw [t5]) (fun j hj => by rw [t3 j hj])

theorem hb_y (y lg nb : Nat) (w : World) (h0 : 1 ≤ y) (h1 : y ≤ 65536) (hle : nb ≤ lg) (hh : Hid (IsHb y (lg - nb))) : Calls Try.prog 14 #[.int .i64 y] w fun e w' => e = .returned (.int .i64 ((lg : Int) - nb)) ∧ w = w' := by
  refine (hb_any y w h0 h1).mono ?_
  rintro e w' ⟨h, rfl, hi, rfl⟩
  have := isHb_uniq hi hh.out
  refine ⟨?_, rfl⟩
  have : (h : Int) = (lg : Int) - nb := by omega
  rw [this]

theorem and_low (u nb : Nat) (hu : u ≤ 65535) (hnb : nb ≤ 15) : bits BinOp.and IntKind.u64 (u : Int) ((2 : Int) ^ nb - 1) = ((u % 2 ^ nb : Nat) : Int) := by
  rw [bits_mask .u64 64 (by decide) (fun n a b => IntWalk.u64_in n (by omega)) nb (by omega) (u : Int) (by omega) (by omega)]
  rw [Int.natCast_emod, Int.natCast_pow]; rfl

theorem info36 : (Try.prog.info? 36).map (fun i => (i.zero, i.size, i.bytes)) = some (some (.int .u64 0), 1, 8) := by kernel_rfl
theorem info5 : (Try.prog.info? 5).map (fun i => (i.zero, i.size, i.bytes)) = some (some (.int .u8 0), 1, 1) := by kernel_rfl

set_option maxRecDepth 20000 in
set_option maxHeartbeats 4000000 in
theorem undone_main (S M : List Int) (b off cap0 cap2 : Nat) (a2 : Option Addr) (v : Nat) (w : World) (hn1 : 1 ≤ S.length) (hn : S.length ≤ 32768) (hm : M.length ≤ 65536) (hv : v < 4294967296) (hby : Bytes S) (hbm : Bytes M)
    (hb : b < w.heap.size) (hc : ∀ k, k < S.length → w.cell? ⟨b, off + k, none⟩ = some (.int .u8 (S.getD k 0)))
    (hc2 : 0 < M.length → ∃ b2 off2, a2 = some ⟨b2, off2, none⟩ ∧ b2 < w.heap.size ∧ ∀ k, k < M.length → w.cell? ⟨b2, off2 + k, none⟩ = some (.int .u8 (M.getD k 0))) :
    Calls Try.prog 4 #[.slice (some ⟨b, off, none⟩) S.length cap0, .int .u32 v, .slice a2 M.length cap2] w fun e w' => e = .returned (.bool true) ∧ Below w.heap.size w w' := by
  obtain ⟨n, hn'⟩ : ∃ n, n = S.length := ⟨_, rfl⟩
  have Hn : Hid (n = S.length) := hn'
  obtain ⟨m, hm'⟩ : ∃ m, m = M.length := ⟨_, rfl⟩
  have Hm : Hid (m = M.length) := hm'
  have HC : Hid (∀ k, k < S.length → w.cell? ⟨b, off + k, none⟩ = some (.int .u8 (S.getD k 0))) := hc
  have HC2 : Hid (0 < M.length → ∃ b2 off2, a2 = some ⟨b2, off2, none⟩ ∧ b2 < w.heap.size ∧ ∀ k, k < M.length → w.cell? ⟨b2, off2 + k, none⟩ = some (.int .u8 (M.getD k 0))) := hc2
  rw [← hn'] at hn hn1
  rw [← hm'] at hm
  have HB : Hid (Bytes S) := hby
  have HBM : Hid (Bytes M) := hbm
  rw [← hn', ← hm']
  clear hn' hm' hc hc2 hby hbm
  have d1 : decide ((32768 : Int) < n) = false := by simp; omega
  have d2 : decide ((65536 : Int) < m) = false := by simp; omega
  have d3 : decide ((1048576 : Int) < (n : Int) + m) = false := by simp; omega
  go_enter Try.func4, Try.ntmps4
  go_wp2_with (go_at_call 13; refine (bytes13_in _ _ _ _ _ _ _ _ (by omega)).mono ?_; rintro e w' ⟨rfl, rfl⟩)
  refine (log_any n w hn1 hn).mono ?_
  rintro e w' ⟨lg, bb, rfl, hlog, rfl⟩
  cases bb with
  | false =>
    clear hlog
    go_wp2
    go_ret
    exact ⟨rfl, Below.refl _ _⟩
  | true =>
    obtain ⟨hL, hlg⟩ := hlog rfl
    have HL : Hid (S.length = 2 ^ lg) := by show _ = _; rw [← Hn.out]; exact hL
    clear hlog hL
    by_cases hv1 : v < n
    · have e1 : decide ((v : Int) < n) = true := by simp; omega
      go_wp2
      go_ret
      exact ⟨rfl, Below.refl _ _⟩
    by_cases hv2 : 2 * n ≤ v
    · have e1 : decide ((v : Int) < n) = false := by simp; omega
      have e2 : decide (2 * (n : Int) ≤ v) = true := by simp; omega
      go_wp2
      go_ret
      exact ⟨rfl, Below.refl _ _⟩
    have e1 : decide ((v : Int) < n) = false := by simp; omega
    have e2 : decide (2 * (n : Int) ≤ v) = false := by simp; omega
    have hn2 : (n : Int) ≤ v := by omega
    clear e1 e2 d1 d2 d3
    go_wp2_with (first
      | (go_at_call 7; refine (counts_at S n b off cap0 w Hn hn HB hb HC).mono ?_; rintro e w1 ⟨rfl, hB1⟩)
      | (refine wpList_store_row rfl 27 (.tmp 10) (.tmp 68) (by rfl) w1.heap.size (counted S) (by rfl) (by rfl) 27 zeros (heap_alloc_new w1 _) (by rw [size27]; simp [counted, tab_length]) (by simp [counted, zeros, tab_length]) (counted_one S) ?_))
    obtain ⟨w2, hw2⟩ : ∃ w2, w2 = (w1.alloc (.cells zeros 27)).setRow w1.heap.size (counted S) := ⟨_, rfl⟩
    have HA2 : Hid (Arr w2 w1.heap.size (cnt S)) := by rw [hw2]; exact counted_arr S
    have hb2 : Below w1.heap.size w1 w2 := by rw [hw2]; exact below_setRow ((Below.refl _ w1).alloc (Nat.le_refl _) _) (Nat.le_refl _) _
    have hB2 : Below w.heap.size w w2 := hB1.trans (hb2.mono hB1.size)
    have hgC : w1.heap.size < w2.heap.size := arr_lt HA2.out
    have hwC : w.heap.size ≤ w1.heap.size := hB1.size
    rw [← hw2]
    clear hw2 hb2 hB1
    generalize w1.heap.size = gC at *
    clear w1
    go_loop [11] (fun i => ∃ k : Nat, k ≤ m ∧ i = .int .i64 k ∧ Hid (∀ j, j < k → cnt S (sy M j) ≠ 0)) (fun i => m - (intOf i).toNat)
    case atStart => exact ⟨0, Nat.zero_le _, rfl, fun j hj => absurd hj (by omega)⟩
    case round =>
      obtain ⟨k, hk, rfl, HK⟩ := hrel
      by_cases hlt : k < m
      · obtain ⟨b2, off2, e2, hbl2, hcm⟩ := HC2.out (by rw [← Hm.out]; omega)
        subst e2
        obtain ⟨s, hs⟩ : ∃ s, s = sy M k := ⟨_, rfl⟩
        have hsl : s < 256 := by rw [hs]; exact sy_lt HBM.out k
        have hck : w2.cell? ⟨b2, off2 + k, none⟩ = some (.int .u8 (s : Nat)) := by rw [hs]; exact sym_cell hcm hB2 hbl2 HBM.out (by rw [← Hm.out]; exact hlt)
        have hcc := arr_cell HA2.out hsl
        have hs1 : decide ((s : Int) < 256) = true := by simp; omega
        have hlt' : decide ((k : Int) < m) = true := by simp; omega
        by_cases hq0 : cnt S s = 0
        · rw [hq0] at hcc
          clear hcm hs HC2
          go_wp2
          go_ret
          exact ⟨rfl, hB2⟩
        · have hq1 : ((cnt S s : Int) == 0) = false := by simp; omega
          have HK' : Hid (∀ j, j < k + 1 → cnt S (sy M j) ≠ 0) := fun j hj => by
            by_cases h : j < k
            · exact HK.out j h
            · obtain rfl : j = k := by omega
              rw [← hs]; exact hq0
          clear hcm hs hq0
          go_wp2
          go_round
          case rel => exact ⟨k + 1, by omega, by go_num, HK'⟩
          case measure => simp [intOf]; omega
      · obtain rfl : k = m := by omega
        have HC' := cells_below HC hB2 hb
        obtain ⟨i36, hi36, hy0, hy1, hy2⟩ := info_parts info36
        obtain ⟨i5, hi5, hx0, hx1, hx2⟩ := info_parts info5
        have tok1 : True := trivial
        go_wp2_with (first
          | (at_make; have _t := tok1; refine wpList_make_row _ rfl _ _ 40 rfl 36 i36 (.int .u64 0) Try.underlying40 hi36 hy0 hy1 rfl .i64 .i64 k rfl rfl (by rw [hy2]; omega) (by omega) ?_; clear tok1)
          | (at_make; refine wpList_make_row _ rfl _ _ 22 rfl 5 i5 (.int .u8 0) Try.underlying22 hi5 hx0 hx1 rfl .i64 .i64 k rfl rfl (by rw [hx2]; omega) (by omega) ?_)
          | (go_at_call 8; refine (ranks_at S n b off cap0 w2 Hn hn HB (by have := hB2.size; omega) HC').mono ?_; rintro e w3 ⟨gR, rfl, hB3, HR3, hgR⟩)
          | (go_at_call 10; refine (build_at S n b off cap0 lg gC w3 Hn hn hn1 HB (by have := hB2.size; have := hB3.size; omega) (cells_below HC' hB3 (by have := hB2.size; omega)) hlg HL (arr_below HA2.out hB3 hgC)).mono ?_; rintro e w4 ⟨gT, gS, gY, rfl, HBt, hB4, hgT, hgS, hgY⟩)
          | (go_at_call 9; refine (newState_any _ _ _).mono ?_; rintro e w5 ⟨rfl, hw5⟩; have HW5 := (show Hid _ from hw5); clear hw5))
        obtain ⟨m, hmk⟩ : ∃ m, m = k := ⟨_, rfl⟩
        subst hmk
        obtain ⟨gE, hgE⟩ : ∃ gE, gE = w4.heap.size := ⟨_, rfl⟩
        have HE5 : Hid (State w5 gE gT v) := by rw [← HW5.out, hgE]; exact heap_alloc_new w4 _
        have hb5 : Below w4.heap.size w4 w5 := by rw [← HW5.out]; exact (Below.refl _ w4).alloc (Nat.le_refl _) _
        obtain ⟨t1, t2, t3⟩ := built_lt HBt.out
        have HB5 : Hid (Built S lg gT gS gY w5) := built_move HBt.out (fun g hg => hb5.block g (by rcases hg with rfl | rfl | rfl <;> assumption))
        have hlR : gR < w3.heap.size := blk_lt HR3.out
        have hz1 := hB2.size
        have hz2 := hB3.size
        have hz3 := hB4.size
        have hz4 := hb5.size
        have HR5 : Hid (Blk w5 gR 3 n (fun x => .int .i64 (rk S x))) := blk_below (blk_below HR3.out hB4 hlR) hb5 (by omega)
        have HA5 : Hid (Arr w5 gC (cnt S)) := arr_below (arr_below (arr_below HA2.out hB3 hgC) hB4 (by omega)) hb5 (by omega)
        have hB5 : Below w.heap.size w w5 := ((hB2.trans (hB3.mono (by omega))).trans (hB4.mono (by omega))).trans (hb5.mono (by omega))
        have hgE5 : gE < w5.heap.size := lt_of_block HE5.out
        have hlC : gC < gE := by omega
        have hlR' : gR < gE := by omega
        have hlT : gT < gE ∧ gS < gE ∧ gY < gE := by omega
        have hlw : w.heap.size ≤ gE := by omega
        rw [← hgE]
        have hvn : v < 2 * n := by omega
        have hvn1 : n ≤ v := by omega
        clear HW5 hb5 t1 t2 t3 HBt HR3 HA2 hB2 hB3 hB4 hgC hlR hz1 hz2 hz3 hz4 HC' hgT hgS hgY hgR hwC hk hlt hgE hv1 hv2 hn2 hv
        clear hi36 hy0 hy1 hy2 hi5 hx0 hx1 hx2
        obtain ⟨gV, hgV⟩ : ∃ gV, gV = w5.heap.size := ⟨_, rfl⟩
        rw [← hgV]
        have hgVE : gE < gV := by omega
        have HGV : Hid (gV = w5.heap.size) := hgV
        clear hgV
        go_loopw [17] (fun i wr => ∃ k : Nat, k ≤ m ∧ i = .int .i64 k ∧ Hid (∃ vf nf xf, Trace S M lg v vf nf xf k ∧ State wr gE gT (vf k) ∧ Blk wr gV 36 m (upTo k (fun j => .int .u64 (vf j)) (.int .u64 0)) ∧ Blk wr (gV + 1) 5 m (upTo k (fun j => .int .u8 (nf j)) (.int .u8 0))) ∧ Below gE w5 wr) (fun i _ => m - (intOf i).toNat)
        case atStart =>
          refine ⟨0, Nat.zero_le _, rfl, ⟨fun _ => v, fun _ => 0, fun _ => 0, ⟨rfl, fun j hj => absurd hj (by omega)⟩, ?_, ?_, ?_⟩, ?_⟩
          · unfold State
            rw [Below.heap_alloc _ _ _ (by simp; omega), Below.heap_alloc _ _ _ hgE5]; exact HE5.out
          · rw [HGV.out]
            exact blk_congr (blk_alloc (blk_made w5 (.int .u64 0) m 36) _) (fun j _ => by simp [upTo])
          · rw [HGV.out]
            have := blk_made (w5.alloc (.cells (madeCells #[.int .u64 0] m) 36)) (.int .u8 0) m 5
            exact blk_congr (by simpa using this) (fun j _ => by simp [upTo])
          · exact ((Below.refl gE w5).alloc (by omega) _).alloc (by simp; omega) _
        case round =>
          obtain ⟨k, hk, rfl, HT, hbl⟩ := hrel
          obtain ⟨vf, nf, xf, hT1, hT2, hT3, hT4⟩ := HT.out
          have HTr : Hid (Trace S M lg v vf nf xf k) := hT1
          have HE : Hid (State wr gE gT (vf k)) := hT2
          have HV : Hid (Blk wr gV 36 m (upTo k (fun j => .int .u64 (vf j)) (.int .u64 0))) := hT3
          have HN : Hid (Blk wr (gV + 1) 5 m (upTo k (fun j => .int .u8 (nf j)) (.int .u8 0))) := hT4
          have hrng := trace_range hT1 (by rw [← Hn.out]; exact hvn1) (by rw [← Hn.out]; exact hvn) (Nat.le_refl k)
          rw [← Hn.out] at hrng
          clear HT hT1 hT2 hT3 hT4
          have hBr : Below w.heap.size w wr := hB5.trans (hbl.mono hlw)
          obtain ⟨u, hu⟩ : ∃ u, u = vf k := ⟨_, rfl⟩
          have HVK : Hid (u = vf k) := hu
          rw [← hu] at HE hrng
          clear hu
          by_cases hlt : k < m
          · obtain ⟨b2, off2, e2, hbl2, hcm⟩ := HC2.out (by rw [← Hm.out]; omega)
            subst e2
            obtain ⟨s, hs⟩ : ∃ s, s = sy M k := ⟨_, rfl⟩
            have hsl : s < 256 := by rw [hs]; exact sy_lt HBM.out k
            have HQ0 : Hid (cnt S s ≠ 0) := by rw [hs]; exact HK.out k hlt
            have hck : wr.cell? ⟨b2, off2 + k, none⟩ = some (.int .u8 (s : Nat)) := by rw [hs]; exact sym_cell hcm hBr hbl2 HBM.out (by rw [← Hm.out]; exact hlt)
            have HS : Hid (s = sy M k) := hs
            have hlt' : decide ((k : Int) < m) = true := by simp; omega
            have HBr : Hid (Built S lg gT gS gY wr) := built_move HB5.out (fun g hg => hbl.block g (by rcases hg with rfl | rfl | rfl <;> omega))
            have HU1 : Hid (2 ^ lg ≤ u) := by show _ ≤ _; rw [← HL.out, ← Hn.out]; exact hrng.1
            have HU2 : Hid (u < 2 * 2 ^ lg) := by show _ < _; rw [← HL.out, ← Hn.out]; exact hrng.2
            obtain ⟨nb, hnb⟩ : ∃ nb, nb = nbits S lg s u := ⟨_, rfl⟩
            have HNB : Hid (nb = nbits S lg s u) := hnb
            clear hnb hcm hs
            go_wp2_with (go_at_call 11; refine (enc_at S lg s u nb gE gT gS gY wr HB HL hlg hsl HQ0 HU1 HU2 HBr HE HNB).mono ?_; rintro e w6 ⟨x, rfl, hst, hE6, hG6⟩; have HST := (show Hid _ from hst); have HE6 := (show Hid _ from hE6); have HG6 := (show Hid _ from hG6); have hcv := blk_cell (blk_grown HV.out hG6 (by simp; omega)) hlt; have hfv := blk_free (blk_grown HV.out hG6 (by simp; omega)) k; have hcn := blk_cell (blk_grown HN.out hG6 (by simp; omega)) hlt; have hfn := blk_free (blk_grown HN.out hG6 (by simp; omega)) k; clear hst hE6 hG6)
            have HREL : Hid (∃ vf' nf' xf', Trace S M lg v vf' nf' xf' (k + 1) ∧ State ((w6.setCell ⟨gV, k, none⟩ (.int .u64 u)).setCell ⟨gV + 1, k, none⟩ (.int .u8 nb)) gE gT (vf' (k + 1)) ∧
              Blk ((w6.setCell ⟨gV, k, none⟩ (.int .u64 u)).setCell ⟨gV + 1, k, none⟩ (.int .u8 nb)) gV 36 m (upTo (k + 1) (fun j => .int .u64 (vf' j)) (.int .u64 0)) ∧
              Blk ((w6.setCell ⟨gV, k, none⟩ (.int .u64 u)).setCell ⟨gV + 1, k, none⟩ (.int .u8 nb)) (gV + 1) 5 m (upTo (k + 1) (fun j => .int .u8 (nf' j)) (.int .u8 0))) :=
              undone_rel HTr.out HVK.out (by rw [← HS.out]; exact HST.out) HE6.out (blk_grown HV.out HG6.out (by simp; omega)) (blk_grown HN.out HG6.out (by simp; omega)) hgVE
            have hb6 : Below gE w5 w6 := hbl.grown HG6.out (by have := blk_lt HV.out; omega) (fun g hg => by simp at hg; omega)
            go_roundw
            case rel => exact ⟨k + 1, by omega, by go_num, HREL, (hb6.setCell (by simp; omega) _).setCell (by simp; omega) _⟩
            case measure => simp [intOf]; omega
          · obtain rfl : k = m := by omega
            obtain ⟨m, hmk⟩ : ∃ m, m = k := ⟨_, rfl⟩
            subst hmk
            obtain ⟨w8, rfl⟩ : ∃ w8 : World, w8 = wr := ⟨_, rfl⟩
            have hE1 : w8.cell? ⟨gE, 1, none⟩ = some (.int .u32 u) := by rw [cell_of_row w8 gE 1 _ 44 (0, 0) HE.out]; rfl
            have t4 : decide ((u : Int) < n) = false := by simp; omega
            have t4' : decide (u < n) = false := by simp; omega
            have t5 : decide (2 * (n : Int) ≤ u) = false := by simp; omega
            go_wp2_with (go_at_call 12; refine (stateValue_any gE _ w8 hE1).mono ?_; rintro e w' ⟨rfl, rfl⟩)
            go_loopw [21, 22] (fun xx i wr => ∃ (k j : Nat) (i0 x0 : Int), k ≤ m ∧ i = .int .i64 i0 ∧ xx = .int .i64 x0 ∧ Hid (i0 = (k : Int) - 1) ∧ Hid (x0 = (vf k : Int) - n) ∧ wr = w8.drewN j) (fun _ i _ => (intOf i + 1).toNat)
            case atStart => exact ⟨m, 0, _, _, Nat.le_refl _, rfl, rfl, rfl, by show _ = _; rw [← HVK.out], rfl⟩
            case round =>
              obtain ⟨k, jj, i0, x0, hk2, rfl, rfl, HI, HX, rfl⟩ := hrel
              by_cases hp : 0 < k
              · obtain ⟨j, rfl⟩ : ∃ j, k = j + 1 := ⟨k - 1, by omega⟩
                have hi0 : i0 = (j : Int) := by have := HI.out; omega
                subst hi0
                obtain ⟨⟨x1, x2, x3, x4, x5, x6⟩, ev⟩ := HTr.out.2 j (by omega)
                have hx0 : x0 = (xf j : Int) := by have := HX.out; rw [ev, ← Hn.out] at this; omega
                subst hx0
                obtain ⟨b2, off2, e2, hbl2, hcm⟩ := HC2.out (by rw [← Hm.out]; omega)
                subst e2
                obtain ⟨x, hx⟩ : ∃ x, x = xf j := ⟨_, rfl⟩
                obtain ⟨nb, hnb⟩ : ∃ nb, nb = nf j := ⟨_, rfl⟩
                obtain ⟨uj, huj⟩ : ∃ uj, uj = vf j := ⟨_, rfl⟩
                obtain ⟨s, hs⟩ : ∃ s, s = sy M j := ⟨_, rfl⟩
                obtain ⟨q, hq⟩ : ∃ q, q = cnt S s := ⟨_, rfl⟩
                obtain ⟨r, hr⟩ : ∃ r, r = rk S x := ⟨_, rfl⟩
                obtain ⟨y, hyy⟩ : ∃ y, y = uj / 2 ^ nb := ⟨_, rfl⟩
                have hrj := trace_range HTr.out (by rw [← Hn.out]; exact hvn1) (by rw [← Hn.out]; exact hvn) (show j ≤ m by omega)
                rw [← Hn.out, ← huj] at hrj
                rw [← huj, ← hnb, ← hs, ← hq, ← hyy, ← hx, ← hr] at x6
                rw [← huj, ← hnb, ← hs, ← hq, ← hyy] at x4 x5
                rw [← hx, ← Hn.out] at x1
                rw [← hx, ← hs] at x2
                rw [← hnb] at x3
                have hsl : s < 256 := by rw [hs]; exact sy_lt HBM.out j
                have hyu : y ≤ uj := by rw [hyy]; exact Nat.div_le_self _ _
                have hc1 : w8.cell? ⟨b, off + x, none⟩ = some (.int .u8 (s : Nat)) := by rw [← x2]; exact sym_cell HC.out hBr hb HB.out (by rw [← Hn.out]; exact x1)
                have hc3 : w8.cell? ⟨b2, off2 + j, none⟩ = some (.int .u8 (s : Nat)) := by rw [hs]; exact sym_cell hcm hBr hbl2 HBM.out (by rw [← Hm.out]; omega)
                have hc4 : w8.cell? ⟨gC, s, none⟩ = some (.int .i64 q) := by rw [hq]; exact arr_cell (arr_below HA5.out hbl hlC) hsl
                have hc5 : w8.cell? ⟨gR, x, none⟩ = some (.int .i64 r) := by rw [hr]; exact blk_cell (blk_below HR5.out hbl hlR') x1
                have hc6 : w8.cell? ⟨gV, j, none⟩ = some (.int .u64 uj) := by rw [blk_cell HV.out (s := j) (by omega)]; simp only [upTo]; rw [if_pos (by omega), huj]
                have hc7 : w8.cell? ⟨gV + 1, j, none⟩ = some (.int .u8 nb) := by rw [blk_cell HN.out (s := j) (by omega)]; simp only [upTo]; rw [if_pos (by omega), hnb]
                have hqr : (q : Int) + r = y := by omega
                have hy : (uj : Int) / 2 ^ nb = (y : Nat) := by rw [hyy, Int.natCast_ediv, Int.natCast_pow]; rfl
                have HHB : Hid (IsHb y (lg - nb)) := by rw [hyy]; exact bits_hb (by rw [← HL.out, ← Hn.out]; exact hrj.1) (by rw [← HL.out, ← Hn.out]; exact hrj.2) x3
                have hy1 : 1 ≤ y := Nat.le_trans (Nat.two_pow_pos _) HHB.out.1
                have hsub : (lg : Int) - ((lg : Int) - nb) = nb := by omega
                have hand := and_low uj nb (by omega) (by omega)
                obtain ⟨z, hz⟩ : ∃ z, z = uj % 2 ^ nb := ⟨_, rfl⟩
                rw [← hz] at hand
                obtain ⟨Y, hYY⟩ : ∃ Y, Y = y * 2 ^ nb := ⟨_, rfl⟩
                have hYz : Y + z = uj := by rw [hYY, hz, hyy, Nat.mul_comm]; exact Nat.div_add_mod uj (2 ^ nb)
                have hY : (y : Int) * 2 ^ nb = (Y : Nat) := by rw [hYY, Int.natCast_mul, Int.natCast_pow]; rfl
                have hp2 := (pow_bound nb (by omega)).1
                have hp1 := (pow_bound nb (by omega)).2
                have hsum : (Y : Int) - n + z = (uj : Int) - n := by omega
                have t6 : decide ((uj : Int) - n < 0) = false := by simp; omega
                have t7 : decide ((n : Int) ≤ (uj : Int) - n) = false := by simp; omega
                have hs1 : decide ((s : Int) < 256) = true := by simp; omega
                have HXN : Hid ((uj : Int) - n = (vf j : Int) - n) := by rw [huj]; rfl
                rw [← hx]
                clear hq hr hyy hz hYY huj hnb hs hx x2 x4 x5 x6 ev hcm HI HX
                have hx0' : (0 : Int) ≤ (x : Int) := by omega
                have hx1' : (x : Int) < n := by omega
                have hj1' : (j : Int) < m := by omega
                have hs0' : (0 : Int) ≤ (s : Int) := by omega
                have hs2' : (s : Int) < 256 := by omega
                go_wp2_with fail
                go_quiet (fail)
                go_wp2_with (go_at_call 14; refine (hb_y y lg nb _ (by omega) (by omega) x3 HHB).mono ?_; rintro e w' ⟨rfl, rfl⟩)
                go_roundw
                case rel => exact ⟨j, _, _, _, by omega, rfl, rfl, rfl, HXN, rfl⟩
                case measure => simp [intOf]
              · obtain rfl : k = 0 := by omega
                have hi0 : i0 = -1 := by have := HI.out; omega
                subst hi0
                have hx0 : x0 = (v : Int) - n := by have := HX.out; rw [HTr.out.1] at this; exact this
                subst hx0
                clear HI HX
                have hvv : (v : Int) - n + n = v := by omega
                go_wp2
                go_ret
                exact ⟨rfl, below_drewN hBr _⟩

end Go.Proofs.Qxb6629003a
