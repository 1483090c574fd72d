/-
  The walk of FnEncodeStepsAreTheSymbolsStates.
-/
import Derived.Test.Qxb6629003aEnc
namespace Go.Proofs.Qxb6629003a
open Go.RowKit
set_option linter.unusedVariables false
attribute [local go_sem] zero27

set_option maxRecDepth 20000 in
theorem steps_out (a0 a2 : Option Addr) (len0 cap0 len2 cap2 : Nat) (v : Int) (w : World) (h : 1048576 < len0 + len2) (hl : len0 ≤ maxLen) (hl2 : len2 ≤ maxLen) :
    Calls Try.prog 3 #[.slice a0 len0 cap0, .int .u32 v, .slice a2 len2 cap2] w fun e w' => e = .returned (.bool true) ∧ Below w.heap.size w w' := by
  go_enter Try.func3, Try.ntmps3
  go_wp2_with (go_at_call 5; refine (bytes5_out _ _ _ _ _ _ _ _ h hl hl2).mono ?_; rintro e w' ⟨rfl, rfl⟩)
  go_ret
  exact ⟨rfl, Below.refl _ _⟩

set_option maxRecDepth 20000 in
theorem steps_long (a0 a2 : Option Addr) (len0 cap0 len2 cap2 : Nat) (v : Int) (w : World) (h : len0 + len2 ≤ 1048576) (h1 : 32768 < len0 ∨ 65536 < len2) :
    Calls Try.prog 3 #[.slice a0 len0 cap0, .int .u32 v, .slice a2 len2 cap2] w fun e w' => e = .returned (.bool true) ∧ Below w.heap.size w w' := by
  by_cases c : 32768 < len0
  · have d1 : decide ((32768 : Int) < len0) = true := by simp; omega
    clear h1
    go_enter Try.func3, Try.ntmps3
    go_wp2_with (go_at_call 5; refine (bytes5_in _ _ _ _ _ _ _ _ h).mono ?_; rintro e w' ⟨rfl, rfl⟩)
    go_ret
    exact ⟨rfl, Below.refl _ _⟩
  · have d1 : decide ((32768 : Int) < len0) = false := by simp; omega
    have d2 : decide ((65536 : Int) < len2) = true := by simp; omega
    clear h1 c
    go_enter Try.func3, Try.ntmps3
    go_wp2_with (go_at_call 5; refine (bytes5_in _ _ _ _ _ _ _ _ h).mono ?_; rintro e w' ⟨rfl, rfl⟩)
    go_ret
    exact ⟨rfl, Below.refl _ _⟩

set_option maxRecDepth 20000 in
theorem steps_zero (a0 a2 : Option Addr) (cap0 len2 cap2 : Nat) (v : Int) (w : World) (h2 : len2 ≤ 65536) :
    Calls Try.prog 3 #[.slice a0 0 cap0, .int .u32 v, .slice a2 len2 cap2] w fun e w' => e = .returned (.bool true) ∧ Below w.heap.size w w' := by
  have d2 : decide ((65536 : Int) < len2) = false := by simp; omega
  have d3 : decide ((1048576 : Int) < len2) = false := by simp; omega
  go_enter Try.func3, Try.ntmps3
  go_wp2_with (go_at_call 5; refine (bytes5_in _ _ _ _ _ _ _ _ (by omega)).mono ?_; rintro e w' ⟨rfl, rfl⟩)
  refine (log_zero _).mono ?_
  rintro e w' ⟨k, bb, rfl, hb, rfl⟩
  cases bb with
  | true => exact absurd (hb rfl).1.symm (Nat.pos_iff_ne_zero.1 (Nat.two_pow_pos k))
  | false =>
    go_wp2
    go_ret
    exact ⟨rfl, Below.refl _ _⟩

/-- How many bits a step from v on symbol s writes. -/
def nbits (S : List Int) (lg s v : Nat) : Nat := bitsOf lg (cnt S s) (Nat.log2 (cnt S s)) v

theorem enc_at (S : List Int) (lg s v nb gE gT gS gY : Nat) (w : World) (hby : Hid (Bytes S)) (hL : Hid (S.length = 2 ^ lg)) (hlg : lg ≤ 15) (hs : s < 256) (hq : Hid (cnt S s ≠ 0)) (hv : Hid (2 ^ lg ≤ v)) (hv2 : Hid (v < 2 * 2 ^ lg))
    (hB : Hid (Built S lg gT gS gY w)) (hE : Hid (State w gE gT v)) (hnb : Hid (nb = nbits S lg s v)) :
    Calls Try.prog 11 #[.pointer (some ⟨gE, 0, none⟩), .int .u8 s] w fun e w' => ∃ x : Nat, e = .returned (.tuple #[.int .u64 v, .int .u8 nb]) ∧ StepOk S lg s v nb x ∧ State w' gE gT (S.length + x) ∧ w.grownBy w' (some gE) := by
  refine (enc_any S lg s v gE gT gS gY w hby.out hL.out hlg hs hq.out hv.out hv2.out hB.out hE.out).mono ?_
  rintro e w' ⟨nb', x, rfl, hst, h3, h4⟩
  have hq2 : cnt S s ≤ 2 ^ lg := by rw [← hL.out]; exact cnt_le S s
  have hq0 : 1 ≤ cnt S s := by have := hq.out; omega
  obtain ⟨b1, b2, b3, b4⟩ := bits_ok (isHb_log2 hq0) hq2 hv.out hv2.out
  have e1 : nb = nb' := by
    rw [hnb.out]
    unfold nbits
    rcases Nat.lt_trichotomy (bitsOf lg (cnt S s) (Nat.log2 (cnt S s)) v) nb' with h | h | h
    · have := bits_first hst.2.2.2.1 h; omega
    · exact h
    · have := bits_first b1 h; have := hst.2.2.2.2.1; omega
  subst e1
  exact ⟨x, rfl, hst, h3, h4⟩

theorem counts_at (S : List Int) (n b off cap : Nat) (w : World) (Hn : Hid (n = S.length)) (hn : n ≤ 32768) (hby : Hid (Bytes S)) (hb : b < w.heap.size) (hc : Hid (∀ k, k < S.length → w.cell? ⟨b, off + k, none⟩ = some (.int .u8 (S.getD k 0)))) :
    Calls Try.prog 7 #[.slice (some ⟨b, off, none⟩) n cap] w fun e w' => e = .returned (.agg (counted S)) ∧ Below w.heap.size w w' := by
  have e := Hn.out; subst e
  exact counts_any S b off cap w hn hby.out hb hc.out
theorem ranks_at (S : List Int) (n b off cap : Nat) (w : World) (Hn : Hid (n = S.length)) (hn : n ≤ 32768) (hby : Hid (Bytes S)) (hb : b < w.heap.size) (hc : Hid (∀ k, k < S.length → w.cell? ⟨b, off + k, none⟩ = some (.int .u8 (S.getD k 0)))) :
    Calls Try.prog 8 #[.slice (some ⟨b, off, none⟩) n cap] w fun e w' => ∃ g, e = .returned (.slice (some ⟨g, 0, none⟩) n n) ∧ Below w.heap.size w w' ∧ Hid (Blk w' g 3 n (fun x => .int .i64 (rk S x))) ∧ w.heap.size ≤ g := by
  have e := Hn.out; subst e
  refine (ranks_any S b off cap w hn hby.out hb hc.out).mono ?_
  rintro e w' ⟨rfl, h1, h2⟩
  exact ⟨_, rfl, h1, h2, by omega⟩
theorem build_at (S : List Int) (n b off cap lg gC : Nat) (w : World) (Hn : Hid (n = S.length)) (hn : n ≤ 32768) (hn1 : 1 ≤ n) (hby : Hid (Bytes S)) (hb : b < w.heap.size) (hc : Hid (∀ k, k < S.length → w.cell? ⟨b, off + k, none⟩ = some (.int .u8 (S.getD k 0))))
    (hlg : lg ≤ 15) (hL : Hid (S.length = 2 ^ lg)) (hC : Hid (Arr w gC (cnt S))) :
    Calls Try.prog 10 #[.slice (some ⟨b, off, none⟩) n cap, .int .u8 lg, .pointer (some ⟨gC, 0, none⟩)] w fun e w' => ∃ gT gS gY, e = .returned (.pointer (some ⟨gT, 0, none⟩)) ∧ Hid (Built S lg gT gS gY w') ∧ Below w.heap.size w w' ∧ w.heap.size ≤ gT ∧ w.heap.size ≤ gS ∧ w.heap.size ≤ gY := by
  have e := Hn.out; subst e
  exact build_any S b off cap lg gC w hn hn1 hby.out hb hc.out hlg hL.out hC.out

theorem cells_below {w w' : World} {B b off : Nat} {S : List Int} (h : Hid (∀ k, k < S.length → w.cell? ⟨b, off + k, none⟩ = some (.int .u8 (S.getD k 0)))) (hb : Below B w w') (hl : b < B) :
    Hid (∀ k, k < S.length → w'.cell? ⟨b, off + k, none⟩ = some (.int .u8 (S.getD k 0))) := fun k hk => (hb.cell (p := ⟨b, off + k, none⟩) hl).trans (h.out k hk)

/-- Symbol k of a message, in a later world. -/
theorem sym_cell {w w' : World} {B b off k : Nat} {M : List Int} (h : ∀ k, k < M.length → w.cell? ⟨b, off + k, none⟩ = some (.int .u8 (M.getD k 0))) (hb : Below B w w') (hl : b < B) (hM : Bytes M) (hk : k < M.length) :
    w'.cell? ⟨b, off + k, none⟩ = some (.int .u8 (sy M k : Nat)) := by
  rw [hb.cell (p := ⟨b, off + k, none⟩) hl, h k hk]
  have := hM k
  simp only [sy]; congr 2; omega

theorem built_move {S : List Int} {lg gT gS gY : Nat} {w w' : World} (h : Built S lg gT gS gY w) (e : ∀ g, g = gT ∨ g = gS ∨ g = gY → w'.heap[g]? = w.heap[g]?) : Built S lg gT gS gY w' :=
  ⟨(e gT (by simp)).trans h.1, laid_block h.2.1 (e gS (by simp)), by unfold Blk; rw [e gY (by simp)]; exact h.2.2⟩
theorem built_lt {S : List Int} {lg gT gS gY : Nat} {w : World} (h : Built S lg gT gS gY w) : gT < w.heap.size ∧ gS < w.heap.size ∧ gY < w.heap.size := ⟨lt_of_block h.1, laid_lt h.2.1, blk_lt h.2.2⟩

theorem counted_arr {w : World} (S : List Int) : Arr ((w.alloc (.cells zeros 27)).setRow w.heap.size (counted S)) w.heap.size (cnt S) := setRow_heap _ _ _ _ _ _ (heap_alloc_new w _)

set_option maxRecDepth 20000 in
set_option maxHeartbeats 4000000 in
theorem steps_main (S M : List Int) (b off cap0 cap2 : Nat) (a2 : Option Addr) (v : Nat) (w : World) (hn1 : 1 ≤ S.length) (hn : S.length ≤ 32768) (hm : M.length ≤ 65536) (hv : v < 4294967296) (hby : Bytes S) (hbm : Bytes M)
    (hb : b < w.heap.size) (hc : ∀ k, k < S.length → w.cell? ⟨b, off + k, none⟩ = some (.int .u8 (S.getD k 0)))
    (hc2 : 0 < M.length → ∃ b2 off2, a2 = some ⟨b2, off2, none⟩ ∧ b2 < w.heap.size ∧ ∀ k, k < M.length → w.cell? ⟨b2, off2 + k, none⟩ = some (.int .u8 (M.getD k 0))) :
    Calls Try.prog 3 #[.slice (some ⟨b, off, none⟩) S.length cap0, .int .u32 v, .slice a2 M.length cap2] w fun e w' => e = .returned (.bool true) ∧ Below w.heap.size w w' := by
  obtain ⟨n, hn'⟩ : ∃ n, n = S.length := ⟨_, rfl⟩
  have Hn : Hid (n = S.length) := hn'
  obtain ⟨m, hm'⟩ : ∃ m, m = M.length := ⟨_, rfl⟩
  have Hm : Hid (m = M.length) := hm'
  have HC : Hid (∀ k, k < S.length → w.cell? ⟨b, off + k, none⟩ = some (.int .u8 (S.getD k 0))) := hc
  have HC2 : Hid (0 < M.length → ∃ b2 off2, a2 = some ⟨b2, off2, none⟩ ∧ b2 < w.heap.size ∧ ∀ k, k < M.length → w.cell? ⟨b2, off2 + k, none⟩ = some (.int .u8 (M.getD k 0))) := hc2
  rw [← hn'] at hn hn1
  rw [← hm'] at hm
  have HB : Hid (Bytes S) := hby
  have HBM : Hid (Bytes M) := hbm
  rw [← hn', ← hm']
  clear hn' hm' hc hc2 hby hbm
  have d1 : decide ((32768 : Int) < n) = false := by simp; omega
  have d2 : decide ((65536 : Int) < m) = false := by simp; omega
  have d3 : decide ((1048576 : Int) < (n : Int) + m) = false := by simp; omega
  go_enter Try.func3, Try.ntmps3
  go_wp2_with (go_at_call 5; refine (bytes5_in _ _ _ _ _ _ _ _ (by omega)).mono ?_; rintro e w' ⟨rfl, rfl⟩)
  refine (log_any n w hn1 hn).mono ?_
  rintro e w' ⟨lg, bb, rfl, hlog, rfl⟩
  cases bb with
  | false =>
    clear hlog
    go_wp2
    go_ret
    exact ⟨rfl, Below.refl _ _⟩
  | true =>
    obtain ⟨hL, hlg⟩ := hlog rfl
    have HL : Hid (S.length = 2 ^ lg) := by show _ = _; rw [← Hn.out]; exact hL
    clear hlog hL
    by_cases hv1 : v < n
    · have e1 : decide ((v : Int) < n) = true := by simp; omega
      go_wp2
      go_ret
      exact ⟨rfl, Below.refl _ _⟩
    by_cases hv2 : 2 * n ≤ v
    · have e1 : decide ((v : Int) < n) = false := by simp; omega
      have e2 : decide (2 * (n : Int) ≤ v) = true := by simp; omega
      go_wp2
      go_ret
      exact ⟨rfl, Below.refl _ _⟩
    have e1 : decide ((v : Int) < n) = false := by simp; omega
    have e2 : decide (2 * (n : Int) ≤ v) = false := by simp; omega
    have hn2 : (n : Int) ≤ v := by omega
    clear e1 e2 d1 d2 d3
    go_wp2_with (first
      | (go_at_call 7; refine (counts_at S n b off cap0 w Hn hn HB hb HC).mono ?_; rintro e w1 ⟨rfl, hB1⟩)
      | (refine wpList_store_row rfl 27 (.tmp 10) (.tmp 64) (by rfl) w1.heap.size (counted S) (by rfl) (by rfl) 27 zeros (heap_alloc_new w1 _) (by rw [size27]; simp [counted, tab_length]) (by simp [counted, zeros, tab_length]) (counted_one S) ?_))
    obtain ⟨w2, hw2⟩ : ∃ w2, w2 = (w1.alloc (.cells zeros 27)).setRow w1.heap.size (counted S) := ⟨_, rfl⟩
    have HA2 : Hid (Arr w2 w1.heap.size (cnt S)) := by rw [hw2]; exact counted_arr S
    have hb2 : Below w1.heap.size w1 w2 := by rw [hw2]; exact below_setRow ((Below.refl _ w1).alloc (Nat.le_refl _) _) (Nat.le_refl _) _
    have hB2 : Below w.heap.size w w2 := hB1.trans (hb2.mono hB1.size)
    have hgC : w1.heap.size < w2.heap.size := arr_lt HA2.out
    have hwC : w.heap.size ≤ w1.heap.size := hB1.size
    rw [← hw2]
    clear hw2 hb2 hB1
    generalize w1.heap.size = gC at *
    clear w1
    go_loop [11] (fun i => ∃ k : Nat, k ≤ m ∧ i = .int .i64 k ∧ Hid (∀ j, j < k → cnt S (sy M j) ≠ 0)) (fun i => m - (intOf i).toNat)
    case atStart => exact ⟨0, Nat.zero_le _, rfl, fun j hj => absurd hj (by omega)⟩
    case round =>
      obtain ⟨k, hk, rfl, HK⟩ := hrel
      by_cases hlt : k < m
      · obtain ⟨b2, off2, e2, hbl2, hcm⟩ := HC2.out (by rw [← Hm.out]; omega)
        subst e2
        obtain ⟨s, hs⟩ : ∃ s, s = sy M k := ⟨_, rfl⟩
        have hsl : s < 256 := by rw [hs]; exact sy_lt HBM.out k
        have hck : w2.cell? ⟨b2, off2 + k, none⟩ = some (.int .u8 (s : Nat)) := by rw [hs]; exact sym_cell hcm hB2 hbl2 HBM.out (by rw [← Hm.out]; exact hlt)
        have hcc := arr_cell HA2.out hsl
        have hs1 : decide ((s : Int) < 256) = true := by simp; omega
        have hlt' : decide ((k : Int) < m) = true := by simp; omega
        by_cases hq0 : cnt S s = 0
        · rw [hq0] at hcc
          clear hcm hs HC2
          go_wp2
          go_ret
          exact ⟨rfl, hB2⟩
        · have hq1 : ((cnt S s : Int) == 0) = false := by simp; omega
          have HK' : Hid (∀ j, j < k + 1 → cnt S (sy M j) ≠ 0) := fun j hj => by
            by_cases h : j < k
            · exact HK.out j h
            · obtain rfl : j = k := by omega
              rw [← hs]; exact hq0
          clear hcm hs hq0
          go_wp2
          go_round
          case rel => exact ⟨k + 1, by omega, by go_num, HK'⟩
          case measure => simp [intOf]; omega
      · obtain rfl : k = m := by omega
        have HC' := cells_below HC hB2 hb
        go_wp2_with (first
          | (go_at_call 8; refine (ranks_at S n b off cap0 w2 Hn hn HB (by have := hB2.size; omega) HC').mono ?_; rintro e w3 ⟨gR, rfl, hB3, HR3, hgR⟩)
          | (go_at_call 10; refine (build_at S n b off cap0 lg gC w3 Hn hn hn1 HB (by have := hB2.size; have := hB3.size; omega) (cells_below HC' hB3 (by have := hB2.size; omega)) hlg HL (arr_below HA2.out hB3 hgC)).mono ?_; rintro e w4 ⟨gT, gS, gY, rfl, HBt, hB4, hgT, hgS, hgY⟩)
          | (go_at_call 9; refine (newState_any _ _ _).mono ?_; rintro e w5 ⟨rfl, hw5⟩; have HW5 := (show Hid _ from hw5); clear hw5))
        obtain ⟨m, hmk⟩ : ∃ m, m = k := ⟨_, rfl⟩
        subst hmk
        obtain ⟨gE, hgE⟩ : ∃ gE, gE = w4.heap.size := ⟨_, rfl⟩
        have HE5 : Hid (State w5 gE gT v) := by rw [← HW5.out, hgE]; exact heap_alloc_new w4 _
        have hb5 : Below w4.heap.size w4 w5 := by rw [← HW5.out]; exact (Below.refl _ w4).alloc (Nat.le_refl _) _
        obtain ⟨t1, t2, t3⟩ := built_lt HBt.out
        have HB5 : Hid (Built S lg gT gS gY w5) := built_move HBt.out (fun g hg => hb5.block g (by rcases hg with rfl | rfl | rfl <;> assumption))
        have hlR : gR < w3.heap.size := blk_lt HR3.out
        have hz1 := hB2.size
        have hz2 := hB3.size
        have hz3 := hB4.size
        have hz4 := hb5.size
        have HR5 : Hid (Blk w5 gR 3 n (fun x => .int .i64 (rk S x))) := blk_below (blk_below HR3.out hB4 hlR) hb5 (by omega)
        have HA5 : Hid (Arr w5 gC (cnt S)) := arr_below (arr_below (arr_below HA2.out hB3 hgC) hB4 (by omega)) hb5 (by omega)
        have hB5 : Below w.heap.size w w5 := ((hB2.trans (hB3.mono (by omega))).trans (hB4.mono (by omega))).trans (hb5.mono (by omega))
        have hgE5 : gE < w5.heap.size := lt_of_block HE5.out
        have hlC : gC < gE := by omega
        have hlR' : gR < gE := by omega
        have hlT : gT < gE ∧ gS < gE ∧ gY < gE := by omega
        have hlw : w.heap.size ≤ gE := by omega
        rw [← hgE]
        have hvn : v < 2 * n := by omega
        have hvn1 : n ≤ v := by omega
        clear HW5 hb5 t1 t2 t3 HBt HR3 HA2 hB2 hB3 hB4 hgC hlR hz1 hz2 hz3 hz4 HC' hgT hgS hgY hgR hwC hk hlt hgE hv1 hv2 hn2 hv
        go_loopw [14, 15] (fun c i wr => ∃ k u : Nat, k ≤ m ∧ i = .int .i64 k ∧ c = .int .u32 u ∧ n ≤ u ∧ u < 2 * n ∧ Hid (State wr gE gT u) ∧ Hid (w5.grownBy wr (some gE))) (fun _ i _ => m - (intOf i).toNat)
        case atStart => exact ⟨0, v, Nat.zero_le _, rfl, rfl, hvn1, hvn, HE5, grown_refl _ _⟩
        case round =>
          obtain ⟨k, u, hk, rfl, rfl, hu1, hu2, HE, HG⟩ := hrel
          clear HE5 hvn hvn1
          by_cases hlt : k < m
          · obtain ⟨b2, off2, e2, hbl2, hcm⟩ := HC2.out (by rw [← Hm.out]; omega)
            subst e2
            obtain ⟨s, hs⟩ : ∃ s, s = sy M k := ⟨_, rfl⟩
            have hsl : s < 256 := by rw [hs]; exact sy_lt HBM.out k
            have HQ0 : Hid (cnt S s ≠ 0) := by rw [hs]; exact HK.out k hlt
            have hBr : Below w.heap.size w wr := hB5.grown HG.out (by have := hB5.size; omega) (fun g hg => by simp at hg; omega)
            have hck : wr.cell? ⟨b2, off2 + k, none⟩ = some (.int .u8 (s : Nat)) := by rw [hs]; exact sym_cell hcm hBr hbl2 HBM.out (by rw [← Hm.out]; exact hlt)
            obtain ⟨q, hq⟩ : ∃ q, q = cnt S s := ⟨_, rfl⟩
            have hcc : wr.cell? ⟨gC, s, none⟩ = some (.int .i64 q) := by rw [hq]; exact arr_cell (arr_grown HA5.out HG.out (by simp; omega)) hsl
            have hqn : q ≤ n := by rw [hq, Hn.out]; exact cnt_le S s
            have hq1 : 1 ≤ q := by have := HQ0.out; omega
            have HQ : Hid (q = cnt S s) := hq
            have hs1 : decide ((s : Int) < 256) = true := by simp; omega
            have hlt' : decide ((k : Int) < m) = true := by simp; omega
            have HBr : Hid (Built S lg gT gS gY wr) := built_move HB5.out (fun g hg => HG.out.block g (by rcases hg with rfl | rfl | rfl <;> omega) (by simp; rcases hg with rfl | rfl | rfl <;> omega))
            have HU1 : Hid (2 ^ lg ≤ u) := by show _ ≤ _; rw [← HL.out, ← Hn.out]; exact hu1
            have HU2 : Hid (u < 2 * 2 ^ lg) := by show _ < _; rw [← HL.out, ← Hn.out]; exact hu2
            obtain ⟨nb, hnb⟩ : ∃ nb, nb = nbits S lg s u := ⟨_, rfl⟩
            have HNB : Hid (nb = nbits S lg s u) := hnb
            have hbits := bits_ok (isHb_log2 (q := cnt S s) (by omega)) (by rw [← HL.out]; exact cnt_le S s) HU1.out HU2.out
            have hbits' : q ≤ u / 2 ^ nb ∧ u / 2 ^ nb < 2 * q ∧ nb ≤ lg := by rw [hq, hnb]; exact ⟨hbits.1, hbits.2.1, hbits.2.2.1⟩
            have HBI : Hid (q ≤ u / 2 ^ nb ∧ u / 2 ^ nb < 2 * q) := ⟨hbits'.1, hbits'.2.1⟩
            have hnl := hbits'.2.2
            clear hbits hbits' hnb hq hcm hs
            go_wp2_with fail
            go_loop [18] (fun t => ∃ j : Nat, j ≤ nb ∧ t = .int .u8 j) (fun t => nb - (intOf t).toNat)
            case atStart => exact ⟨0, Nat.zero_le _, rfl⟩
            case round =>
              obtain ⟨j, hj, rfl⟩ := hrel
              obtain ⟨y, hyy⟩ : ∃ y, y = u / 2 ^ j := ⟨_, rfl⟩
              have hy : (u : Int) / 2 ^ j = (y : Nat) := by rw [hyy, Int.natCast_ediv, Int.natCast_pow]; rfl
              have hyu : y ≤ u := by rw [hyy]; exact Nat.div_le_self _ _
              by_cases hjn : j < nb
              · have h2q : 2 * q ≤ y := by rw [hyy]; exact bits_first HBI.out.1 hjn
                clear hyy
                have t1 : decide ((q : Int) ≤ y) = true := by simp; omega
                have t2 : decide ((y : Int) < 2 * (q : Int)) = false := by simp; omega
                go_wp2
                go_round
                case rel => exact ⟨j + 1, by omega, by go_num⟩
                case measure => simp [intOf]; omega
              · obtain rfl : j = nb := by omega
                have hq1' : q ≤ y := by rw [hyy]; exact HBI.out.1
                have hq2' : y < 2 * q := by rw [hyy]; exact HBI.out.2
                have HYY : Hid (y = u / 2 ^ j) := hyy
                clear hyy
                have t1 : decide ((q : Int) ≤ y) = true := by simp; omega
                have t2 : decide ((y : Int) < 2 * (q : Int)) = true := by simp; omega
                go_wp2_with (go_at_call 11; refine (enc_at S lg s u j gE gT gS gY wr HB HL hlg hsl HQ0 HU1 HU2 HBr HE HNB).mono ?_; rintro e w6 ⟨x, rfl, hst, hE6, hG6⟩; have HST := (show Hid _ from hst); have HE6 := (show Hid _ from hE6); have HG6 := (show Hid _ from hG6); clear hst hE6 hG6)
                obtain ⟨x1, x2, x3, x4, x5, x6⟩ := HST.out
                have hxn : x < n := by rw [Hn.out]; exact x1
                have hE1 : w6.cell? ⟨gE, 1, none⟩ = some (.int .u32 ((n : Int) + x)) := by
                  rw [cell_of_row w6 gE 1 _ 44 (0, 0) HE6.out, ← Hn.out]; rfl
                have HG' : Hid (w5.grownBy w6 (some gE)) := ⟨HG6.out.os.trans HG.out.os, HG6.out.tape.trans HG.out.tape, HG6.out.output.trans HG.out.output, Nat.le_trans HG.out.size HG6.out.size,
                  fun g hg hne => (HG6.out.block g (Nat.lt_of_lt_of_le hg HG.out.size) hne).trans (HG.out.block g hg hne)⟩
                have hB6 : Below w.heap.size w w6 := hB5.grown HG'.out (by have := hB5.size; omega) (fun g hg => by simp at hg; omega)
                have hsx : w6.cell? ⟨b, off + x, none⟩ = some (.int .u8 (s : Nat)) := by rw [← x2]; exact sym_cell HC.out hB6 hb HB.out x1
                obtain ⟨r, hr⟩ : ∃ r, r = rk S x := ⟨_, rfl⟩
                have hrx : w6.cell? ⟨gR, x, none⟩ = some (.int .i64 r) := by rw [hr]; exact blk_cell (blk_grown HR5.out HG'.out (by simp; omega)) hxn
                have hry : q + r = y := by rw [hr, HQ.out, HYY.out]; exact x6
                have HE7 : Hid (State w6 gE gT (n + x)) := by rw [Hn.out]; exact HE6.out
                have hrr : r ≤ 32768 := by omega
                have t3 : ((r : Int) != (y : Int) - q) = false := by simp; omega
                have t4 : (n : Int) + x - n = x := by omega
                have t5 : decide ((n : Int) + x < n) = false := by simp; omega
                have t6 : decide (2 * (n : Int) ≤ (n : Int) + x) = false := by simp; omega
                clear hr x1 x2 x3 x4 x5 x6 HST HE6 HG6 hry hy
                have hy : (u : Int) / 2 ^ j = (y : Nat) := by rw [HYY.out, Int.natCast_ediv, Int.natCast_pow]; rfl
                refine (stateValue_any gE _ w6 hE1).mono ?_
                rintro e w' ⟨rfl, rfl⟩
                go_wp2
                go_roundw
                case rel => exact ⟨k + 1, n + x, by omega, by go_num, by go_num, by omega, by omega, HE7, HG'⟩
                case measure => simp [intOf]; omega
          · go_wp2
            go_ret
            exact ⟨rfl, hB5.grown HG.out (by have := hB5.size; omega) (fun g hg => by simp at hg; omega)⟩

end Go.Proofs.Qxb6629003a
