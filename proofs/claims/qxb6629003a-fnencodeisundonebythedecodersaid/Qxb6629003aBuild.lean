/-
  zzBuild: the encoder's table of a layout.
-/
import Derived.Test.Qxb6629003aTable
import Derived.Deep.RegionHeld3
import Derived.Deep.DrawnRows
import Derived.BigRegion
namespace Go.Proofs.Qxb6629003a
open Go.RowKit
set_option linter.unusedVariables false
attribute [local go_sem] zero27
attribute [local go_sem ↓] Go.wp_at_zero Go.wp_at_succ
theorem info46 : (Try.prog.info? 46).map (fun i => (i.zero, i.size, i.bytes)) = some (some (.int .u16 0), 1, 2) := by kernel_rfl

def fstTo (S : List Int) (k s : Nat) : Nat := if s < k then fst S s else 0

/-- The states of the first k places lie where they belong. -/
def Laid (w : World) (g n : Nat) (S : List Int) (k : Nat) : Prop := ∃ fv : Nat → Value, Blk w g 46 n fv ∧ ∀ x, x < k → fv (ix S x) = .int .u16 ((n + x : Nat))

theorem laid_step {w : World} {g n : Nat} {S : List Int} {k : Nat} (h : Laid w g n S k) (hk : k < S.length) {p : Nat} (hp : p = ix S k) : Laid (w.setCell ⟨g, p, none⟩ (.int .u16 ((n : Int) + k))) g n S (k + 1) := by
  obtain ⟨fv, h1, h2⟩ := h
  refine ⟨fun i => if i = p then .int .u16 ((n : Int) + k) else fv i, blk_set h1 (by simp) (fun i hi => by simp [hi]), fun x hx => ?_⟩
  by_cases e : x = k
  · subst e; simp [hp]
  · have := ix_ne S (show x < k by omega) hk
    simp only [hp]
    rw [if_neg this]
    exact h2 x (by omega)

theorem laid_far {w : World} {g n : Nat} {S : List Int} {k : Nat} (h : Laid w g n S k) {a : Addr} {v : Value} (hne : g ≠ a.block) : Laid (w.setCell a v) g n S k := by
  obtain ⟨fv, h1, h2⟩ := h
  exact ⟨fv, blk_far h1 hne, h2⟩
theorem laid_block {w w' : World} {g n : Nat} {S : List Int} {k : Nat} (h : Laid w g n S k) (e : w'.heap[g]? = w.heap[g]?) : Laid w' g n S k := by
  obtain ⟨fv, h1, h2⟩ := h
  exact ⟨fv, by unfold Blk; rw [e]; exact h1, h2⟩
theorem laid_lt {w : World} {g n : Nat} {S : List Int} {k : Nat} (h : Laid w g n S k) : g < w.heap.size := by
  obtain ⟨fv, h1, _⟩ := h
  exact blk_lt h1

theorem grown_refl (w : World) (r : Option Nat) : w.grownBy w r := ⟨rfl, rfl, rfl, Nat.le_refl _, fun _ _ _ => rfl⟩
theorem grown_set {w w' : World} {g : Nat} (h : w.grownBy w' (some g)) (i : Nat) (v : Value) : w.grownBy (w'.setCell ⟨g, i, none⟩ v) (some g) :=
  ⟨h.os, h.tape, h.output, by simpa [World.setCell] using h.size, fun k hk hne => (heap_setCell_other w' ⟨g, i, none⟩ k v (fun e => hne (by rw [e]))).trans (h.block k hk hne)⟩
theorem grown_drewN {w w' : World} {r : Option Nat} (h : w.grownBy w' r) (k : Nat) : w.grownBy (w'.drewN k) r := ⟨h.os, h.tape, h.output, h.size, h.block⟩
theorem grown_drew {w w' : World} {r : Option Nat} (h : w.grownBy w' r) : w.grownBy w'.drew r := ⟨h.os, h.tape, h.output, h.size, h.block⟩
theorem grown_alloc {w w' : World} {r : Option Nat} (h : w.grownBy w' r) (o : Obj) : w.grownBy (w'.alloc o) r :=
  ⟨h.os, h.tape, h.output, by have := h.size; simp; omega, fun k hk hne => (Below.heap_alloc w' o k (Nat.lt_of_lt_of_le hk h.size)).trans (h.block k hk hne)⟩
theorem arr_grown {w w' : World} {g : Nat} {f : Nat → Nat} {r : Option Nat} (h : Arr w g f) (hb : w.grownBy w' r) (hg : some g ≠ r) : Arr w' g f := by unfold Arr; rw [hb.block g (arr_lt h) hg]; exact h
theorem cell_grown {w w' : World} {r : Option Nat} (hb : w.grownBy w' r) {g i : Nat} (hg : g < w.heap.size) (hne : some g ≠ r) : w'.cell? ⟨g, i, none⟩ = w.cell? ⟨g, i, none⟩ := World.cell?_of_block (hb.block g hg hne)

theorem hb_at (q lg nb : Nat) (w : World) (h0 : 1 ≤ q) (h1 : q ≤ 65536) (hle : Hid (Nat.log2 q ≤ lg)) (hnb : Hid (nb = nbOf lg q)) : Calls Try.prog 14 #[.int .i64 q] w fun e w' => e = .returned (.int .i64 ((lg : Int) - nb)) ∧ w = w' := by
  refine (hb_any q w h0 h1).mono ?_
  rintro e w' ⟨h, rfl, hh, rfl⟩
  have := isHb_uniq hh (isHb_log2 h0)
  have h2 := hle.out
  refine ⟨?_, rfl⟩
  have : (h : Int) = (lg : Int) - nb := by rw [hnb.out, nbOf, this]; omega
  rw [this]

theorem qpow_le {q lg nb : Nat} (h1 : 1 ≤ q) (hq : q ≤ 2 ^ lg) (hl : Nat.log2 q ≤ lg) (hnb : nb = nbOf lg q) (hlg : lg ≤ 15) : (q : Int) * 2 ^ nb ≤ 65536 := by
  have hh := (isHb_log2 h1).2
  have e : 2 ^ (Nat.log2 q + 1) * 2 ^ nb = 2 ^ (lg + 1) := by rw [← Nat.pow_add]; congr 1; rw [hnb, nbOf]; omega
  have h2 : q * 2 ^ nb ≤ 2 ^ (Nat.log2 q + 1) * 2 ^ nb := Nat.mul_le_mul_right _ (Nat.le_of_lt hh)
  have h3 : 2 ^ (lg + 1) ≤ 2 ^ 16 := pow_mono (by omega)
  have h4 : q * 2 ^ nb ≤ 65536 := by rw [e] at h2; exact Nat.le_trans h2 h3
  have : ((q * 2 ^ nb : Nat) : Int) = (q : Int) * 2 ^ nb := by rw [Int.natCast_mul, Int.natCast_pow]; rfl
  omega

/-- What zzBuild leaves: the table's head, its states, its symbols, all in new blocks. -/
def Built (S : List Int) (lg gT gS gY : Nat) (w : World) : Prop :=
  w.heap[gT]? = some (.cells #[.int .u8 lg, .slice (some ⟨gS, 0, none⟩) S.length S.length, .slice (some ⟨gY, 0, none⟩) 256 256, .int .u8 0, .slice none 0 0] 56 (0, 0)) ∧
  Laid w gS S.length S S.length ∧ Blk w gY 50 768 (symTo S lg 256)

set_option maxRecDepth 20000 in
set_option maxHeartbeats 2000000 in
theorem build_any (S : List Int) (b off cap lg gC : Nat) (w : World) (hn : S.length ≤ 32768) (hn1 : 1 ≤ S.length) (hby : Bytes S) (hb : b < w.heap.size) (hc : ∀ k, k < S.length → w.cell? ⟨b, off + k, none⟩ = some (.int .u8 (S.getD k 0)))
    (hlg : lg ≤ 15) (hL : S.length = 2 ^ lg) (hC : Arr w gC (cnt S)) :
    Calls Try.prog 10 #[.slice (some ⟨b, off, none⟩) S.length cap, .int .u8 lg, .pointer (some ⟨gC, 0, none⟩)] w fun e w' => ∃ gT gS gY, e = .returned (.pointer (some ⟨gT, 0, none⟩)) ∧ Built S lg gT gS gY w' ∧ Below w.heap.size w w' ∧ w.heap.size ≤ gT ∧ w.heap.size ≤ gS ∧ w.heap.size ≤ gY := by
  obtain ⟨n, hn'⟩ : ∃ n, n = S.length := ⟨_, rfl⟩
  have Hn : Hid (n = S.length) := hn'
  rw [← hn'] at hn hn1 hc ⊢
  clear hn'
  have HC : Hid (∀ k, k < n → w.cell? ⟨b, off + k, none⟩ = some (.int .u8 (S.getD k 0))) := hc
  clear hc
  have HB : Hid (Bytes S) := hby
  clear hby
  have HCN : Hid (Arr w gC (cnt S)) := hC
  have hgC : gC < w.heap.size := arr_lt hC
  clear hC
  have HLg : Hid (n = 2 ^ lg) := by show n = 2 ^ lg; rw [Hn.out]; exact hL
  clear hL
  obtain ⟨i0, hi, hz0, hz1, hz2⟩ := info_parts info46
  go_enter Try.func10, Try.ntmps10
  go_wp2_with fail
  go_loopw [9, 10] (fun r i wr => ∃ k : Nat, k ≤ 256 ∧ i = .int .i64 k ∧ r = .int .i64 (fst S k) ∧ Hid (Arr wr w.heap.size (fstTo S k)) ∧ Below w.heap.size w wr) (fun _ i _ => 256 - (intOf i).toNat)
  case atStart => exact ⟨0, Nat.zero_le _, rfl, rfl, arr_congr (f := fun _ => 0) (arr_new w) (fun s _ => by simp [fstTo]), (Below.refl _ w).alloc (Nat.le_refl _) _⟩
  case round =>
    obtain ⟨k, hk, rfl, rfl, HF, hbl⟩ := hrel
    by_cases hlt : k < 256
    · have hcf := arr_cell HF.out hlt
      have hff := arr_free HF.out k
      have hcc := arr_cell (arr_below HCN.out hbl hgC) hlt
      have hfs : fst S (k + 1) ≤ n := by rw [Hn.out, ← fst_all HB.out]; exact fst_mono S (by omega)
      have hfe : Hid (fst S (k + 1) = fst S k + cnt S k) := rfl
      have hfb : fst S k + cnt S k ≤ n := hfs
      have HF' : Hid (Arr (wr.setCell ⟨w.heap.size, k, none⟩ (.int .i64 (fst S k))) w.heap.size (fstTo S (k + 1))) :=
        arr_set HF.out (by simp [fstTo]) (fun t ht => by
          simp only [fstTo]
          by_cases h : t < k
          · rw [if_pos h, if_pos (by omega)]
          · rw [if_neg h, if_neg (by omega)])
      clear HF hfs
      generalize fst S k = p at *
      generalize cnt S k = q at *
      have hd : decide ((k : Int) < 256) = true := by simp; omega
      go_wp2
      go_roundw
      case rel => exact ⟨k + 1, by omega, by go_num, by rw [hfe.out]; go_num, HF', hbl.setCell (Nat.le_refl _) _⟩
      case measure => simp [intOf]; omega
    · obtain rfl : k = 256 := by omega
      obtain ⟨w1, rfl⟩ : ∃ w1 : World, w1 = wr := ⟨_, rfl⟩
      have HF1 : Hid (Arr w1 w.heap.size (fst S)) := arr_congr HF.out (fun s hs => by simp [fstTo, hs])
      have hs1 : w.heap.size < w1.heap.size := arr_lt HF.out
      clear HF
      go_wp2_with (at_make; refine wpList_make_row _ rfl _ _ 45 rfl 46 i0 (.int .u16 0) Try.underlying45 hi hz0 hz1 rfl .i64 .i64 n rfl rfl (by rw [hz2]; omega) (by omega) ?_)
      go_loopw [13] (fun i wr => ∃ k : Nat, k ≤ n ∧ i = .int .i64 k ∧ Hid (Laid wr w1.heap.size n S k) ∧ Hid (Arr wr (w1.heap.size + 1) (cntTo S k)) ∧ Below w1.heap.size w1 wr) (fun i _ => n - (intOf i).toNat)
      case atStart =>
        refine ⟨0, Nat.zero_le _, rfl, ⟨fun _ => .int .u16 0, ?_, fun x hx => absurd hx (by omega)⟩, ?_, ?_⟩
        · exact blk_alloc (blk_made w1 _ n 46) _
        · exact arr_congr (f := fun _ => 0) (by have := arr_new (w1.alloc (.cells (madeCells #[.int .u16 0] n) 46)); simpa using this) (fun s _ => rfl)
        · exact ((Below.refl _ w1).alloc (Nat.le_refl _) _).alloc (by simp) _
      case round =>
        obtain ⟨k, hk, rfl, HL, HA, hbl2⟩ := hrel
        by_cases hlt2 : k < n
        · obtain ⟨s, hs⟩ : ∃ s, s = sy S k := ⟨_, rfl⟩
          have hsl : s < 256 := by rw [hs]; exact sy_lt HB.out k
          have hck : wr.cell? ⟨b, off + k, none⟩ = some (.int .u8 s) := by
            rw [hbl2.cell (p := ⟨b, off + k, none⟩) (Nat.lt_trans hb hs1), hbl.cell (p := ⟨b, off + k, none⟩) hb, HC.out k hlt2, hs]
            have := HB.out k
            simp only [sy]; congr 2; omega
          have HS : Hid (s = sy S k) := hs
          clear hs
          obtain ⟨q, hq⟩ : ∃ q, q = cntTo S k s := ⟨_, rfl⟩
          obtain ⟨p, hp⟩ : ∃ p, p = fst S s := ⟨_, rfl⟩
          have hpq : p + q < n := by
            have := ix_lt HB.out (x := k) (by rw [← Hn.out]; exact hlt2)
            rw [← Hn.out] at this
            unfold ix at this
            rw [hp, hq, HS.out]; exact this
          have HPQ : Hid (p + q = ix S k) := by show _ = _; rw [hp, hq, HS.out]; rfl
          have hcf : wr.cell? ⟨w.heap.size, s, none⟩ = some (.int .i64 p) := by rw [hp]; exact arr_cell (arr_below HF1.out hbl2 hs1) hsl
          have hca : wr.cell? ⟨w1.heap.size + 1, s, none⟩ = some (.int .i64 q) := by rw [hq]; exact arr_cell HA.out hsl
          have hfa := arr_free HA.out s
          obtain ⟨v0, hcs, hfs⟩ : ∃ v0, wr.cell? ⟨w1.heap.size, p + q, none⟩ = some v0 ∧ wr.frozen? ⟨w1.heap.size, p + q, none⟩ = false := by
            obtain ⟨fv, f1, _⟩ := HL.out
            exact ⟨_, blk_cell f1 hpq, blk_free f1 _⟩
          have hqk : q ≤ k := by rw [hq]; exact cntTo_le S k s
          have HQ : Hid (q = cntTo S k s) := hq
          clear hq hp
          have HL1 : Hid (Laid (wr.setCell ⟨w1.heap.size, p + q, none⟩ (.int .u16 ((n : Int) + k))) w1.heap.size n S (k + 1)) := laid_step HL.out (by rw [← Hn.out]; exact hlt2) HPQ.out
          have HA1 : Hid (Arr (wr.setCell ⟨w1.heap.size, p + q, none⟩ (.int .u16 ((n : Int) + k))) (w1.heap.size + 1) (cntTo S k)) := blk_far (f := fun s => .int .i64 (cntTo S k s)) HA.out (by simp)
          have HA2 : Hid (Arr ((wr.setCell ⟨w1.heap.size, p + q, none⟩ (.int .u16 ((n : Int) + k))).setCell ⟨w1.heap.size + 1, s, none⟩ (.int .i64 (q + 1 : Nat))) (w1.heap.size + 1) (cntTo S (k + 1))) :=
            arr_set HA1.out (by rw [HQ.out, HS.out]; exact cntTo_step S k) (fun t ht => cntTo_other S k t (by rw [← HS.out]; exact fun e => ht e.symm))
          have HL2 : Hid (Laid ((wr.setCell ⟨w1.heap.size, p + q, none⟩ (.int .u16 ((n : Int) + k))).setCell ⟨w1.heap.size + 1, s, none⟩ (.int .i64 (q + 1 : Nat))) w1.heap.size n S (k + 1)) := laid_far HL1.out (by simp)
          clear HL HA HL1 HA1 HQ HPQ
          go_wp2_with fail
          go_region
          all_goals go_wp2_with fail
          go_roundw
          case rel => exact ⟨k + 1, by omega, by go_num, HL2, HA2, ((hbl2.setCell (by simp) _).setCell (by simp) _).drew⟩
          case measure => simp [intOf]; omega
        · obtain rfl : k = n := by omega
          obtain ⟨w2, rfl⟩ : ∃ w2 : World, w2 = wr := ⟨_, rfl⟩
          have HF2 : Hid (Arr w2 w.heap.size (fst S)) := arr_below HF1.out hbl2 hs1
          have HC2 : Hid (Arr w2 gC (cnt S)) := arr_below (arr_below HCN.out hbl hgC) hbl2 (by omega)
          have hs2 : w1.heap.size < w2.heap.size := laid_lt HL.out
          clear HC HA HF1 HCN hi hz0 hz1 hz2
          obtain ⟨n, hnk⟩ : ∃ n, n = k := ⟨_, rfl⟩
          subst hnk
          go_wp2_with (go_at_call 15; refine (newTable_any _ _ _ _).mono ?_; rintro e w3 ⟨rfl, hw3⟩; have HW3 := (show Hid _ from hw3); clear hw3)
          have HT3 : Hid (w3.heap[w2.heap.size + 1]? = some (.cells #[.int .u8 lg, .slice (some ⟨w1.heap.size, 0, none⟩) n n, .slice (some ⟨w2.heap.size, 0, none⟩) 256 256, .int .u8 0, .slice none 0 0] 56 (0, 0))) := by
            rw [← HW3.out]; exact heap_alloc2_new w2 _ _
          have HY3 : Hid (Blk w3 w2.heap.size 50 768 (symTo S lg 0)) := by
            rw [← HW3.out]
            exact blk_congr (f := symZ) (heap_alloc2_old w2 _ _) (fun i _ => by unfold symTo; rw [if_neg (by omega)])
          have hb3 : Below w2.heap.size w2 w3 := by rw [← HW3.out]; exact ((Below.refl _ w2).alloc (Nat.le_refl _) _).alloc (by simp) _
          have hs3 : w3.heap.size = w2.heap.size + 2 := by rw [← HW3.out]; simp
          have HS3 : Hid (w3.heap.size = w2.heap.size + 2) := hs3
          have HF3 : Hid (Arr w3 w.heap.size (fst S)) := arr_below HF2.out hb3 (by omega)
          have HC3 : Hid (Arr w3 gC (cnt S)) := arr_below HC2.out hb3 (by omega)
          have HL3 : Hid (Laid w3 w1.heap.size n S n) := laid_block HL.out (hb3.block _ hs2)
          have hlt3 : w2.heap.size < w3.heap.size := by omega
          clear HW3 hs3 HF2 HC2 HL
          go_loopw [16] (fun i wr => ∃ k : Nat, k ≤ 256 ∧ i = .int .i64 k ∧ Hid (Blk wr w2.heap.size 50 768 (symTo S lg k)) ∧ Hid (w3.grownBy wr (some w2.heap.size))) (fun i _ => 256 - (intOf i).toNat)
          case atStart => exact ⟨0, Nat.zero_le _, rfl, HY3, grown_refl _ _⟩
          case round =>
            obtain ⟨k, hk, rfl, HY, HG⟩ := hrel
            by_cases hlt : k < 256
            · have hd : decide ((k : Int) < 256) = true := by simp; omega
              obtain ⟨q, hq⟩ : ∃ q, q = cnt S k := ⟨_, rfl⟩
              obtain ⟨p, hp⟩ : ∃ p, p = fst S k := ⟨_, rfl⟩
              have hcq : wr.cell? ⟨gC, k, none⟩ = some (.int .i64 q) := by rw [hq]; exact arr_cell (arr_grown HC3.out HG.out (by simp; omega)) hlt
              have hcp : wr.cell? ⟨w.heap.size, k, none⟩ = some (.int .i64 p) := by rw [hp]; exact arr_cell (arr_grown HF3.out HG.out (by simp; omega)) hlt
              by_cases hq0 : q = 0
              · subst hq0
                have HY' : Hid (Blk wr w2.heap.size 50 768 (symTo S lg (k + 1))) := blk_congr HY.out (fun i _ => (symTo_skip hq.symm i).symm)
                clear hq hp HY
                go_wp2
                go_roundw
                case rel => exact ⟨k + 1, by omega, by go_num, HY', HG⟩
                case measure => simp [intOf]; omega
              · have hpq : p + q ≤ n := by rw [hp, hq, Hn.out]; exact fst_cnt_le HB.out hlt
                have hqn : (q == 0) = false := by simpa using hq0
                have hqi : ((q : Int) == 0) = false := by simp; omega
                have hqle : q ≤ 2 ^ lg := by rw [← HLg.out]; omega
                have hh := isHb_log2 (q := q) (by omega)
                have HLE : Hid (Nat.log2 q ≤ lg) := isHb_le hh hqle
                obtain ⟨nb, hnb⟩ : ∃ nb, nb = nbOf lg q := ⟨_, rfl⟩
                have HNB : Hid (nb = nbOf lg q) := hnb
                have hnl : nb ≤ lg := by rw [hnb]; unfold nbOf; omega
                have hqb : (q : Int) * 2 ^ nb ≤ 65536 := qpow_le (by omega) hqle HLE.out hnb hlg
                have hqb0 : (0 : Int) ≤ (q : Int) * 2 ^ nb := Int.mul_nonneg (by omega) (Int.pow_nonneg (by omega))
                have HD : Hid (((nb : Int) * 65536 - (q : Int) * 2 ^ nb) % 4294967296 = IntKind.u32.wrap (dbits lg (cnt S k))) := by show _ = _; rw [← hq, dbits, ← hnb, IntKind.wrap_u32]
                have hsub : (lg : Int) - ((lg : Int) - nb) = nb := by omega
                have HQ : Hid (q = cnt S k) := hq
                have HP : Hid (p = fst S k) := hp
                clear hq hp hh hnb hqle
                have hct : wr.cell? ⟨w2.heap.size + 1, 2, none⟩ = some (.slice (some ⟨w2.heap.size, 0, none⟩) 256 256) := by
                  rw [cell_grown HG.out (by have := HS3.out; omega) (by simp), cell_of_row w3 _ 2 _ 56 (0, 0) HT3.out]; rfl
                go_wp2_with (go_at_call 14; refine (hb_at q lg nb _ (by omega) (by omega) HLE HNB).mono ?_; rintro e w' ⟨rfl, rfl⟩)
                have HYn : Hid (Blk (((wr.setCell ⟨w2.heap.size, k * 3, none⟩ (.int .u32 (((nb : Int) * 65536 - (q : Int) * 2 ^ nb) % 4294967296))).setCell ⟨w2.heap.size, k * 3 + 1, none⟩ (.int .i32 ((p : Int) - q))).setCell ⟨w2.heap.size, k * 3 + 2, none⟩ (.int .i32 p)) w2.heap.size 50 768 (symTo S lg (k + 1))) :=
                  blk_entry HY.out (by rw [← HQ.out]; exact hq0) HD.out (by rw [HP.out, HQ.out]) (by rw [HP.out])
                have hk0 : (0 : Int) ≤ (k : Int) := by omega
                have hk1 : (k : Int) < 256 := by omega
                have hne1 : ¬ w2.heap.size = w.heap.size := by omega
                have hne2 : ¬ w.heap.size = w2.heap.size := by omega
                have hw1 : IntKind.i64.wrap ((p : Int) - q) = (p : Int) - q := IntWalk.i64_in _ (by omega)
                have hw2 : IntKind.i32.wrap ((p : Int) - q) = (p : Int) - q := IntWalk.i32_in _ (by omega)
                have hw3 : IntKind.i32.wrap (p : Int) = (p : Int) := IntWalk.i32_in _ (by omega)
                go_region_held3 (fun w' => w'.cell? ⟨w.heap.size, k, none⟩ = some (.int .i64 p) ∧ w'.cell? ⟨w2.heap.size + 1, 2, none⟩ = some (.slice (some ⟨w2.heap.size, 0, none⟩) 256 256)) (go_keep)
                  (first | (go_at_call 16; refine (setSym_any (w2.heap.size + 1) w2.heap.size k _ _ _ (symTo S lg k) _ hlt (by exact hct) (by exact HY)).mono ?_; rintro e w' ⟨rfl, hw'⟩; subst hw'))
                all_goals go_wp2
                all_goals
                  go_roundw
                  case rel => exact ⟨k + 1, by omega, by go_num, HYn, grown_drew (grown_set (grown_set (grown_set HG.out _ _) _ _) _ _)⟩
                  case measure => simp [intOf]; omega
            · obtain rfl : k = 256 := by omega
              have HTr : Hid (wr.heap[w2.heap.size + 1]? = some (.cells #[.int .u8 lg, .slice (some ⟨w1.heap.size, 0, none⟩) n n, .slice (some ⟨w2.heap.size, 0, none⟩) 256 256, .int .u8 0, .slice none 0 0] 56 (0, 0))) := by
                show _ = _
                rw [HG.out.block _ (by have := HS3.out; omega) (by simp)]; exact HT3.out
              have HLr : Hid (Laid wr w1.heap.size n S n) := laid_block HL3.out (HG.out.block _ (by omega) (by simp; omega))
              have hbel : Below w.heap.size w wr := ((hbl.trans (hbl2.mono (by omega))).trans (hb3.mono (by omega))).grown HG.out (by omega) (fun k hk => by simp at hk; omega)
              go_wp2
              go_ret
              refine ⟨w2.heap.size + 1, w1.heap.size, w2.heap.size, rfl, ⟨?_, ?_, HY.out⟩, hbel, by omega, by omega, by omega⟩
              · rw [← Hn.out]; exact HTr.out
              · rw [← Hn.out]; exact HLr.out

end Go.Proofs.Qxb6629003a
