/-
  Blocks of cells by a function of the place; zzRanks.
-/
import Derived.Test.Qxb6629003aArr
import Derived.Deep.OwnRows
namespace Go.Proofs.Qxb6629003a
open Go.RowKit
set_option linter.unusedVariables false

def rowV (n : Nat) (f : Nat → Value) : List Value := (List.range n).map f
theorem rowV_length (n : Nat) (f : Nat → Value) : (rowV n f).length = n := by simp [rowV]
theorem rowV_get (n : Nat) (f : Nat → Value) {s : Nat} (h : s < n) : (rowV n f)[s]? = some (f s) := by
  simp [rowV, List.getElem?_map, List.getElem?_range h]

/-- Block g holds n cells, cell i the value f i. -/
def Blk (w : World) (g : Nat) (t : TypeId) (n : Nat) (f : Nat → Value) : Prop := w.heap[g]? = some (.cells (rowV n f).toArray t (0, 0))

section
variable {w w' : World} {g B : Nat} {t : TypeId} {n : Nat} {f f' : Nat → Value}
theorem blk_cell (h : Blk w g t n f) {s : Nat} (hs : s < n) : w.cell? ⟨g, s, none⟩ = some (f s) := by
  rw [cell_of_row w g s _ t (0, 0) h]; simpa using rowV_get n f hs
theorem blk_free (h : Blk w g t n f) (s : Nat) : w.frozen? ⟨g, s, none⟩ = false := frozen_of_row w g s _ t h
theorem blk_lt (h : Blk w g t n f) : g < w.heap.size := lt_of_block h
theorem rowV_set (f f' : Nat → Value) (n s : Nat) (v : Value) (h1 : f' s = v) (h2 : ∀ i, i ≠ s → f' i = f i) : (rowV n f).toArray.setIfInBounds s v = (rowV n f').toArray := by
  rw [List.setIfInBounds_toArray]
  congr 1
  apply List.ext_getElem?
  intro i
  by_cases hi : i < n
  · rw [List.getElem?_set, rowV_get n f' hi]
    by_cases e : s = i
    · subst e; rw [if_pos rfl, if_pos (by rw [rowV_length]; exact hi), h1]
    · rw [if_neg e, rowV_get n f hi, h2 i (fun x => e x.symm)]
  · rw [List.getElem?_eq_none (by simp [rowV_length]; omega), List.getElem?_eq_none (by simp [rowV_length]; omega)]
theorem blk_set (h : Blk w g t n f) {s : Nat} {v : Value} (h1 : f' s = v) (h2 : ∀ i, i ≠ s → f' i = f i) : Blk (w.setCell ⟨g, s, none⟩ v) g t n f' := by
  unfold Blk; rw [heap_setCell_same w g s _ t _ h, rowV_set f f' n s v h1 h2]
theorem blk_far (h : Blk w g t n f) {a : Addr} {v : Value} (hne : g ≠ a.block) : Blk (w.setCell a v) g t n f := by
  unfold Blk; rw [heap_setCell_other _ _ _ _ hne]; exact h
theorem blk_below (h : Blk w g t n f) (hb : Below B w w') (hg : g < B) : Blk w' g t n f := by unfold Blk; rw [hb.block g hg]; exact h
theorem blk_grown {r : Option Nat} (h : Blk w g t n f) (hb : w.grownBy w' r) (hg : some g ≠ r) : Blk w' g t n f := by unfold Blk; rw [hb.block g (blk_lt h) hg]; exact h
theorem blk_congr (h : Blk w g t n f) (e : ∀ s, s < n → f s = f' s) : Blk w g t n f' := by
  have : rowV n f = rowV n f' := List.map_congr_left fun s hs => e s (List.mem_range.1 hs)
  unfold Blk; rw [← this]; exact h
theorem blk_drewN (h : Blk w g t n f) (k : Nat) : Blk (w.drewN k) g t n f := h
theorem blk_alloc (h : Blk w g t n f) (o : Obj) : Blk (w.alloc o) g t n f := by unfold Blk; rw [Below.heap_alloc w o g (blk_lt h)]; exact h
end

theorem made_list (z : Value) (n : Nat) : (madeCells #[z] n).toList = List.replicate n z := by
  apply List.ext_getElem
  · simp [size_madeCells]
  · intro i h1 h2
    simp [madeCells, Nat.mod_one]
theorem made_row (z : Value) (n : Nat) : madeCells #[z] n = (rowV n fun _ => z).toArray := by
  rw [← Array.toArray_toList (xs := madeCells #[z] n), made_list]
  congr 1
  apply List.ext_getElem
  · simp [rowV]
  · intro i h1 h2; simp [rowV]
theorem blk_made (w : World) (z : Value) (n : Nat) (t : TypeId) : Blk (w.alloc (.cells (madeCells #[z] n) t)) w.heap.size t n (fun _ => z) := by
  unfold Blk; rw [heap_alloc_new, made_row]
theorem arr_blk {w : World} {g : Nat} {f : Nat → Nat} (h : Arr w g f) : Blk w g 27 256 (fun s => .int .i64 (f s)) := h

theorem info3 : (Try.prog.info? 3).map (fun i => (i.zero, i.size, i.bytes)) = some (some (.int .i64 0), 1, 8) := by kernel_rfl

/-- The rank of place x: how many places before it hold its symbol. -/
def rk (S : List Int) (x : Nat) : Nat := cntTo S x (sy S x)
def rkTo (S : List Int) (k x : Nat) : Nat := if x < k then rk S x else 0

attribute [local go_sem] zero27

set_option maxHeartbeats 1000000 in
theorem ranks_any (S : List Int) (b off cap : Nat) (w : World) (hn : S.length ≤ 32768) (hby : Bytes S) (hb : b < w.heap.size) (hc : ∀ k, k < S.length → w.cell? ⟨b, off + k, none⟩ = some (.int .u8 (S.getD k 0))) :
    Calls Try.prog 8 #[.slice (some ⟨b, off, none⟩) S.length cap] w fun e w' => e = .returned (.slice (some ⟨w.heap.size + 1, 0, none⟩) S.length S.length) ∧ Below w.heap.size w w' ∧ Blk w' (w.heap.size + 1) 3 S.length (fun x => .int .i64 (rk S x)) := by
  obtain ⟨n, hn'⟩ : ∃ n, n = S.length := ⟨_, rfl⟩
  have Hn : Hid (n = S.length) := hn'
  rw [← hn'] at hn hc ⊢
  clear hn'
  have HC : Hid (∀ k, k < n → w.cell? ⟨b, off + k, none⟩ = some (.int .u8 (S.getD k 0))) := hc
  clear hc
  have HB : Hid (Bytes S) := hby
  clear hby
  obtain ⟨i0, hi, hz0, hz1, hz2⟩ := info_parts info3
  go_enter Try.func8, Try.ntmps8
  go_wp2_with (at_make; refine wpList_make_row _ rfl _ _ 29 rfl 3 i0 (.int .i64 0) Try.underlying29 hi hz0 hz1 rfl .i64 .i64 n rfl rfl (by rw [hz2]; omega) (by omega) ?_)
  go_loopw [5] (fun i wr => ∃ k : Nat, k ≤ n ∧ i = .int .i64 k ∧ Hid (Arr wr w.heap.size (cntTo S k)) ∧ Hid (Blk wr (w.heap.size + 1) 3 n (fun x => .int .i64 (rkTo S k x))) ∧ Below w.heap.size w wr) (fun i _ => n - (intOf i).toNat)
  case atStart =>
    refine ⟨0, Nat.zero_le _, rfl, ?_, ?_, ?_⟩
    · exact arr_congr (f := fun _ => 0) (arr_below (arr_new w) ((Below.refl (w.heap.size + 1) _).alloc (by simp) _) (Nat.lt_succ_self _)) (fun s _ => rfl)
    · exact blk_congr (f := fun _ => .int .i64 0) (by have := blk_made (w.alloc (.cells zeros 27)) (.int .i64 0) n 3; simpa using this) (fun s _ => by simp [rkTo])
    · exact ((Below.refl _ w).alloc (Nat.le_refl _) _).alloc (by simp) _
  case round =>
    obtain ⟨k, hk, rfl, HA, HR, hbl⟩ := hrel
    by_cases hlt : k < n
    · obtain ⟨s, hs⟩ : ∃ s, s = sy S k := ⟨_, rfl⟩
      have hsl : s < 256 := by rw [hs]; exact sy_lt HB.out k
      have hck : wr.cell? ⟨b, off + k, none⟩ = some (.int .u8 s) := by
        rw [hbl.cell (p := ⟨b, off + k, none⟩) hb, HC.out k hlt, hs]
        have := HB.out k
        simp only [sy]; congr 2; omega
      have HS : Hid (s = sy S k) := hs
      clear hs
      obtain ⟨q, hq⟩ : ∃ q, q = cntTo S k s := ⟨_, rfl⟩
      have hca : wr.cell? ⟨w.heap.size, s, none⟩ = some (.int .i64 q) := by rw [hq]; exact arr_cell HA.out hsl
      have hfa := arr_free HA.out s
      have hle : q ≤ k := by rw [hq]; exact cntTo_le S k s
      have hcr := blk_cell HR.out hlt
      have hfr := blk_free HR.out k
      have HR1 : Hid (Blk (wr.setCell ⟨w.heap.size + 1, k, none⟩ (.int .i64 q)) (w.heap.size + 1) 3 n (fun x => .int .i64 (rkTo S (k + 1) x))) :=
        blk_set HR.out (by simp only [rkTo, rk]; rw [if_pos (by omega), hq, HS.out]) (fun i hi => by
          simp only [rkTo]
          by_cases h : i < k
          · rw [if_pos h, if_pos (by omega)]
          · rw [if_neg h, if_neg (by omega)])
      have HA1 : Hid (Arr (wr.setCell ⟨w.heap.size + 1, k, none⟩ (.int .i64 q)) w.heap.size (cntTo S k)) := blk_far (f := fun s => .int .i64 (cntTo S k s)) HA.out (by simp)
      have HA2 : Hid (Arr ((wr.setCell ⟨w.heap.size + 1, k, none⟩ (.int .i64 q)).setCell ⟨w.heap.size, s, none⟩ (.int .i64 (q + 1 : Nat))) w.heap.size (cntTo S (k + 1))) :=
        arr_set HA1.out (by rw [hq, HS.out]; exact cntTo_step S k) (fun t ht => cntTo_other S k t (by rw [← HS.out]; exact fun e => ht e.symm))
      have HR2 : Hid (Blk ((wr.setCell ⟨w.heap.size + 1, k, none⟩ (.int .i64 q)).setCell ⟨w.heap.size, s, none⟩ (.int .i64 (q + 1 : Nat))) (w.heap.size + 1) 3 n (fun x => .int .i64 (rkTo S (k + 1) x))) := blk_far HR1.out (by simp)
      clear hq HR1 HA1 HA HR
      go_wp2
      go_roundw
      case rel => exact ⟨k + 1, by omega, by go_num, HA2, HR2, (hbl.setCell (by simp) _).setCell (by simp) _⟩
      case measure => simp [intOf]; omega
    · obtain rfl : k = n := by omega
      have HR' : Hid (Blk wr (w.heap.size + 1) 3 k (fun x => .int .i64 (rk S x))) := blk_congr HR.out (fun x hx => by simp [rkTo, hx])
      clear HC HR HA
      go_wp2
      go_ret
      exact ⟨rfl, hbl, HR'.out⟩

end Go.Proofs.Qxb6629003a
