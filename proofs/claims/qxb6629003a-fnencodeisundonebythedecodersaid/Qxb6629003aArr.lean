/-
  Arrays of 256 numbers in a block; zzCounts.
-/
import Derived.Test.Qxb6629003aSmall
import Derived.Laws.Rows
import Derived.Laws.Tables
import Derived.Laws.CopyOwn
namespace Go.Proofs.Qxb6629003a
open Go.RowKit
set_option linter.unusedVariables false

/-- 256 ints, as cells. -/
def tab (f : Nat → Nat) : List Value := (List.range 256).map fun s => .int .i64 (f s)
def zeros : Array Value := (tab fun _ => 0).toArray
theorem zero27 (w : World) : (zeroValue 27).run Try.prog w = .ok (.agg zeros) w := by kernel_rfl
theorem size27 : (Try.prog.info? 27).map (·.size) = some 256 := by kernel_rfl

theorem tab_length (f : Nat → Nat) : (tab f).length = 256 := by simp [tab]
theorem tab_get (f : Nat → Nat) {s : Nat} (h : s < 256) : (tab f)[s]? = some (.int .i64 (f s)) := by
  simp [tab, List.getElem?_map, List.getElem?_range h]
theorem tab_one {f : Nat → Nat} : ∀ v ∈ tab f, v.oneCell' = true := by
  intro v hv
  obtain ⟨n, _, rfl⟩ := List.mem_map.1 hv
  rfl

/-- A block that holds such an array. -/
def Arr (w : World) (g : Nat) (f : Nat → Nat) : Prop := w.heap[g]? = some (.cells (tab f).toArray 27 (0, 0))

theorem arr_cell {w : World} {g : Nat} {f : Nat → Nat} (h : Arr w g f) {s : Nat} (hs : s < 256) : w.cell? ⟨g, s, none⟩ = some (.int .i64 (f s)) := by
  rw [cell_of_row w g s _ 27 (0, 0) h]; simpa using tab_get f hs
theorem arr_free {w : World} {g : Nat} {f : Nat → Nat} (h : Arr w g f) (s : Nat) : w.frozen? ⟨g, s, none⟩ = false := frozen_of_row w g s _ 27 h
theorem arr_lt {w : World} {g : Nat} {f : Nat → Nat} (h : Arr w g f) : g < w.heap.size := lt_of_block h

theorem tab_set (f f' : Nat → Nat) (s v : Nat) (h1 : f' s = v) (h2 : ∀ t, t ≠ s → f' t = f t) : (tab f).toArray.setIfInBounds s (.int .i64 v) = (tab f').toArray := by
  rw [List.setIfInBounds_toArray]
  congr 1
  apply List.ext_getElem?
  intro i
  by_cases hi : i < 256
  · rw [List.getElem?_set, tab_get f' hi]
    by_cases e : s = i
    · subst e; rw [if_pos rfl, if_pos (by rw [tab_length]; exact hi), h1]
    · rw [if_neg e, tab_get f hi, h2 i (fun x => e x.symm)]
  · rw [List.getElem?_eq_none (by simp [tab_length]; omega), List.getElem?_eq_none (by simp [tab_length]; omega)]

theorem arr_set {w : World} {g : Nat} {f f' : Nat → Nat} (h : Arr w g f) {s v : Nat} (h1 : f' s = v) (h2 : ∀ t, t ≠ s → f' t = f t) : Arr (w.setCell ⟨g, s, none⟩ (.int .i64 v)) g f' := by
  unfold Arr
  rw [heap_setCell_same w g s _ 27 _ h, tab_set f f' s v h1 h2]

theorem arr_new (w : World) : Arr (w.alloc (.cells zeros 27)) w.heap.size (fun _ => 0) := heap_alloc_new w _
theorem arr_below {w w' : World} {g B : Nat} {f : Nat → Nat} (h : Arr w g f) (hb : Below B w w') (hg : g < B) : Arr w' g f := by unfold Arr; rw [hb.block g hg]; exact h
theorem arr_congr {w : World} {g : Nat} {f f' : Nat → Nat} (h : Arr w g f) (e : ∀ s, s < 256 → f s = f' s) : Arr w g f' := by
  have : tab f = tab f' := List.map_congr_left fun s hs => by rw [e s (List.mem_range.1 hs)]
  unfold Arr; rw [← this]; exact h

/-- The array that zzCounts hands back. -/
def counted (S : List Int) : Array Value := (tab (cnt S)).toArray

theorem counted_one (S : List Int) : (counted S).all (·.oneCell') = true := by
  unfold counted
  rw [List.all_toArray, List.all_eq_true]
  exact tab_one

attribute [local go_sem] zero27

set_option maxHeartbeats 1000000 in
theorem counts_any (S : List Int) (b off cap : Nat) (w : World) (hn : S.length ≤ 32768) (hby : Bytes S) (hb : b < w.heap.size) (hc : ∀ k, k < S.length → w.cell? ⟨b, off + k, none⟩ = some (.int .u8 (S.getD k 0))) :
    Calls Try.prog 7 #[.slice (some ⟨b, off, none⟩) S.length cap] w fun e w' => e = .returned (.agg (counted S)) ∧ Below w.heap.size w w' := by
  obtain ⟨n, hn'⟩ : ∃ n, n = S.length := ⟨_, rfl⟩
  have Hn : Hid (n = S.length) := hn'
  rw [← hn'] at hn hc ⊢
  clear hn'
  have HC : Hid (∀ k, k < n → w.cell? ⟨b, off + k, none⟩ = some (.int .u8 (S.getD k 0))) := hc
  clear hc
  have HB : Hid (Bytes S) := hby
  clear hby
  go_enter Try.func7, Try.ntmps7
  go_wp2
  go_loopw [4] (fun i wr => ∃ k : Nat, k ≤ n ∧ i = .int .i64 k ∧ Hid (Arr wr (w.heap.size + 1) (cntTo S k)) ∧ Hid (Arr wr w.heap.size (fun _ => 0)) ∧ Below w.heap.size w wr) (fun i _ => n - (intOf i).toNat)
  case atStart =>
    refine ⟨0, Nat.zero_le _, rfl, ?_, ?_, ?_⟩
    · exact arr_congr (f := fun _ => 0) (by have := arr_new (w.alloc (.cells zeros 27)); simpa using this) (fun s _ => rfl)
    · exact arr_below (arr_new w) ((Below.refl (w.heap.size + 1) _).alloc (by simp) _) (Nat.lt_succ_self _)
    · exact ((Below.refl _ w).alloc (Nat.le_refl _) _).alloc (by simp) _
  case round =>
    obtain ⟨k, hk, rfl, HA, HZ, hbl⟩ := hrel
    by_cases hlt : k < n
    · obtain ⟨s, hs⟩ : ∃ s, s = sy S k := ⟨_, rfl⟩
      have hsl : s < 256 := by rw [hs]; exact sy_lt HB.out k
      have hck : wr.cell? ⟨b, off + k, none⟩ = some (.int .u8 s) := by
        rw [hbl.cell (p := ⟨b, off + k, none⟩) hb, HC.out k hlt, hs]
        have := HB.out k
        simp only [sy]; congr 2; omega
      have HS : Hid (s = sy S k) := hs
      clear hs
      have hca := arr_cell HA.out hsl
      have hfa := arr_free HA.out s
      have hle := cntTo_le S k s
      have HA' : Hid (Arr (wr.setCell ⟨w.heap.size + 1, s, none⟩ (.int .i64 ((cntTo S k s + 1 : Nat)))) (w.heap.size + 1) (cntTo S (k + 1))) :=
        arr_set HA.out (by rw [HS.out]; exact cntTo_step S k) (fun t ht => cntTo_other S k t (by rw [← HS.out]; exact fun e => ht e.symm))
      have HZ' : Hid (Arr (wr.setCell ⟨w.heap.size + 1, s, none⟩ (.int .i64 ((cntTo S k s + 1 : Nat)))) w.heap.size (fun _ => 0)) := by
        show _ = _
        rw [heap_setCell_other _ _ _ _ (by simp)]; exact HZ.out
      generalize cntTo S k s = q at *
      go_wp2
      go_roundw
      case rel => exact ⟨k + 1, by omega, by go_num, HA', HZ', hbl.setCell (by simp) _⟩
      case measure => simp [intOf]; omega
    · obtain rfl : k = n := by omega
      have HA1 : Hid (wr.heap[w.heap.size + 1]? = some (.cells (counted S) 27 (0, 0))) := by
        have := HA.out; rw [Hn.out] at this; exact this
      have HZ1 : Hid (wr.heap[w.heap.size]? = some (.cells zeros 27 (0, 0))) := HZ.out
      clear HC HA
      go_wp2_with (first
        | (refine wpList_load_row rfl 27 (.tmp 3) (by rfl) (w.heap.size + 1) (by rfl) 27 (counted S) (0, 0) _ HA1.out Try.underlying27 (by rfl) (by rw [size27]; simp [counted, tab_length]) ?_)
        | (refine wpList_store_row rfl 27 (.tmp 2) (.tmp 19) (by rfl) w.heap.size (counted S) (by rfl) (by rfl) 27 zeros HZ1.out (by rw [size27]; simp [counted, tab_length]) (by simp [counted, zeros, tab_length]) (counted_one S) ?_)
        | exact bodyPost_ret (results_cell_row (by rfl) _ _ w.heap.size 27 (counted S) (0, 0) _ (by rfl) (setRow_heap _ _ _ _ _ _ HZ1.out) Try.underlying27 (by rfl) (by rw [size27]; simp [counted, tab_length])) rfl ⟨rfl, below_setRow hbl (Nat.le_refl _) _⟩)

end Go.Proofs.Qxb6629003a
