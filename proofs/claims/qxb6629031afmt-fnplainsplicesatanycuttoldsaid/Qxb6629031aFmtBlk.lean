/-
  Blocks of cells by a function of the place; plainFile.
-/
import Derived.Test.Qxb6629031aFmtScope
import Derived.Deep.OwnRows
import Derived.Deep.RegionHeld3
namespace Go.Proofs.Qxb6629031aFmt
open Go.RowKit
set_option linter.unusedVariables false

theorem keep_cell {w w' : World} (hb : Below w.heap.size w w') {a : Addr} {v : Value} (hc : w.cell? a = some v) : w'.cell? a = some v := (hb.cell (World.block_lt_of_cell? w a hc)).trans hc

def rowV (n : Nat) (f : Nat → Value) : List Value := (List.range n).map f
theorem rowV_length (n : Nat) (f : Nat → Value) : (rowV n f).length = n := by simp [rowV]
theorem rowV_get (n : Nat) (f : Nat → Value) {s : Nat} (h : s < n) : (rowV n f)[s]? = some (f s) := by
  simp [rowV, List.getElem?_map, List.getElem?_range h]

/-- Block g holds n cells, cell i the value f i. -/
def Blk (w : World) (g : Nat) (t : TypeId) (n : Nat) (f : Nat → Value) : Prop := w.heap[g]? = some (.cells (rowV n f).toArray t (0, 0))

section
variable {w w' : World} {g B : Nat} {t : TypeId} {n : Nat} {f f' : Nat → Value}
theorem blk_cell (h : Blk w g t n f) {s : Nat} (hs : s < n) : w.cell? ⟨g, s, none⟩ = some (f s) := by
  rw [cell_of_row w g s _ t (0, 0) h]; simpa using rowV_get n f hs
theorem blk_free (h : Blk w g t n f) (s : Nat) : w.frozen? ⟨g, s, none⟩ = false := frozen_of_row w g s _ t h
theorem blk_lt (h : Blk w g t n f) : g < w.heap.size := lt_of_block h
theorem rowV_set (f f' : Nat → Value) (n s : Nat) (v : Value) (h1 : f' s = v) (h2 : ∀ i, i ≠ s → f' i = f i) : (rowV n f).toArray.setIfInBounds s v = (rowV n f').toArray := by
  rw [List.setIfInBounds_toArray]
  congr 1
  apply List.ext_getElem?
  intro i
  by_cases hi : i < n
  · rw [List.getElem?_set, rowV_get n f' hi]
    by_cases e : s = i
    · subst e; rw [if_pos rfl, if_pos (by rw [rowV_length]; exact hi), h1]
    · rw [if_neg e, rowV_get n f hi, h2 i (fun x => e x.symm)]
  · rw [List.getElem?_eq_none (by simp [rowV_length]; omega), List.getElem?_eq_none (by simp [rowV_length]; omega)]
theorem blk_set (h : Blk w g t n f) {s : Nat} {v : Value} (h1 : f' s = v) (h2 : ∀ i, i ≠ s → f' i = f i) : Blk (w.setCell ⟨g, s, none⟩ v) g t n f' := by
  unfold Blk; rw [heap_setCell_same w g s _ t _ h, rowV_set f f' n s v h1 h2]
theorem blk_far (h : Blk w g t n f) {a : Addr} {v : Value} (hne : g ≠ a.block) : Blk (w.setCell a v) g t n f := by
  unfold Blk; rw [heap_setCell_other _ _ _ _ hne]; exact h
theorem blk_below (h : Blk w g t n f) (hb : Below B w w') (hg : g < B) : Blk w' g t n f := by unfold Blk; rw [hb.block g hg]; exact h
theorem blk_grown {r : Option Nat} (h : Blk w g t n f) (hb : w.grownBy w' r) (hg : some g ≠ r) : Blk w' g t n f := by unfold Blk; rw [hb.block g (blk_lt h) hg]; exact h
theorem blk_congr (h : Blk w g t n f) (e : ∀ s, s < n → f s = f' s) : Blk w g t n f' := by
  have : rowV n f = rowV n f' := List.map_congr_left fun s hs => e s (List.mem_range.1 hs)
  unfold Blk; rw [← this]; exact h
theorem blk_drewN (h : Blk w g t n f) (k : Nat) : Blk (w.drewN k) g t n f := h
theorem blk_alloc (h : Blk w g t n f) (o : Obj) : Blk (w.alloc o) g t n f := by unfold Blk; rw [Below.heap_alloc w o g (blk_lt h)]; exact h
end

theorem made_list (z : Value) (n : Nat) : (madeCells #[z] n).toList = List.replicate n z := by
  apply List.ext_getElem
  · simp [size_madeCells]
  · intro i h1 h2
    simp [madeCells, Nat.mod_one]
theorem made_row (z : Value) (n : Nat) : madeCells #[z] n = (rowV n fun _ => z).toArray := by
  rw [← Array.toArray_toList (xs := madeCells #[z] n), made_list]
  congr 1
  apply List.ext_getElem
  · simp [rowV]
  · intro i h1 h2; simp [rowV]
theorem blk_made (w : World) (z : Value) (n : Nat) (t : TypeId) : Blk (w.alloc (.cells (madeCells #[z] n) t)) w.heap.size t n (fun _ => z) := by
  unfold Blk; rw [heap_alloc_new, made_row]
theorem made3 (a b c : Value) (n : Nat) : madeCells #[a, b, c] n = (rowV n fun i => if i % 3 = 0 then a else if i % 3 = 1 then b else c).toArray := by
  apply Array.ext
  · simp [size_madeCells, rowV_length]
  · intro i h1 h2
    simp only [madeCells, rowV, Array.getElem_map, Array.getElem_range, List.getElem_toArray, List.getElem_map, List.getElem_range]
    have hs : (#[a, b, c] : Array Value).size = 3 := rfl
    rw [hs]
    have h3 : i % 3 < 3 := Nat.mod_lt _ (by decide)
    rcases (by omega : i % 3 = 0 ∨ i % 3 = 1 ∨ i % 3 = 2) with e | e | e
    · rw [if_pos e, e]; rfl
    · rw [if_neg (by omega), if_pos e, e]; rfl
    · rw [if_neg (by omega), if_neg (by omega), e]; rfl

/-- Cell i of the block of tasks when the first k tasks have been laid. -/
def task (f g : Nat → ByteArray) (k i : Nat) : Value :=
  if i % 3 = 0 then .string (if i / 3 < k then f (i / 3) else ⟨#[]⟩) else if i % 3 = 1 then .string (if i / 3 < k then g (i / 3) else ⟨#[]⟩) else .int .i64 0

theorem info46 : (Tryf.prog.info? 46).map (fun i => (i.zero, i.size, i.bytes)) = some (some (.agg #[.string ⟨#[]⟩, .string ⟨#[]⟩, .int .i64 0]), 3, 40) := by kernel_rfl
theorem make26 (f g : Nat → ByteArray) (n : Nat) (hn : n ≤ 1048576) (w : World) : (Instr.makeSlice 26 (.int .i64 n) (.int .i64 n)).run Tryf.prog w = .ok (.slice (some ⟨w.heap.size, 0, none⟩) n n) (w.alloc (.cells (rowV (n * 3) (task f g 0)).toArray 46)) := by
  obtain ⟨i0, hi, hz0, hz1, hz2⟩ := info_parts info46
  have h := run_make (P := Tryf.prog) w 26 46 i0 _ Tryf.underlying26 hi hz0 .i64 .i64 n n (by omega) (by omega) (by rw [hz2]; omega) (by omega)
  rw [h, hz1]
  have e2 : (Value.agg #[.string ⟨#[]⟩, .string ⟨#[]⟩, .int .i64 0]).cells = #[Value.string ⟨#[]⟩, .string ⟨#[]⟩, .int .i64 0] := rfl
  rw [e2, made3]
  have e3 : (fun i => if i % 3 = 0 then Value.string ⟨#[]⟩ else if i % 3 = 1 then Value.string ⟨#[]⟩ else .int .i64 0) = task f g 0 := by
    funext i; unfold task; simp
  rw [e3]
  rfl

theorem task_step {w : World} {b : Nat} {f g : Nat → ByteArray} {n k : Nat} (h : Blk w b 46 n (task f g k)) :
    Blk (((w.setCell ⟨b, k * 3, none⟩ (.string (f k))).setCell ⟨b, k * 3 + 1, none⟩ (.string (g k))).setCell ⟨b, k * 3 + 2, none⟩ (.int .i64 0)) b 46 n (task f g (k + 1)) := by
  have s1 := blk_set (f' := fun i => if i = k * 3 then .string (f k) else task f g k i) h (s := k * 3) (v := .string (f k)) (by simp) (fun i hi => by simp [hi])
  have s2 := blk_set (f' := fun i => if i = k * 3 + 1 then .string (g k) else if i = k * 3 then .string (f k) else task f g k i) s1 (s := k * 3 + 1) (v := .string (g k)) (by simp) (fun i hi => by simp [hi])
  have s3 := blk_set (f' := fun i => if i = k * 3 + 2 then .int .i64 0 else if i = k * 3 + 1 then .string (g k) else if i = k * 3 then .string (f k) else task f g k i) s2 (s := k * 3 + 2) (v := .int .i64 0) (by simp) (fun i hi => by simp [hi])
  refine blk_congr s3 (fun i _ => ?_)
  unfold task
  have h3 : i % 3 < 3 := Nat.mod_lt _ (by decide)
  rcases (by omega : i % 3 = 0 ∨ i % 3 = 1 ∨ i % 3 = 2) with c | c | c
  · have c2 : ¬ i = k * 3 + 2 := by omega
    have c1 : ¬ i = k * 3 + 1 := by omega
    simp only [if_neg c2, if_neg c1, if_pos c]
    by_cases e : i / 3 = k
    · rw [if_pos (by omega), if_pos (by omega), e]
    · rw [if_neg (by omega)]
      by_cases l : i / 3 < k
      · rw [if_pos l, if_pos (by omega)]
      · rw [if_neg l, if_neg (by omega)]
  · have c2 : ¬ i = k * 3 + 2 := by omega
    have c0 : ¬ i % 3 = 0 := by omega
    simp only [if_neg c2, if_neg c0, if_pos c]
    by_cases e : i / 3 = k
    · rw [if_pos (by omega), if_pos (by omega), e]
    · rw [if_neg (by omega), if_neg (by omega)]
      by_cases l : i / 3 < k
      · rw [if_pos l, if_pos (by omega)]
      · rw [if_neg l, if_neg (by omega)]
  · have c0 : ¬ i % 3 = 0 := by omega
    have c1 : ¬ i % 3 = 1 := by omega
    have d1 : ¬ i = k * 3 + 1 := by omega
    have d0 : ¬ i = k * 3 := by omega
    simp only [if_neg c0, if_neg c1, if_neg d1, if_neg d0]
    split <;> rfl

theorem blk_new (w : World) (t : TypeId) (n : Nat) (f : Nat → Value) : Blk (w.alloc (.cells (rowV n f).toArray t)) w.heap.size t n f := by unfold Blk; rw [heap_alloc_new]

def FilePost (d : Option Addr) (n n4 c4 : Nat) (f g : Nat → ByteArray) (w : World) (e : Ending) (w' : World) : Prop :=
  e = .returned (.agg #[.slice (some ⟨w.heap.size + 1, 0, none⟩) n n, .pointer none, .slice d n4 c4, .slice none 0 0]) ∧ Below w.heap.size w w' ∧ Blk w' (w.heap.size + 1) 46 (n * 3) (task f g n)

set_option maxRecDepth 20000 in
set_option maxHeartbeats 2000000 in
theorem file_any (a b d : Option Addr) (n c1 c2 n4 c4 : Nat) (f g : Nat → ByteArray) (w : World) (hn : n ≤ 65536) (hf : Strs w a n f) (hg : Strs w b n g) :
    Calls Tryf.prog 7 #[.slice a n c1, .slice b n c2, .slice d n4 c4] w fun e w' => FilePost d n n4 c4 f g w e w' := by
  have hmk := make26 f g n (by omega)
  go_enter Tryf.func7, Tryf.ntmps7
  go_wp2
  clear hmk
  go_loopw [8] (fun i wr => ∃ k : Nat, k ≤ n ∧ i = .int .i64 k ∧ Hid (Blk wr (w.heap.size + 1) 46 (n * 3) (task f g k)) ∧ Below w.heap.size w wr ∧ wr.heap[w.heap.size]? = some (.cells #[.slice none 0 0, .pointer none, .slice none 0 0, .slice none 0 0] 30 (0, 0))) (fun i _ => n - (intOf i).toNat)
  case atStart =>
    refine ⟨0, Nat.zero_le _, rfl, ?_, ?_, ?_⟩
    · have h := blk_new (w.alloc (.cells #[.slice none 0 0, .pointer none, .slice none 0 0, .slice none 0 0] 30)) 46 (n * 3) (task f g 0)
      show Blk _ _ _ _ _
      simpa using h
    · exact ((Below.refl _ w).alloc (Nat.le_refl _) _).alloc (by simp) _
    · rw [Below.heap_alloc _ _ _ (by simp), heap_alloc_new]
  case round =>
    obtain ⟨k, hk, rfl, HB, hbl, hcl⟩ := hrel
    by_cases hlt : k < n
    · obtain ⟨ga, rfl, hc, hs⟩ := hf k hlt
      obtain ⟨gb, rfl, hc', hs'⟩ := hg k hlt
      clear hf hg
      have h1 := keep_cell hbl hc
      have h2 := keep_cell hbl hc'
      have q0 := blk_cell HB.out (s := k * 3) (by omega)
      have q1 := blk_cell HB.out (s := k * 3 + 1) (by omega)
      have q2 := blk_cell HB.out (s := k * 3 + 2) (by omega)
      have f0 := blk_free HB.out (k * 3)
      have f1 := blk_free HB.out (k * 3 + 1)
      have f2 := blk_free HB.out (k * 3 + 2)
      have hI0 : (0 : Int) ≤ k := by omega
      have hI1 : (k : Int) < n := by omega
      go_wp2
      go_region
      go_wp2
      all_goals
        refine ⟨⟨k + 1, by omega, by go_num, task_step HB.out, (((hbl.setCell (Nat.le_succ _) _).setCell (Nat.le_succ _) _).setCell (Nat.le_succ _) _).drew, ?_⟩, by simp [intOf]; omega⟩
        show (World.setCell (World.setCell (World.setCell _ _ _) _ _) _ _).heap[w.heap.size]? = _
        rw [heap_setCell_other _ _ _ _ (by simp), heap_setCell_other _ _ _ _ (by simp), heap_setCell_other _ _ _ _ (by simp)]
        exact hcl
    · obtain rfl : k = n := by omega
      clear hf hg
      have q0 : wr.cell? ⟨w.heap.size, 0, none⟩ = some (.slice none 0 0) := by rw [cell_of_row _ _ _ _ _ _ hcl]; rfl
      have q1 : wr.cell? ⟨w.heap.size, 1, none⟩ = some (.pointer none) := by rw [cell_of_row _ _ _ _ _ _ hcl]; rfl
      have q2 : wr.cell? ⟨w.heap.size, 2, none⟩ = some (.slice none 0 0) := by rw [cell_of_row _ _ _ _ _ _ hcl]; rfl
      have q3 : wr.cell? ⟨w.heap.size, 3, none⟩ = some (.slice none 0 0) := by rw [cell_of_row _ _ _ _ _ _ hcl]; rfl
      have f0 := frozen_of_row _ _ 0 _ _ hcl
      have f1 := frozen_of_row _ _ 1 _ _ hcl
      have f2 := frozen_of_row _ _ 2 _ _ hcl
      have f3 := frozen_of_row _ _ 3 _ _ hcl
      clear hcl
      go_wp2
      refine bodyPost_ret (v := .agg #[.slice (some ⟨w.heap.size + 1, 0, none⟩) k k, .pointer none, .slice d n4 c4, .slice none 0 0]) (by simp [results, Tryf.results7, go_sem, q0, q1, q2, q3]) rfl ⟨rfl, ?_, ?_⟩
      · exact (((hbl.setCell (Nat.le_refl _) _).setCell (Nat.le_refl _) _).setCell (Nat.le_refl _) _).setCell (Nat.le_refl _) _
      · exact blk_far (blk_far (blk_far (blk_far HB.out (by simp)) (by simp)) (by simp)) (by simp)
end Go.Proofs.Qxb6629031aFmt
