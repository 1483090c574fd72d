/-
  An encoder's table in memory: ZZnewEncTable, ZZsetEncSymbol, ZZnewEncState, ZZencStateValue; what an entry holds.
-/
import Derived.Test.Qxb6629003aRanks
namespace Go.Proofs.Qxb6629003a
open Go.RowKit
set_option linter.unusedVariables false

def symZ (i : Nat) : Value := if i % 3 = 0 then .int .u32 0 else .int .i32 0
def zeroSyms : Array Value := (rowV 768 symZ).toArray

theorem made3 (a b : Value) (n : Nat) : madeCells #[a, b, b] n = (rowV n fun i => if i % 3 = 0 then a else b).toArray := by
  apply Array.ext
  · simp [size_madeCells, rowV_length]
  · intro i h1 h2
    simp only [madeCells, rowV, Array.getElem_map, Array.getElem_range, List.getElem_toArray, List.getElem_map, List.getElem_range]
    have hs : (#[a, b, b] : Array Value).size = 3 := rfl
    rw [hs]
    have h3 : i % 3 < 3 := Nat.mod_lt _ (by decide)
    rcases (by omega : i % 3 = 0 ∨ i % 3 = 1 ∨ i % 3 = 2) with e | e | e
    · rw [if_pos e, e]; rfl
    · rw [if_neg (by omega), e]; rfl
    · rw [if_neg (by omega), e]; rfl

theorem info50 : (Try.prog.info? 50).map (fun i => (i.zero, i.size, i.bytes)) = some (some (.agg #[.int .u32 0, .int .i32 0, .int .i32 0]), 3, 12) := by kernel_rfl

theorem make51 (w : World) : (Instr.makeSlice 51 (.int .i64 256) (.int .i64 256)).run Try.prog w = .ok (.slice (some ⟨w.heap.size, 0, none⟩) 256 256) (w.alloc (.cells zeroSyms 50)) := by
  obtain ⟨i0, hi, hz0, hz1, hz2⟩ := info_parts info50
  have h := run_make (P := Try.prog) w 51 50 i0 _ Try.underlying51 hi hz0 .i64 .i64 256 256 (by decide) (by decide) (by rw [hz2]; decide) (by decide)
  rw [h, hz1]
  have e1 : (256 : Int).toNat = 256 := rfl
  rw [e1]
  have e2 : (Value.agg #[.int .u32 0, .int .i32 0, .int .i32 0]).cells = #[Value.int .u32 0, .int .i32 0, .int .i32 0] := rfl
  rw [e2, made3]
  rfl

theorem newTable_any (lg n gS : Nat) (w : World) :
    Calls Try.prog 15 #[.int .u8 lg, .slice (some ⟨gS, 0, none⟩) n n, .int .i64 256] w fun e w' => e = .returned (.pointer (some ⟨w.heap.size + 1, 0, none⟩)) ∧
      (w.alloc (.cells zeroSyms 50)).alloc (.cells #[.int .u8 lg, .slice (some ⟨gS, 0, none⟩) n n, .slice (some ⟨w.heap.size, 0, none⟩) 256 256, .int .u8 0, .slice none 0 0] 56) = w' := by
  have hmk := make51
  go_enter Try.func15, Try.ntmps15
  go_wp2
  go_ret
  exact ⟨rfl, rfl⟩

/-- The three cells of an entry stored at place s. -/
theorem setSym_any (gT gY s : Nat) (d a f : Int) (fv : Nat → Value) (w : World) (hs : s < 256) (hT : w.cell? ⟨gT, 2, none⟩ = some (.slice (some ⟨gY, 0, none⟩) 256 256)) (hY : Hid (Blk w gY 50 768 fv)) :
    Calls Try.prog 16 #[.pointer (some ⟨gT, 0, none⟩), .int .i64 s, .int .u32 d, .int .i32 a, .int .i32 f] w fun e w' => e = .returned (.tuple #[]) ∧
      ((w.setCell ⟨gY, s * 3, none⟩ (.int .u32 d)).setCell ⟨gY, s * 3 + 1, none⟩ (.int .i32 a)).setCell ⟨gY, s * 3 + 2, none⟩ (.int .i32 f) = w' := by
  have hs' : decide ((s : Int) < 256) = true := by simp; omega
  have h0 := blk_cell hY.out (s := s * 3) (by omega)
  have h1 := blk_cell hY.out (s := s * 3 + 1) (by omega)
  have h2 := blk_cell hY.out (s := s * 3 + 2) (by omega)
  have f0 := blk_free hY.out (s * 3)
  have f1 := blk_free hY.out (s * 3 + 1)
  have f2 := blk_free hY.out (s * 3 + 2)
  go_enter Try.func16, Try.ntmps16
  go_wp2
  go_end0
  exact ⟨rfl, rfl⟩

theorem newState_any (gT : Nat) (v : Int) (w : World) :
    Calls Try.prog 9 #[.pointer (some ⟨gT, 0, none⟩), .int .u32 v] w fun e w' => e = .returned (.pointer (some ⟨w.heap.size, 0, none⟩)) ∧ w.alloc (.cells #[.pointer (some ⟨gT, 0, none⟩), .int .u32 v] 44) = w' := by
  go_enter Try.func9, Try.ntmps9
  go_wp2
  go_ret
  exact ⟨rfl, rfl⟩

theorem stateValue_any (gE : Nat) (v : Int) (w : World) (h : w.cell? ⟨gE, 1, none⟩ = some (.int .u32 v)) :
    Calls Try.prog 12 #[.pointer (some ⟨gE, 0, none⟩)] w fun e w' => e = .returned (.int .u32 v) ∧ w = w' := by
  go_enter Try.func12, Try.ntmps12
  go_wp2
  go_ret
  exact ⟨rfl, rfl⟩

/-! ### What an entry holds -/
/-- How many bits at most: log - floor(log2 q). -/
def nbOf (lg q : Nat) : Nat := lg - Nat.log2 q
/-- deltaBits, before the wrap. -/
def dbits (lg q : Nat) : Int := (nbOf lg q : Int) * 65536 - (q : Int) * 2 ^ nbOf lg q
def entry (S : List Int) (lg s c : Nat) : Value :=
  if c = 0 then .int .u32 (IntKind.u32.wrap (dbits lg (cnt S s))) else if c = 1 then .int .i32 ((fst S s : Int) - cnt S s) else .int .i32 (fst S s)
/-- Cell i of the table of symbols when the first k symbols have been laid. -/
def symTo (S : List Int) (lg k i : Nat) : Value := if i / 3 < k ∧ cnt S (i / 3) ≠ 0 then entry S lg (i / 3) (i % 3) else symZ i

theorem isHb_log2 {q : Nat} (h : 1 ≤ q) : IsHb q (Nat.log2 q) := ⟨Nat.log2_self_le (by omega), Nat.lt_log2_self⟩

theorem symTo_skip {S : List Int} {lg k : Nat} (h : cnt S k = 0) (i : Nat) : symTo S lg (k + 1) i = symTo S lg k i := by
  unfold symTo
  by_cases e : i / 3 = k
  · rw [if_neg (by rw [e]; omega), if_neg (by omega)]
  · by_cases c : i / 3 < k ∧ cnt S (i / 3) ≠ 0
    · rw [if_pos c, if_pos ⟨by omega, c.2⟩]
    · rw [if_neg c, if_neg (fun x => c ⟨by omega, x.2⟩)]

theorem blk_entry {w : World} {g : Nat} {S : List Int} {lg k : Nat} {d a f : Int} (h : Blk w g 50 768 (symTo S lg k)) (hq : cnt S k ≠ 0)
    (hd : d = IntKind.u32.wrap (dbits lg (cnt S k))) (ha : a = (fst S k : Int) - cnt S k) (hf : f = fst S k) :
    Blk (((w.setCell ⟨g, k * 3, none⟩ (.int .u32 d)).setCell ⟨g, k * 3 + 1, none⟩ (.int .i32 a)).setCell ⟨g, k * 3 + 2, none⟩ (.int .i32 f)) g 50 768 (symTo S lg (k + 1)) := by
  have s1 := blk_set (f' := fun i => if i = k * 3 then .int .u32 d else symTo S lg k i) h (s := k * 3) (v := .int .u32 d) (by simp) (fun i hi => by simp [hi])
  have s2 := blk_set (f' := fun i => if i = k * 3 + 1 then .int .i32 a else if i = k * 3 then .int .u32 d else symTo S lg k i) s1 (s := k * 3 + 1) (v := .int .i32 a) (by simp) (fun i hi => by simp [hi])
  have s3 := blk_set (f' := fun i => if i = k * 3 + 2 then .int .i32 f else if i = k * 3 + 1 then .int .i32 a else if i = k * 3 then .int .u32 d else symTo S lg k i) s2 (s := k * 3 + 2) (v := .int .i32 f) (by simp) (fun i hi => by simp [hi])
  refine blk_congr s3 (fun i _ => ?_)
  subst hd ha hf
  by_cases e : i / 3 = k
  · have hr : symTo S lg (k + 1) i = entry S lg k (i % 3) := by unfold symTo; rw [if_pos ⟨by omega, by rw [e]; exact hq⟩, e]
    rw [hr]
    have h3 : i % 3 < 3 := Nat.mod_lt _ (by decide)
    rcases (by omega : i % 3 = 0 ∨ i % 3 = 1 ∨ i % 3 = 2) with c | c | c
    · rw [if_neg (by omega), if_neg (by omega), if_pos (by omega), c]; rfl
    · rw [if_neg (by omega), if_pos (by omega), c]; rfl
    · rw [if_pos (by omega), c]; rfl
  · rw [if_neg (by omega), if_neg (by omega), if_neg (by omega)]
    unfold symTo
    by_cases c : i / 3 < k ∧ cnt S (i / 3) ≠ 0
    · rw [if_pos c, if_pos ⟨by omega, c.2⟩]
    · rw [if_neg c, if_neg (fun x => c ⟨by omega, x.2⟩)]

theorem sym_at {S : List Int} {lg s : Nat} (hs : s < 256) (hq : cnt S s ≠ 0) {c : Nat} (hc : c < 3) : symTo S lg 256 (s * 3 + c) = entry S lg s c := by
  have e1 : (s * 3 + c) / 3 = s := by omega
  have e2 : (s * 3 + c) % 3 = c := by omega
  unfold symTo
  rw [e1, e2, if_pos ⟨hs, hq⟩]

end Go.Proofs.Qxb6629003a
