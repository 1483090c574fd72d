/-
  The helpers of the two laws: zzb1Source, FileKinds, zzb1Count, zzb1Equal, zzb1Concat, zzb1InsertAt, zzb1KindName; rows of strings.
-/
import Derived.Test.Qxb6629077aRows
import Derived.WalkKit
import Derived.WalkSpells
import Derived.WalkLawsBesides
import Derived.Handy
import Derived.Deep.QuietTactic
import Derived.BigQuiet
import Derived.Deep.OwnRows
import Derived.Deep.AppendLies
import Derived.OwnWalk
import Derived.Below
namespace Go.Proofs.Qxb6629077a
open Go.RowKit
set_option linter.unusedVariables false

theorem HidC {p : Prop} (h : p) : Hid p := h
theorem keep_cell {w w' : World} (hb : Below w.heap.size w w') {a : Addr} {v : Value} (hc : w.cell? a = some v) : w'.cell? a = some v := (hb.cell (World.block_lt_of_cell? w a hc)).trans hc

/-- The four names, in order. -/
def nSec : ByteArray := ⟨#[115, 101, 99, 114, 101, 116]⟩
def nCfg : ByteArray := ⟨#[99, 111, 110, 102, 105, 103, 77, 97, 112]⟩
def nDow : ByteArray := ⟨#[100, 111, 119, 110, 119, 97, 114, 100, 65, 80, 73]⟩
def nPro : ByteArray := ⟨#[112, 114, 111, 106, 101, 99, 116, 101, 100]⟩
def one (b : Bool) (s : ByteArray) : List ByteArray := if b then [s] else []
def names (b0 b1 b2 b3 : Bool) : List ByteArray := one b0 nSec ++ one b1 nCfg ++ one b2 nDow ++ one b3 nPro

def sc (l : List ByteArray) : List Value := l.map Value.string
theorem sc_length (l : List ByteArray) : (sc l).length = l.length := by simp [sc]
theorem sc_append (a b : List ByteArray) : sc (a ++ b) = sc a ++ sc b := by simp [sc]

/-- v owns the strings l, in memory newer than w0; w0's memory stands. -/
def Row (w0 w : World) (v : Value) (l : List ByteArray) : Prop := Below w0.heap.size w0 w ∧ w.ownsRow w0.heap.size 9 1 v l.length (sc l)
theorem row_nil (w0 w : World) (h : Below w0.heap.size w0 w) : Row w0 w (.slice none 0 0) [] := ⟨h, World.ownsRow_nil w _ 9 1⟩
theorem owns_below {w w' : World} {B : Nat} {v : Value} {n : Nat} {xs : List Value} (h : w.ownsRow B 9 1 v n xs) (hb : Below w.heap.size w w') : w'.ownsRow B 9 1 v n xs := by
  refine ⟨h.1, ?_⟩
  rcases h.2 with h0 | ⟨g, cap, cur, hv, hB, hg, rest⟩
  · exact .inl h0
  · exact .inr ⟨g, cap, cur, hv, hB, by rw [hb.block g (lt_of_block hg)]; exact hg, rest⟩
theorem row_below {w0 w w' : World} {v : Value} {l : List ByteArray} (h : Row w0 w v l) (hb : Below w.heap.size w w') : Row w0 w' v l := ⟨h.1.trans (hb.mono h.1.size), owns_below h.2 hb⟩
theorem row_alloc {w0 w : World} {v : Value} {l : List ByteArray} (h : Row w0 w v l) (o : Obj) : Row w0 (w.alloc o) v l := row_below h ((Below.refl _ w).alloc (Nat.le_refl _) o)

theorem info9 : (Try.prog.info? 9).map (fun i => (i.zero, i.size, i.bytes)) = some (some (.string ⟨#[]⟩), 1, 16) := by kernel_rfl

/-- 'append(v, s)', s a string. -/
theorem wp_name {ops : Array Oper} {rest : List Oper} {o : Oper} {a : Act} {Q : Exit → Act → World → Prop} (w : World) (hgd : o.guard = none) (s x : Operand)
    (ho : o.op = .call { callee := .builtin .append, args := #[s, x], argTypes := #[23, 23] })
    (w0 : World) (v : Value) (l : List ByteArray) (hst : Row w0 w v l) (hs : a.eval s = v) (hl : l.length ≤ 1000)
    (b : Nat) (t : ByteArray) (hx : a.eval x = .slice (some ⟨b, 0, none⟩) 1 1) (hc : w.cell? ⟨b, 0, none⟩ = some (.string t))
    (h : ∀ v' w', Row w0 w' v' (l ++ [t]) → wpList Try.prog ops Q rest (a.put o.dst v') w') : wpList Try.prog ops Q (o :: rest) a w := by
  obtain ⟨i0, hi, hz0, hz1, hz2⟩ := info_parts info9
  refine wpList_append_own w hgd s x 23 ho w0.heap.size 9 i0 (.string ⟨#[]⟩) 1 16 Try.underlying23 hi hz0 hz1 hz2 rfl (by decide) v l.length (sc l) hs hst.2 ⟨b, 0, none⟩ 1 1 [.string t] hx rfl ?_ ?_ ?_ ?_ ?_ ?_
  · intro j u hj
    match j, hj with
    | 0, hj => simp at hj; subst hj; simpa [Addr.add] using hc
    | j + 1, hj => simp at hj
  · intro u hu; simp at hu; subst hu; rfl
  · unfold maxLen; omega
  · omega
  · exact hst.1.size
  · intro v' w' h1 h2 h3
    refine h v' w' ⟨hst.1.grown h2 hst.1.size (fun k hk => (hst.2.lt k hk).1), ?_⟩
    rw [sc_append, List.length_append]; exact h1

/-- v reads as the strings l. -/
def Reads (w : World) (v : Value) (l : List ByteArray) : Prop :=
  (v = .slice none 0 0 ∧ l = []) ∨ ∃ g cap, v = .slice (some ⟨g, 0, none⟩) l.length cap ∧ ∀ j, j < l.length → w.cell? ⟨g, j, none⟩ = some (.string (l.getD j ⟨#[]⟩))
theorem reads_row {w0 w : World} {v : Value} {l : List ByteArray} (h : Row w0 w v l) : Reads w v l := by
  rcases h.2.2 with ⟨h1, h2⟩ | ⟨g, cap, cur, h1, hB, hg, rest⟩
  · exact .inl ⟨h1, List.eq_nil_of_length_eq_zero h2⟩
  · refine .inr ⟨g, cap, h1, fun j hj => ?_⟩
    have h' := h.2
    subst h1
    rw [h'.cellAt j (by omega)]
    simp [sc, List.getD, List.getElem?_eq_getElem hj]
theorem reads_below {w w' : World} {v : Value} {l : List ByteArray} (h : Reads w v l) (hb : Below w.heap.size w w') : Reads w' v l := by
  rcases h with h | ⟨g, cap, h1, h2⟩
  · exact .inl h
  · exact .inr ⟨g, cap, h1, fun j hj => keep_cell hb (h2 j hj)⟩

/-! ### zzb1Source, FileKinds -/
def ptrB : Value → Option Bool
  | .pointer p => some p.isSome
  | _ => none
/-- At a lies a pointer: b says whether it is not nil. -/
def Ptr (w : World) (a : Addr) (b : Bool) : Prop := (w.cell? a).map ptrB = some (some b)
theorem ptr_open {w : World} {a : Addr} {b : Bool} (h : Ptr w a b) : ∃ p : Option Addr, w.cell? a = some (.pointer p) ∧ p.isSome = b := by
  unfold Ptr at h
  cases hc : w.cell? a with
  | none => rw [hc] at h; cases h
  | some v =>
    rw [hc] at h
    simp only [Option.map_some, Option.some.injEq] at h
    unfold ptrB at h
    split at h
    · rename_i p
      exact ⟨p, rfl, by simpa using h⟩
    · cases h
def SrcPost (b0 b1 b2 b3 b4 : Bool) (w : World) (e : Ending) (w' : World) : Prop :=
  ∃ g : Nat, e = .returned (.pointer (some ⟨g, 0, none⟩)) ∧ Below w.heap.size w w' ∧ Ptr w' ⟨g, 1, none⟩ b0 ∧ Ptr w' ⟨g, 3, none⟩ b1 ∧ Ptr w' ⟨g, 2, none⟩ b2 ∧ Ptr w' ⟨g, 4, none⟩ b3

set_option maxHeartbeats 4000000 in
theorem src_any (b0 b1 b2 b3 b4 : Bool) (w : World) : Calls Try.prog 5 #[.agg #[.bool b0, .bool b1, .bool b2, .bool b3, .bool b4]] w fun e w' => SrcPost b0 b1 b2 b3 b4 w e w' := by
  cases b0 <;> cases b1 <;> cases b2 <;> cases b3 <;> cases b4
  all_goals
    go_enter Try.func5, Try.ntmps5
    go_wp2
    go_ret
    refine ⟨w.heap.size + 1, rfl, ?_, ?_, ?_, ?_, ?_⟩
    · go_grown
    all_goals (unfold Ptr; first | (go_simp; rfl) | (go_simp))
end Go.Proofs.Qxb6629077a
