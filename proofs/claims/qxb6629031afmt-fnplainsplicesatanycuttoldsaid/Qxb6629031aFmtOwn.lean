/-
  A text of bytes that the call owns; what Plain and the model do to it.
-/
import Derived.Test.Qxb6629031aFmtAtoi
import Derived.Lib.AppendStr
import Derived.Deep.AppendLies
namespace Go.Proofs.Qxb6629031aFmt
open Go.RowKit
set_option linter.unusedVariables false

def bc (l : List UInt8) : List Value := l.map fun b => .int .u8 b.toNat
theorem bc_length (l : List UInt8) : (bc l).length = l.length := by simp [bc]
theorem bc_append (a b : List UInt8) : bc (a ++ b) = bc a ++ bc b := by simp [bc]
theorem strCells_bs (s : ByteArray) : Lib.strCells s = bc (bs s) := rfl

/-- v owns the bytes l; the empty text is nil. -/
def Own (w : World) (B : Nat) (v : Value) (l : List UInt8) : Prop := w.ownsRow B 5 1 v l.length (bc l) ∧ (l = [] → v = .slice none 0 0)

theorem own_nil (w : World) (B : Nat) : Own w B (.slice none 0 0) [] := ⟨World.ownsRow_nil w B 5 1, fun _ => rfl⟩

theorem own_below {w w' : World} {B : Nat} {v : Value} {l : List UInt8} (h : Own w B v l) (hb : Below w.heap.size w w') : Own w' B v l := by
  refine ⟨⟨h.1.1, ?_⟩, h.2⟩
  rcases h.1.2 with h0 | ⟨g, cap, cur, hv, hB, hg, rest⟩
  · exact .inl h0
  · exact .inr ⟨g, cap, cur, hv, hB, by rw [hb.block g (lt_of_block hg)]; exact hg, rest⟩

/-- What a walk holds while it lays a text: the old world's blocks, the text, one block of another tag. -/
def St (w0 w : World) (v : Value) (l : List UInt8) (tb : Nat) (o : Obj) : Prop :=
  Below w0.heap.size w0 w ∧ Own w w0.heap.size v l ∧ w.heap[tb]? = some o

theorem st_below {w0 w w' : World} {v : Value} {l : List UInt8} {tb : Nat} {o : Obj} (h : St w0 w v l tb o) (hb : Below w.heap.size w w') : St w0 w' v l tb o :=
  ⟨h.1.trans (hb.mono h.1.size), own_below h.2.1 hb, by rw [hb.block tb (lt_of_block h.2.2)]; exact h.2.2⟩
theorem st_alloc {w0 w : World} {v : Value} {l : List UInt8} {tb : Nat} {o : Obj} (h : St w0 w v l tb o) (p : Obj) : St w0 (w.alloc p) v l tb o :=
  st_below h ((Below.refl _ w).alloc (Nat.le_refl _) p)

theorem st_grown {w0 w w' : World} {v v' : Value} {l l' : List UInt8} {tb : Nat} {c : Array Value} {t : TypeId} (ht : t ≠ 5) (h : St w0 w v l tb (.cells c t (0, 0))) (hg : w.grownBy w' v.ownBlock) (ho : Own w' w0.heap.size v' l') : St w0 w' v' l' tb (.cells c t (0, 0)) := by
  refine ⟨h.1.grown hg h.1.size (fun k hk => (h.2.1.1.lt k hk).1), ho, ?_⟩
  rw [hg.block tb (lt_of_block h.2.2) ?_]
  · exact h.2.2
  · intro e
    rcases h.2.1.1.2 with ⟨hv, _⟩ | ⟨g, cap, cur, hv, hB, hgg, rest⟩
    · rw [hv] at e; cases e
    · rw [hv] at e
      simp only [Value.ownBlock, Option.some.injEq] at e
      subst e
      rw [h.2.2] at hgg
      simp only [Option.some.injEq, Obj.cells.injEq] at hgg
      exact ht hgg.2.1

theorem info5 : (Tryf.prog.info? 5).map (fun i => (i.zero, i.size, i.bytes)) = some (some (.int .u8 0), 1, 1) := by kernel_rfl

/-- 'append(b, '\n')'. -/
theorem wp_nl {ops : Array Oper} {rest : List Oper} {o : Oper} {a : Act} {Q : Exit → Act → World → Prop} (w : World) (hgd : o.guard = none) (s x : Operand)
    (ho : o.op = .call { callee := .builtin .append, args := #[s, x], argTypes := #[32, 32] })
    (w0 : World) (v : Value) (l : List UInt8) (tb : Nat) (c : Array Value) (t : TypeId) (ht : t ≠ 5) (hst : St w0 w v l tb (.cells c t (0, 0))) (hs : a.eval s = v) (hl : l.length ≤ 100000000)
    (b : Nat) (hx : a.eval x = .slice (some ⟨b, 0, none⟩) 1 1) (hc : w.cell? ⟨b, 0, none⟩ = some (.int .u8 10))
    (h : ∀ v' w', St w0 w' v' (l ++ [10]) tb (.cells c t (0, 0)) → wpList Tryf.prog ops Q rest (a.put o.dst v') w') : wpList Tryf.prog ops Q (o :: rest) a w := by
  obtain ⟨i0, hi, hz0, hz1, hz2⟩ := info_parts info5
  refine wpList_append_own w hgd s x 32 ho w0.heap.size 5 i0 (.int .u8 0) 1 1 Tryf.underlying32 hi hz0 hz1 hz2 rfl (by decide) v l.length (bc l) hs hst.2.1.1 ⟨b, 0, none⟩ 1 1 [.int .u8 10] hx rfl ?_ ?_ ?_ ?_ ?_ ?_
  · intro j u hj
    match j, hj with
    | 0, hj => simp at hj; subst hj; simpa [Addr.add] using hc
    | j + 1, hj => simp at hj
  · intro u hu; simp at hu; subst hu; rfl
  · unfold maxLen; omega
  · omega
  · exact hst.1.size
  · intro v' w' h1 h2 h3
    refine h v' w' (st_grown ht hst h2 ⟨?_, fun hh => by simp at hh⟩)
    have e : bc [10] = [.int .u8 10] := rfl
    rw [bc_append, e, List.length_append]; exact h1

/-- 'append(b, s...)'. -/
theorem wp_str {ops : Array Oper} {rest : List Oper} {o : Oper} {a : Act} {Q : Exit → Act → World → Prop} (w : World) (hgd : o.guard = none) (sl x : Operand)
    (ho : o.op = .call { callee := .builtin .append, args := #[sl, x], argTypes := #[32, 9] })
    (w0 : World) (v : Value) (l : List UInt8) (tb : Nat) (c : Array Value) (t : TypeId) (ht : t ≠ 5) (hst : St w0 w v l tb (.cells c t (0, 0))) (hs : a.eval sl = v) (hl : l.length ≤ 100000000)
    (s : ByteArray) (hx : a.eval x = .string s) (hsz : s.size ≤ 1048576)
    (h : ∀ v' w', St w0 w' v' (l ++ bs s) tb (.cells c t (0, 0)) → wpList Tryf.prog ops Q rest (a.put o.dst v') w') : wpList Tryf.prog ops Q (o :: rest) a w := by
  obtain ⟨i0, hi, hz0, hz1, hz2⟩ := info_parts info5
  refine Lib.wpList_append_own_string w hgd sl x 32 9 ho w0.heap.size 5 i0 Tryf.underlying32 Tryf.underlying9 hi hz0 hz1 hz2 v l.length (bc l) hs hst.2.1.1 s hx ?_ ?_ ?_ ?_
  · unfold maxLen; omega
  · omega
  · exact hst.1.size
  · intro v' w' h1 h2 h3
    refine h v' w' (st_grown ht hst h2 ⟨?_, fun hh => ?_⟩)
    · rw [bc_append, List.length_append, bs_len]; exact h1
    · simp only [List.append_eq_nil_iff] at hh
      exact h3.2 ⟨hst.2.1.2 hh.1, by rw [← bs_len, hh.2]; rfl⟩
end Go.Proofs.Qxb6629031aFmt
