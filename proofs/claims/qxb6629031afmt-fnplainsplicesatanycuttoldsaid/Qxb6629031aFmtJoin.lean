/-
  plainJoin.
-/
import Derived.Test.Qxb6629031aFmtIs
import Derived.Laws.AppendOwnNone
import Derived.OwnWalk
namespace Go.Proofs.Qxb6629031aFmt
open Go.RowKit
set_option linter.unusedVariables false

/-- The bytes l lie at g from o on. -/
def Lies (w : World) (g o : Nat) (l : List UInt8) : Prop := ∀ j, j < l.length → w.cell? ⟨g, o + j, none⟩ = some (.int .u8 ((l.getD j 0).toNat : Int))
theorem lies_below {w w' : World} {g o : Nat} {l : List UInt8} (h : Lies w g o l) (hb : Below w.heap.size w w') : Lies w' g o l := fun j hj => keep_cell hb (h j hj)

/-- 'append(b, x...)'. -/
theorem wp_app {ops : Array Oper} {rest : List Oper} {o : Oper} {a : Act} {Q : Exit → Act → World → Prop} (w : World) (hgd : o.guard = none) (s x : Operand)
    (ho : o.op = .call { callee := .builtin .append, args := #[s, x], argTypes := #[32, 32] })
    (B : Nat) (v : Value) (l : List UInt8) (hown : w.ownsRow B 5 1 v l.length (bc l)) (hs : a.eval s = v) (hl : l.length ≤ 100000000) (hB : B ≤ w.heap.size)
    (g of n c : Nat) (l2 : List UInt8) (hn : n = l2.length) (hx : a.eval x = .slice (some ⟨g, of, none⟩) n c) (hc : Lies w g of l2) (hl2 : n ≤ 100000000)
    (h : ∀ v' w', w'.ownsRow B 5 1 v' (l ++ l2).length (bc (l ++ l2)) → w.grownBy w' v.ownBlock → wpList Tryf.prog ops Q rest (a.put o.dst v') w') : wpList Tryf.prog ops Q (o :: rest) a w := by
  obtain ⟨i0, hi, hz0, hz1, hz2⟩ := info_parts info5
  refine wpList_append_own w hgd s x 32 ho B 5 i0 (.int .u8 0) 1 1 Tryf.underlying32 hi hz0 hz1 hz2 rfl (by decide) v l.length (bc l) hs hown ⟨g, of, none⟩ n c (bc l2) hx (by rw [bc_length]; omega) ?_ ?_ ?_ ?_ hB ?_
  · intro j u hj
    have hjl : j < l2.length := by
      rcases Nat.lt_or_ge j l2.length with h | h
      · exact h
      · rw [List.getElem?_eq_none (by rw [bc_length]; exact h)] at hj; cases hj
    have := hc j hjl
    have e : u = .int .u8 ((l2.getD j 0).toNat : Int) := by
      simp [bc, List.getElem?_eq_getElem hjl] at hj
      rw [← hj]; simp [List.getD, List.getElem?_eq_getElem hjl]
    rw [e, Addr.add_lit]; exact this
  · intro u hu
    simp only [bc, List.mem_map] at hu
    obtain ⟨b, _, rfl⟩ := hu
    rfl
  · unfold maxLen; omega
  · omega
  · intro v' w' h1 h2 _
    refine h v' w' ?_ h2
    rw [List.length_append, bc_append, ← hn]; exact h1

def JoinPost (l1 l2 : List UInt8) (w : World) (e : Ending) (w' : World) : Prop := ∃ v, e = .returned v ∧ Below w.heap.size w w' ∧ Reads w' v (l1 ++ l2)

theorem grown_below {w w' : World} {B : Nat} {r : Option Nat} (h : w.grownBy w' r) (hB : B ≤ w.heap.size) (hr : ∀ k, r = some k → B ≤ k) : Below B w w' := (Below.refl B w).grown h hB hr

set_option maxHeartbeats 1000000 in
theorem join_none (g2 o2 n2 c2 : Nat) (l2 : List UInt8) (hn2 : Hid (n2 = l2.length)) (hl2 : n2 ≤ 10000000) (w : World) (h2 : Hid (Lies w g2 o2 l2)) :
    Calls Tryf.prog 13 #[.slice none 0 0, .slice (some ⟨g2, o2, none⟩) n2 c2] w fun e w' => JoinPost [] l2 w e w' := by
  obtain ⟨i0, hi, hz0, hz1, hz2⟩ := info_parts info5
  go_enter Tryf.func13, Tryf.ntmps13
  go_wp2_with (first
    | (at_make; refine wpList_make_own _ rfl _ _ 32 rfl w.heap.size 5 i0 (.int .u8 0) 1 Tryf.underlying32 hi hz0 hz1 .i64 .i64 _ n2 rfl rfl (by omega) (by rw [hz2]; omega) (by unfold maxLen; omega) (Nat.le_refl _) ?_; intro w1 ho1 hg1; have hb1 := grown_below hg1 (Nat.le_refl _) (fun k hk => by cases hk); have h21 := lies_below h2.out hb1; have hs1 := hb1.size)
    | (at_builtin; refine wpList_append_own_none rfl (.tmp 12) (.tmp 13) 32 rfl w.heap.size 5 i0 1 Tryf.underlying32 hi _ 0 [] rfl ho1 rfl ?_)
    | (at_builtin; refine wp_app _ rfl (.tmp 15) (.tmp 16) rfl w.heap.size _ [] ho1 rfl (by decide) hs1 g2 o2 n2 c2 l2 hn2.out rfl h21 (by omega) ?_; intro v' w2 ho2 hg2))
  have hb2 := hb1.grown hg2 hb1.size (fun k hk => (ho1.lt k hk).1)
  go_ret
  exact ⟨v', rfl, hb2, reads_own ho2⟩

set_option maxHeartbeats 1000000 in
theorem join_some (g1 o1 n1 c1 : Nat) (l1 : List UInt8) (hn1 : Hid (n1 = l1.length)) (hl1 : n1 ≤ 10000000) (g2 o2 n2 c2 : Nat) (l2 : List UInt8) (hn2 : Hid (n2 = l2.length)) (hl2 : n2 ≤ 10000000) (w : World) (h1 : Hid (Lies w g1 o1 l1)) (h2 : Hid (Lies w g2 o2 l2)) :
    Calls Tryf.prog 13 #[.slice (some ⟨g1, o1, none⟩) n1 c1, .slice (some ⟨g2, o2, none⟩) n2 c2] w fun e w' => JoinPost l1 l2 w e w' := by
  obtain ⟨i0, hi, hz0, hz1, hz2⟩ := info_parts info5
  have hll : ([] ++ l1).length ≤ 100000000 := by rw [List.nil_append, ← hn1.out]; omega
  have HLL := HidC hll
  clear hll
  go_enter Tryf.func13, Tryf.ntmps13
  go_wp2_with (first
    | (at_make; refine wpList_make_own _ rfl _ _ 32 rfl w.heap.size 5 i0 (.int .u8 0) 1 Tryf.underlying32 hi hz0 hz1 .i64 .i64 _ (n1 + n2) rfl rfl (by omega) (by rw [hz2]; omega) (by unfold maxLen; omega) (Nat.le_refl _) ?_; intro w1 ho1 hg1; have hb1 := grown_below hg1 (Nat.le_refl _) (fun k hk => by cases hk); have h11 := lies_below h1.out hb1; have hs1 := hb1.size)
    | (at_builtin; refine wp_app _ rfl (.tmp 12) (.tmp 13) rfl w.heap.size _ [] ho1 rfl (by decide) hs1 g1 o1 n1 c1 l1 hn1.out rfl h11 (by omega) ?_; intro v' w2 ho2 hg2; have hb2 := hb1.grown hg2 hb1.size (fun k hk => (ho1.lt k hk).1); have h22 := lies_below h2.out hb2; have hs2 := hb2.size)
    | (at_builtin; refine wp_app _ rfl (.tmp 15) (.tmp 16) rfl w.heap.size _ ([] ++ l1) ho2 rfl HLL.out hs2 g2 o2 n2 c2 l2 hn2.out rfl h22 (by omega) ?_; intro v2 w3 ho3 hg3))
  have hb3 := hb2.grown hg3 hb2.size (fun k hk => (ho2.lt k hk).1)
  go_ret
  exact ⟨v2, rfl, hb3, reads_own ho3⟩
end Go.Proofs.Qxb6629031aFmt
