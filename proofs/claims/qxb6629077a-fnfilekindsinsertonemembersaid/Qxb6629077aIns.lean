/-
  zzb1KindName, zzb1InsertAt, and the walk of FnFileKindsInsertOneMember.
-/
import Derived.Test.Qxb6629077aSplit
namespace Go.Proofs.Qxb6629077a
open Go.RowKit
set_option linter.unusedVariables false

def nmOf (m : Nat) : ByteArray := if m = 0 then nSec else if m = 1 then nCfg else if m = 2 then nDow else if m = 3 then nPro else ⟨#[]⟩
theorem name_any (m : Nat) (hm : m ≤ 3) (w : World) : Calls Try.prog 9 #[.int .i64 m] w fun e w' => e = .returned (.string (nmOf m)) ∧ w = w' := by
  rcases (by omega : m = 0 ∨ m = 1 ∨ m = 2 ∨ m = 3) with rfl | rfl | rfl | rfl
  all_goals
    go_enter Try.func9, Try.ntmps9
    go_wp2
    go_ret
    exact ⟨rfl, rfl⟩

/-- l with x inserted at place q. -/
def ins (l : List ByteArray) (q : Nat) (x : ByteArray) : List ByteArray := l.take q ++ [x] ++ l.drop q
/-- What the loop of zzb1InsertAt has laid after k rounds. -/
def insTo (l : List ByteArray) (q : Nat) (x : ByteArray) (k : Nat) : List ByteArray := if k ≤ q then l.take k else l.take q ++ [x] ++ (l.drop q).take (k - q)

theorem insTo_zero (l : List ByteArray) (q : Nat) (x : ByteArray) : insTo l q x 0 = [] := by simp [insTo]
theorem insTo_at {l : List ByteArray} {q : Nat} {x : ByteArray} (h : q < l.length) : insTo l q x q ++ [x] ++ [l.getD q ⟨#[]⟩] = insTo l q x (q + 1) := by
  unfold insTo
  rw [if_pos (Nat.le_refl _), if_neg (by omega), show q + 1 - q = 0 + 1 from by omega, ← take_getD (l.drop q) 0 (by simp; omega)]
  simp [List.getD]
theorem insTo_low {l : List ByteArray} {q k : Nat} {x : ByteArray} (h : k < l.length) (hk : k < q) : insTo l q x k ++ [l.getD k ⟨#[]⟩] = insTo l q x (k + 1) := by
  unfold insTo
  rw [if_pos (by omega), if_pos (by omega), take_getD l k h]
theorem insTo_high {l : List ByteArray} {q k : Nat} {x : ByteArray} (h : k < l.length) (hk : q < k) : insTo l q x k ++ [l.getD k ⟨#[]⟩] = insTo l q x (k + 1) := by
  unfold insTo
  rw [if_neg (by omega), if_neg (by omega), show k + 1 - q = (k - q) + 1 from by omega, ← take_getD (l.drop q) (k - q) (by simp; omega)]
  have : (l.drop q).getD (k - q) ⟨#[]⟩ = l.getD k ⟨#[]⟩ := by
    simp only [List.getD, List.getElem?_drop]
    rw [show q + (k - q) = k from by omega]
  rw [this]
  simp
theorem insTo_end_low {l : List ByteArray} {q : Nat} {x : ByteArray} (h : l.length ≤ q) : insTo l q x l.length ++ [x] = ins l q x := by
  unfold insTo ins
  rw [if_pos h, List.take_of_length_le (Nat.le_refl _), List.take_of_length_le h, List.drop_of_length_le h, List.append_nil]
theorem insTo_end_high {l : List ByteArray} {q : Nat} {x : ByteArray} (h : q < l.length) : insTo l q x l.length = ins l q x := by
  unfold insTo ins
  have e : (l.drop q).take (l.length - q) = l.drop q := List.take_of_length_le (by simp)
  rw [if_neg (by omega), e]
theorem insTo_len {l : List ByteArray} {q : Nat} {x : ByteArray} (hl : l.length ≤ 100) (k : Nat) : (insTo l q x k).length ≤ 300 := by
  unfold insTo
  split
  · rw [List.length_take]; omega
  · simp only [List.length_append, List.length_take, List.length_drop, List.length_cons, List.length_nil]; omega

set_option maxHeartbeats 2000000 in
theorem insert_at (a : Option Addr) (n c q : Nat) (x : ByteArray) (l : List ByteArray) (h1 : Hid (n = l.length)) (hn : n ≤ 100) (hq : q ≤ 100) (w : World) (ha : Hid (At w a l)) :
    Calls Try.prog 8 #[.slice a n c, .int .i64 q, .string x] w fun e w' => RowPost (ins l q x) w e w' := by
  obtain ⟨i0, hi, hz0, hz1, hz2⟩ := info_parts info9
  go_enter Try.func8, Try.ntmps8
  go_wp2_with (at_make; refine wpList_make_own _ rfl _ _ 23 rfl w.heap.size 9 i0 (.string ⟨#[]⟩) 1 Try.underlying23 hi hz0 hz1 .i64 .i64 _ (n + 1) rfl rfl (by omega) (by rw [hz2]; omega) (by unfold maxLen; omega) (Nat.le_refl _) ?_; intro w1 ho1 hg1; have hb1 : Below w.heap.size w w1 := (Below.refl _ w).grown hg1 (Nat.le_refl _) (fun k hk => by cases hk); have hR1 : Hid (Row w w1 _ []) := ⟨hb1, ho1⟩)
  clear ho1 hg1 hb1 hi hz0 hz1 hz2
  go_loopw [7, 8] (fun v i wr => ∃ k : Nat, k ≤ n ∧ i = .int .i64 k ∧ Hid (Row w wr v (insTo l q x k))) (fun _ i _ => n - (intOf i).toNat)
  case atStart => exact ⟨0, Nat.zero_le _, rfl, by rw [insTo_zero]; exact hR1⟩
  case round =>
    clear hR1
    obtain ⟨k, hk, rfl, HR⟩ := hrel
    have hln : l.length ≤ 100 := by have := h1.out; omega
    by_cases hlt : k < n
    · obtain ⟨g, rfl, hc⟩ := ha.out k (by have := h1.out; omega)
      have hc' := keep_cell HR.out.1 hc
      have hlen : (insTo l q x k).length ≤ 1000 := Nat.le_trans (insTo_len hln k) (by decide)
      have hlt' : (k : Int) < n := by omega
      by_cases hkq : k = q
      · subst hkq
        have t1 : ((k : Int) == k) = true := by simp
        have hlen2 : (insTo l k x k ++ [x]).length ≤ 1000 := by rw [List.length_append]; have := insTo_len (x := x) (q := k) hln k; simp; omega
        go_wp2_with (first
          | (at_builtin; refine wp_name _ rfl _ (.tmp 24) rfl w _ _ (row_alloc HR.out _) rfl hlen _ x rfl (by simp) ?_; intro va wa hra; have hca := keep_cell hra.1 hc)
          | (at_builtin; refine wp_name _ rfl _ (.tmp 31) rfl w _ _ (row_alloc hra _) rfl hlen2 _ (l.getD k ⟨#[]⟩) rfl (by simp) ?_; intro vb wb hrb))
        rw [insTo_at (by have := h1.out; omega)] at hrb
        exact ⟨⟨k + 1, by omega, by go_num, hrb⟩, by simp [intOf]; omega⟩
      · have t1 : ((k : Int) == q) = false := by simp; omega
        go_wp2_with (at_builtin; refine wp_name _ rfl _ (.tmp 31) rfl w _ _ (row_alloc HR.out _) rfl hlen _ (l.getD k ⟨#[]⟩) rfl (by simp) ?_; intro vb wb hrb)
        have hrc : Row w wb vb (insTo l q x (k + 1)) := by
          rcases Nat.lt_or_ge k q with h | h
          · rw [insTo_low (by have := h1.out; omega) h] at hrb; exact hrb
          · rw [insTo_high (by have := h1.out; omega) (by omega)] at hrb; exact hrb
        exact ⟨⟨k + 1, by omega, by go_num, hrc⟩, by simp [intOf]; omega⟩
    · obtain rfl : k = n := by omega
      have hlen : (insTo l q x k).length ≤ 1000 := Nat.le_trans (insTo_len hln k) (by decide)
      by_cases hqn : k ≤ q
      · have t1 : decide ((k : Int) ≤ q) = true := by simp; omega
        have t2 : decide (k ≤ q) = true := by simp; omega
        go_wp2_with (at_builtin; refine wp_name _ rfl _ (.tmp 39) rfl w _ _ (row_alloc HR.out _) rfl hlen _ x rfl (by simp) ?_; intro vb wb hrb)
        go_ret
        refine ⟨_, rfl, ?_⟩
        rw [h1.out, insTo_end_low (by have := h1.out; omega)] at hrb
        exact hrb
      · have t1 : decide ((k : Int) ≤ q) = false := by simp; omega
        have t2 : decide (k ≤ q) = false := by simp; omega
        go_wp2
        go_ret
        refine ⟨_, rfl, ?_⟩
        have := HR.out
        rw [h1.out, insTo_end_high (by have := h1.out; omega)] at this
        exact this
end Go.Proofs.Qxb6629077a
