/-
  zzb1Concat.
-/
import Derived.Test.Qxb6629077aRun2
namespace Go.Proofs.Qxb6629077a
open Go.RowKit
set_option linter.unusedVariables false

/-- The strings l lie at a. -/
def At (w : World) (a : Option Addr) (l : List ByteArray) : Prop := ∀ j, j < l.length → ∃ g, a = some ⟨g, 0, none⟩ ∧ w.cell? ⟨g, j, none⟩ = some (.string (l.getD j ⟨#[]⟩))
theorem at_of {w : World} {v : Value} {l : List ByteArray} (h : Reads w v l) : ∃ a c, v = .slice a l.length c ∧ At w a l := by
  rcases h with ⟨rfl, rfl⟩ | ⟨g, cap, rfl, h⟩
  · exact ⟨none, 0, rfl, fun j hj => by simp at hj⟩
  · exact ⟨_, cap, rfl, fun j hj => ⟨g, rfl, h j hj⟩⟩
theorem take_getD (l : List ByteArray) (k : Nat) (h : k < l.length) : l.take k ++ [l.getD k ⟨#[]⟩] = l.take (k + 1) := by
  rw [List.take_succ_eq_append_getElem h]; simp [List.getD, List.getElem?_eq_getElem h]

set_option maxHeartbeats 2000000 in
theorem concat_at (a b : Option Addr) (n1 n2 c1 c2 : Nat) (l1 l2 : List ByteArray) (h1 : Hid (n1 = l1.length)) (h2 : Hid (n2 = l2.length)) (hn1 : n1 ≤ 100) (hn2 : n2 ≤ 100) (w : World) (ha : Hid (At w a l1)) (hb : Hid (At w b l2)) :
    Calls Try.prog 11 #[.slice a n1 c1, .slice b n2 c2] w fun e w' => RowPost (l1 ++ l2) w e w' := by
  obtain ⟨i0, hi, hz0, hz1, hz2⟩ := info_parts info9
  go_enter Try.func11, Try.ntmps11
  go_wp2_with (at_make; refine wpList_make_own _ rfl _ _ 23 rfl w.heap.size 9 i0 (.string ⟨#[]⟩) 1 Try.underlying23 hi hz0 hz1 .i64 .i64 _ (n1 + n2) rfl rfl (by omega) (by rw [hz2]; omega) (by unfold maxLen; omega) (Nat.le_refl _) ?_; intro w1 ho1 hg1; have hb1 : Below w.heap.size w w1 := (Below.refl _ w).grown hg1 (Nat.le_refl _) (fun k hk => by cases hk); have hR1 : Hid (Row w w1 _ []) := ⟨hb1, ho1⟩)
  clear ho1 hg1 hb1 hi hz0 hz1 hz2
  go_loopw [5, 6] (fun v i wr => ∃ k : Nat, k ≤ n1 ∧ i = .int .i64 k ∧ Hid (Row w wr v (l1.take k))) (fun _ i _ => n1 - (intOf i).toNat)
  case atStart => exact ⟨0, Nat.zero_le _, rfl, by rw [List.take_zero]; exact hR1⟩
  case round =>
    clear hR1
    obtain ⟨k, hk, rfl, HR⟩ := hrel
    by_cases hlt : k < n1
    · obtain ⟨g, rfl, hc⟩ := ha.out k (by have := h1.out; omega)
      have hc' := keep_cell HR.out.1 hc
      have hlen : (l1.take k).length ≤ 1000 := by rw [List.length_take]; omega
      have hlt' : (k : Int) < n1 := by omega
      go_wp2_with (at_builtin; refine wp_name _ rfl _ (.tmp 25) rfl w _ _ (row_alloc HR.out _) rfl hlen _ (l1.getD k ⟨#[]⟩) rfl (by simp) ?_; intro va wa hra)
      rw [take_getD _ _ (by have := h1.out; omega)] at hra
      exact ⟨⟨k + 1, by omega, by go_num, hra⟩, by simp [intOf]; omega⟩
    · obtain rfl : k = n1 := by omega
      have HR2 : Hid (Row w wr u5 l1) := by
        have := HR.out
        rw [List.take_of_length_le (by have := h1.out; omega)] at this
        exact this
      clear HR
      go_wp2
      go_loopw [5, 7] (fun v i wr => ∃ j : Nat, j ≤ n2 ∧ i = .int .i64 j ∧ Hid (Row w wr v (l1 ++ l2.take j))) (fun _ i _ => n2 - (intOf i).toNat)
      case atStart => exact ⟨0, Nat.zero_le _, rfl, by rw [List.take_zero, List.append_nil]; exact HR2⟩
      case round =>
        clear HR2
        obtain ⟨j, hj, rfl, HR⟩ := hrel
        by_cases hlt : j < n2
        · obtain ⟨g, rfl, hc⟩ := hb.out j (by have := h2.out; omega)
          have hc' := keep_cell HR.out.1 hc
          have hlen : (l1 ++ l2.take j).length ≤ 1000 := by rw [List.length_append, List.length_take]; have := h1.out; omega
          have hlt' : (j : Int) < n2 := by omega
          go_wp2_with (at_builtin; refine wp_name _ rfl _ (.tmp 38) rfl w _ _ (row_alloc HR.out _) rfl hlen _ (l2.getD j ⟨#[]⟩) rfl (by simp) ?_; intro va wa hra)
          rw [List.append_assoc, take_getD _ _ (by have := h2.out; omega)] at hra
          exact ⟨⟨j + 1, by omega, by go_num, hra⟩, by simp [intOf]; omega⟩
        · obtain rfl : j = n2 := by omega
          go_wp2
          go_ret
          refine ⟨_, rfl, ?_⟩
          have := HR.out
          rw [List.take_of_length_le (by have := h2.out; omega)] at this
          exact this
end Go.Proofs.Qxb6629077a
