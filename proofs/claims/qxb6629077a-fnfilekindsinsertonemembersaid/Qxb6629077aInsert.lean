/-
  The walk of FnFileKindsInsertOneMember.
-/
import Derived.Test.Qxb6629077aIns
namespace Go.Proofs.Qxb6629077a
open Go.RowKit
set_option linter.unusedVariables false

def setAt (p : Nat → Bool) (m i : Nat) : Bool := if i = m then true else p i
theorem insert_law (a1 a2 a3 a4 a0 : Bool) (m : Nat) (hm : m ≤ 3) (hf : pk a1 a2 a3 a4 a0 m = false) :
    names (setAt (pk a1 a2 a3 a4 a0) m 0) (setAt (pk a1 a2 a3 a4 a0) m 1) (setAt (pk a1 a2 a3 a4 a0) m 2) (setAt (pk a1 a2 a3 a4 a0) m 3) = ins (names a1 a2 a3 a4) (cn (pk a1 a2 a3 a4 a0) 0 m) (nmOf m) := by
  rcases (by omega : m = 0 ∨ m = 1 ∨ m = 2 ∨ m = 3) with rfl | rfl | rfl | rfl <;> cases a1 <;> cases a2 <;> cases a3 <;> cases a4 <;> first | rfl | (exact Bool.noConfusion (show true = false from hf))
theorem count_law (a1 a2 a3 a4 a0 : Bool) : (names a1 a2 a3 a4).length = cn (pk a1 a2 a3 a4 a0) 0 4 := by
  cases a1 <;> cases a2 <;> cases a3 <;> cases a4 <;> rfl

theorem src_set (a1 a2 a3 a4 a0 : Bool) (m : Nat) (hm : m < 5) (w : World) :
    Calls Try.prog 5 #[.agg #[(([.bool a1, .bool a2, .bool a3, .bool a4, .bool a0] : List Value).set m (.bool true))[0]'(by simp), (([.bool a1, .bool a2, .bool a3, .bool a4, .bool a0] : List Value).set m (.bool true))[1]'(by simp), (([.bool a1, .bool a2, .bool a3, .bool a4, .bool a0] : List Value).set m (.bool true))[2]'(by simp), (([.bool a1, .bool a2, .bool a3, .bool a4, .bool a0] : List Value).set m (.bool true))[3]'(by simp), (([.bool a1, .bool a2, .bool a3, .bool a4, .bool a0] : List Value).set m (.bool true))[4]'(by simp)]] w fun e w' =>
      SrcPost (setAt (pk a1 a2 a3 a4 a0) m 0) (setAt (pk a1 a2 a3 a4 a0) m 1) (setAt (pk a1 a2 a3 a4 a0) m 2) (setAt (pk a1 a2 a3 a4 a0) m 3) (setAt (pk a1 a2 a3 a4 a0) m 4) w e w' := by
  rcases (by omega : m = 0 ∨ m = 1 ∨ m = 2 ∨ m = 3 ∨ m = 4) with rfl | rfl | rfl | rfl | rfl <;> exact src_any _ _ _ _ _ w
theorem four_law (a1 a2 a3 a4 a0 : Bool) : names (setAt (pk a1 a2 a3 a4 a0) 4 0) (setAt (pk a1 a2 a3 a4 a0) 4 1) (setAt (pk a1 a2 a3 a4 a0) 4 2) (setAt (pk a1 a2 a3 a4 a0) 4 3) = names a1 a2 a3 a4 := rfl

set_option maxRecDepth 20000 in
set_option maxHeartbeats 4000000 in
theorem insert_any (a0 a1 a2 a3 a4 : Bool) (w : World) :
    Calls Try.prog 3 #[.bool a0, .bool a1, .bool a2, .bool a3, .bool a4] w fun e w' => e = .returned (.bool true) ∧ Below w.heap.size w w' := by
  go_enter Try.func3, Try.ntmps3
  go_wp2_with fail
  refine (src_any a1 a2 a3 a4 a0 _).mono ?_
  rintro e w1 ⟨g, rfl, hb1, p0, p1, p2, p3⟩
  have hA : Below w.heap.size w (w.alloc (.cells #[.bool a1, .bool a2, .bool a3, .bool a4, .bool a0] 22)) := (Below.refl _ w).alloc (Nat.le_refl _) _
  have hB1 := hA.trans (hb1.mono hA.size)
  have H1 := HidC (five_below (five_new w a1 a2 a3 a4 a0) hb1)
  clear hA hb1
  go_wp2_with fail
  refine (kinds_any a1 a2 a3 a4 g w1 p0 p1 p2 p3).mono ?_
  rintro e w2 ⟨vW, rfl, hR⟩
  have hB2 := hB1.trans (hR.1.mono hB1.size)
  have H2 := HidC (five_below H1.out hR.1)
  obtain ⟨aW, cW, rfl, hAW⟩ := at_of (reads_row hR)
  have RW2 := HidC (reads_row hR)
  have AW2 := HidC hAW
  clear hR hB1 H1 p0 p1 p2 p3 hAW
  obtain ⟨nW, hnW⟩ : ∃ nW, nW = (names a1 a2 a3 a4).length := ⟨_, rfl⟩
  have HnW : Hid (nW = cn (pk a1 a2 a3 a4 a0) 0 4) := hnW.trans (count_law a1 a2 a3 a4 a0)
  have hnW4 : nW ≤ 4 := by rw [hnW]; exact names_len _ _ _ _
  have HnW2 := HidC hnW
  rw [← hnW] at RW2 ⊢
  clear hnW
  have e0 : w2.cell? ⟨w.heap.size, 0, none⟩ = some (.bool a1) := H2.out 0 (by decide)
  have e1 : w2.cell? ⟨w.heap.size, 1, none⟩ = some (.bool a2) := H2.out 1 (by decide)
  have e2 : w2.cell? ⟨w.heap.size, 2, none⟩ = some (.bool a3) := H2.out 2 (by decide)
  have e3 : w2.cell? ⟨w.heap.size, 3, none⟩ = some (.bool a4) := H2.out 3 (by decide)
  have e4 : w2.cell? ⟨w.heap.size, 4, none⟩ = some (.bool a0) := H2.out 4 (by decide)
  go_wp2_with fail
  refine (count_is a1 a2 a3 a4 a0 0 4 (by omega) _ _ rfl (by omega) nW HnW w2).mono ?_
  rintro e w3 ⟨rfl, hb3⟩
  have H3 := HidC (five_below H2.out hb3)
  have RW3 := HidC (reads_below RW2.out hb3)
  have AW3 := HidC (at_below AW2.out hb3)
  have hB3 := hB2.trans (hb3.mono hB2.size)
  clear H2 RW2 AW2 hB2 hb3 e0 e1 e2 e3 e4
  go_wp2
  go_loopw [13] (fun i wr => ∃ m : Nat, m ≤ 5 ∧ i = .int .i64 m ∧ Below w.heap.size w wr ∧ Hid (Five wr w.heap.size (pk a1 a2 a3 a4 a0)) ∧ Hid (Reads wr (.slice aW nW cW) (names a1 a2 a3 a4)) ∧ Hid (At wr aW (names a1 a2 a3 a4))) (fun i _ => 5 - (intOf i).toNat)
  case atStart => exact ⟨0, Nat.zero_le _, rfl, hB3, H3, RW3, AW3⟩
  case round =>
    clear hB3 H3 RW3 AW3
    obtain ⟨m, hm, rfl, hbl, HF, HW, HA⟩ := hrel
    by_cases hm5 : m < 5
    · have m1 : decide ((m : Int) < 5) = true := by simp; omega
      have hm5' : (m : Int) < 5 := by omega
      have hc := HF.out m hm5
      cases hpm : pk a1 a2 a3 a4 a0 m with
      | true =>
        rw [hpm] at hc
        go_wp2
        exact ⟨⟨m + 1, by omega, by go_num, hbl, HF, HW, HA⟩, by simp [intOf]; omega⟩
      | false =>
        rw [hpm] at hc
        have e0 : wr.cell? ⟨w.heap.size, 0, none⟩ = some (.bool a1) := HF.out 0 (by decide)
        have e1 : wr.cell? ⟨w.heap.size, 1, none⟩ = some (.bool a2) := HF.out 1 (by decide)
        have e2 : wr.cell? ⟨w.heap.size, 2, none⟩ = some (.bool a3) := HF.out 2 (by decide)
        have e3 : wr.cell? ⟨w.heap.size, 3, none⟩ = some (.bool a4) := HF.out 3 (by decide)
        have e4 : wr.cell? ⟨w.heap.size, 4, none⟩ = some (.bool a0) := HF.out 4 (by decide)
        go_wp2_with fail
        refine (src_set a1 a2 a3 a4 a0 m hm5 _).mono ?_
        rintro e w4 ⟨gl, rfl, hb4, p0, p1, p2, p3⟩
        have hb4a := ((Below.refl _ wr).alloc (Nat.le_refl _) (.cells (([.bool a1, .bool a2, .bool a3, .bool a4, .bool a0] : List Value).set m (.bool true)).toArray 22))
        have hb4b := hb4a.trans (hb4.mono hb4a.size)
        clear hb4 hb4a
        go_wp2_with fail
        refine (kinds_any _ _ _ _ gl w4 p0 p1 p2 p3).mono ?_
        rintro e w5 ⟨vG, rfl, hRG⟩
        have hb5 := hb4b.trans (hRG.1.mono hb4b.size)
        have RG5 := HidC (reads_row hRG)
        have F5 := HidC (five_below HF.out hb5)
        have W5 := HidC (reads_below HW.out hb5)
        have A5 := HidC (at_below HA.out hb5)
        have hB5 := hbl.trans (hb5.mono hbl.size)
        clear hRG hb5 hb4b p0 p1 p2 p3 HF HW HA hbl e0 e1 e2 e3 e4 hc
        by_cases hm4 : m < 4
        · have m2 : decide ((m : Int) < 4) = true := by simp; omega
          have hlaw := insert_law a1 a2 a3 a4 a0 m (by omega) hpm
          have HLAW := HidC hlaw
          clear hlaw
          have e0 : w5.cell? ⟨w.heap.size, 0, none⟩ = some (.bool a1) := F5.out 0 (by decide)
          have e1 : w5.cell? ⟨w.heap.size, 1, none⟩ = some (.bool a2) := F5.out 1 (by decide)
          have e2 : w5.cell? ⟨w.heap.size, 2, none⟩ = some (.bool a3) := F5.out 2 (by decide)
          have e3 : w5.cell? ⟨w.heap.size, 3, none⟩ = some (.bool a4) := F5.out 3 (by decide)
          have e4 : w5.cell? ⟨w.heap.size, 4, none⟩ = some (.bool a0) := F5.out 4 (by decide)
          obtain ⟨nq, hnq⟩ : ∃ nq, nq = cn (pk a1 a2 a3 a4 a0) 0 m := ⟨_, rfl⟩
          have hnq5 : nq ≤ 5 := by rw [hnq]; have := cn_le (pk a1 a2 a3 a4 a0) 0 m; omega
          have HNQ := HidC hnq
          clear hnq
          go_wp2_with fail
          refine (count_is a1 a2 a3 a4 a0 0 m (by omega) _ _ rfl (by omega) nq HNQ w5).mono ?_
          rintro e w6 ⟨rfl, hb6⟩
          have RG6 := HidC (reads_below RG5.out hb6)
          have F6 := HidC (five_below F5.out hb6)
          have W6 := HidC (reads_below W5.out hb6)
          have A6 := HidC (at_below A5.out hb6)
          have hB6 := hB5.trans (hb6.mono hB5.size)
          clear RG5 F5 W5 A5 hB5 hb6 e0 e1 e2 e3 e4
          go_wp2_with fail
          refine (name_any m (by omega) w6).mono ?_
          rintro e w7 ⟨rfl, rfl⟩
          go_wp2_with fail
          refine (insert_at aW nW cW nq (nmOf m) (names a1 a2 a3 a4) HnW2 (by omega) (by omega) w6 A6).mono ?_
          rintro e w8 ⟨vI, rfl, hRI⟩
          rw [HNQ.out, ← HLAW.out] at hRI
          have RI8 := HidC (reads_row hRI)
          have RG8 := HidC (reads_below RG6.out hRI.1)
          have F8 := HidC (five_below F6.out hRI.1)
          have W8 := HidC (reads_below W6.out hRI.1)
          have A8 := HidC (at_below A6.out hRI.1)
          have hB8 := hB6.trans (hRI.1.mono hB6.size)
          clear RG6 F6 W6 A6 hB6 hRI
          go_wp2_with fail
          refine (equal_any w8 vG vI _ (Nat.le_trans (names_len _ _ _ _) (by decide)) RG8.out RI8.out).mono ?_
          rintro e w9 ⟨rfl, hb9⟩
          have F9 := HidC (five_below F8.out hb9)
          have W9 := HidC (reads_below W8.out hb9)
          have A9 := HidC (at_below A8.out hb9)
          have hB9 := hB8.trans (hb9.mono hB8.size)
          go_wp2
          exact ⟨⟨m + 1, by omega, by go_num, hB9, F9, W9, A9⟩, by simp [intOf]; omega⟩
        · obtain rfl : m = 4 := by omega
          have RG6 : Hid (Reads w5 vG (names a1 a2 a3 a4)) := RG5.out
          go_wp2_with fail
          refine (equal_any w5 vG _ (names a1 a2 a3 a4) (Nat.le_trans (names_len _ _ _ _) (by decide)) RG6.out W5.out).mono ?_
          rintro e w9 ⟨rfl, hb9⟩
          have F9 := HidC (five_below F5.out hb9)
          have W9 := HidC (reads_below W5.out hb9)
          have A9 := HidC (at_below A5.out hb9)
          have hB9 := hB5.trans (hb9.mono hB5.size)
          go_wp2
          exact ⟨⟨4 + 1, by omega, by go_num, hB9, F9, W9, A9⟩, by simp [intOf]⟩
    · obtain rfl : m = 5 := by omega
      go_wp2
      go_ret
      exact ⟨rfl, hbl⟩
end Go.Proofs.Qxb6629077a
