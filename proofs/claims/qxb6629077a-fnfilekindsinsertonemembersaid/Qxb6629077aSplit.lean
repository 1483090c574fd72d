/-
  The walk of FnFileKindsSplitAtEveryCut.
-/
import Derived.Test.Qxb6629077aParts
namespace Go.Proofs.Qxb6629077a
open Go.RowKit
set_option linter.unusedVariables false

/-- The five flags lie at h. -/
def Five (w : World) (h : Nat) (p : Nat → Bool) : Prop := ∀ i, i < 5 → w.cell? ⟨h, i, none⟩ = some (.bool (p i))
theorem five_below {w w' : World} {h : Nat} {p : Nat → Bool} (k : Five w h p) (hb : Below w.heap.size w w') : Five w' h p := fun i hi => keep_cell hb (k i hi)
theorem five_new (w : World) (b0 b1 b2 b3 b4 : Bool) : Five (w.alloc (.cells #[.bool b0, .bool b1, .bool b2, .bool b3, .bool b4] 22)) w.heap.size (pk b0 b1 b2 b3 b4) := fun i hi => five_cell b0 b1 b2 b3 b4 w i hi
theorem names_len (a b c d : Bool) : (names a b c d).length ≤ 4 := by cases a <;> cases b <;> cases c <;> cases d <;> decide
theorem count_is (b0 b1 b2 b3 b4 : Bool) (lo d : Nat) (hd : lo + d ≤ 5) (x hi : Int) (hx : x = (lo : Int)) (hhi : hi = ((lo + d : Nat) : Int)) (n : Nat) (hn : Hid (n = cn (pk b0 b1 b2 b3 b4) lo d)) (w : World) :
    Calls Try.prog 7 #[.agg #[.bool b0, .bool b1, .bool b2, .bool b3, .bool b4], .int .i64 x, .int .i64 hi] w fun e w' => e = .returned (.int .i64 n) ∧ Below w.heap.size w w' := by
  subst hx
  rw [hn.out]
  exact count_any b0 b1 b2 b3 b4 lo d hd hi hhi w
theorem at_below {w w' : World} {a : Option Addr} {l : List ByteArray} (h : At w a l) (hb : Below w.heap.size w w') : At w' a l := fun j hj => by
  obtain ⟨g, h1, h2⟩ := h j hj
  exact ⟨g, h1, keep_cell hb h2⟩
theorem zeros5 : (#[.bool false, .bool false, .bool false, .bool false, .bool false] : Array Value) = (rowV 5 (fun _ => .bool false)).toArray := rfl

set_option maxRecDepth 20000 in
set_option maxHeartbeats 4000000 in
theorem split_any (a0 a1 a2 a3 a4 : Bool) (w : World) :
    Calls Try.prog 4 #[.bool a0, .bool a1, .bool a2, .bool a3, .bool a4] w fun e w' => e = .returned (.bool true) ∧ Below w.heap.size w w' := by
  go_enter Try.func4, Try.ntmps4
  go_wp2_with fail
  refine (src_any a1 a2 a3 a4 a0 _).mono ?_
  rintro e w1 ⟨g, rfl, hb1, p0, p1, p2, p3⟩
  have hA : Below w.heap.size w (w.alloc (.cells #[.bool a1, .bool a2, .bool a3, .bool a4, .bool a0] 22)) := (Below.refl _ w).alloc (Nat.le_refl _) _
  have hB1 := hA.trans (hb1.mono hA.size)
  have H1 := HidC (five_below (five_new w a1 a2 a3 a4 a0) hb1)
  clear hA hb1
  go_wp2_with fail
  refine (kinds_any a1 a2 a3 a4 g w1 p0 p1 p2 p3).mono ?_
  rintro e w2 ⟨vW, rfl, hR⟩
  have hB2 := hB1.trans (hR.1.mono hB1.size)
  have H2 := HidC (five_below H1.out hR.1)
  have HW := HidC (reads_row hR)
  clear hR hB1 H1 p0 p1 p2 p3
  obtain ⟨p, hp⟩ : ∃ p, p = pk a1 a2 a3 a4 a0 := ⟨_, rfl⟩
  have HP := HidC hp
  rw [← hp] at H2
  clear hp
  go_wp2
  go_loopw [13] (fun i wr => ∃ k : Nat, k ≤ 5 ∧ i = .int .i64 k ∧ Below w.heap.size w wr ∧ Hid (Five wr w.heap.size p) ∧ Hid (Reads wr vW (names a1 a2 a3 a4))) (fun i _ => 5 - (intOf i).toNat)
  case atStart => exact ⟨0, Nat.zero_le _, rfl, hB2, H2, HW⟩
  case round =>
    clear hB2 H2 HW
    obtain ⟨k, hk, rfl, hbl, HF, HW⟩ := hrel
    obtain ⟨wo, hwo⟩ : ∃ wo, wo = wr := ⟨wr, rfl⟩
    subst hwo
    have hsz : w.heap.size < wo.heap.size := World.block_lt_of_cell? wo ⟨w.heap.size, 0, none⟩ (HF.out 0 (by decide))
    by_cases hk4 : k ≤ 4
    · have k1 : decide ((k : Int) ≤ 4) = true := by simp; omega
      go_wp2
      go_loopw [16] (fun i wx => ∃ j : Nat, j ≤ 4 ∧ i = .int .i64 j ∧ Below wo.heap.size wo wx ∧ Hid (Blk wx wo.heap.size 22 5 (fun i => .bool (lo p k j i))) ∧ Hid (Blk wx (wo.heap.size + 1) 22 5 (fun i => .bool (hi p k j i)))) (fun i _ => 4 - (intOf i).toNat)
      case atStart =>
        refine ⟨0, Nat.zero_le _, rfl, ((Below.refl _ wo).alloc (Nat.le_refl _) _).alloc (by simp) _, ?_, ?_⟩
        · show Blk _ _ _ _ _
          rw [zeros5]
          exact blk_congr (blk_alloc (blk_new wo 22 5 (fun _ => .bool false)) _) (fun i _ => by rw [lo_zero])
        · show Blk _ _ _ _ _
          rw [zeros5]
          refine blk_congr (f := fun _ => .bool false) ?_ (fun i _ => by rw [hi_zero])
          have h := blk_new (wo.alloc (.cells (rowV 5 (fun _ => .bool false)).toArray 22)) 22 5 (fun _ => .bool false)
          simpa using h
      case round =>
        obtain ⟨j, hj, rfl, hbx, HLo, HHi⟩ := hrel
        by_cases hlt : j < 4
        · have j1 : decide ((j : Int) < 4) = true := by simp; omega
          have hj5 : (j : Int) < 5 := by omega
          have hc := keep_cell hbx (HF.out j (by omega))
          by_cases hjk : j < k
          · have u1 : decide ((j : Int) < k) = true := by simp; omega
            have u2 : decide (j < k) = true := by simp; omega
            have q0 := blk_cell HLo.out (s := j) (by omega)
            have f0 := blk_free HLo.out j
            have HL' := HidC (blk_set HLo.out (f' := fun i => .bool (lo p k (j + 1) i)) (s := j) (v := .bool (p j)) (by rw [lo_at hjk]) (fun i hi => by rw [lo_other hi]))
            have HH' := HidC (blk_far (a := ⟨wo.heap.size, j, none⟩) (v := .bool (p j)) (blk_congr HHi.out (f' := fun i => .bool (hi p k (j + 1) i)) (fun i _ => by rw [hi_skip hjk])) (by simp))
            clear HLo HHi
            go_wp2
            exact ⟨⟨j + 1, by omega, by go_num, hbx.setCell (Nat.le_refl _) _, HL', HH'⟩, by simp [intOf]; omega⟩
          · have u1 : decide ((j : Int) < k) = false := by simp; omega
            have u2 : decide (j < k) = false := by simp; omega
            have q0 := blk_cell HHi.out (s := j) (by omega)
            have f0 := blk_free HHi.out j
            have HH' := HidC (blk_set HHi.out (f' := fun i => .bool (hi p k (j + 1) i)) (s := j) (v := .bool (p j)) (by rw [hi_at (by omega)]) (fun i hi => by rw [hi_other hi]))
            have HL' := HidC (blk_far (a := ⟨wo.heap.size + 1, j, none⟩) (v := .bool (p j)) (blk_congr HLo.out (f' := fun i => .bool (lo p k (j + 1) i)) (fun i _ => by rw [lo_skip hjk])) (by simp))
            clear HLo HHi
            go_wp2
            exact ⟨⟨j + 1, by omega, by go_num, hbx.setCell (Nat.le_succ _) _, HL', HH'⟩, by simp [intOf]; omega⟩
        · obtain rfl : j = 4 := by omega
          have hc := keep_cell hbx (HF.out 4 (by decide))
          have q0 := blk_cell HHi.out (s := 4) (by decide)
          have f0 := blk_free HHi.out 4
          have l0 := blk_cell HLo.out (s := 0) (by decide)
          have l1 := blk_cell HLo.out (s := 1) (by decide)
          have l2 := blk_cell HLo.out (s := 2) (by decide)
          have l3 := blk_cell HLo.out (s := 3) (by decide)
          have l4 := blk_cell HLo.out (s := 4) (by decide)
          have m0 := blk_cell HHi.out (s := 0) (by decide)
          have m1 := blk_cell HHi.out (s := 1) (by decide)
          have m2 := blk_cell HHi.out (s := 2) (by decide)
          have m3 := blk_cell HHi.out (s := 3) (by decide)
          go_wp2_with fail
          have hb3 : Below wo.heap.size wo (wr.setCell ⟨wo.heap.size + 1, 4, none⟩ (.bool (p 4))) := hbx.setCell (Nat.le_succ _) _
          have HH3 := HidC (blk_set HHi.out (f' := fun i => .bool (if i = 4 then p 4 else hi p k 4 i)) (s := 4) (v := .bool (p 4)) (by simp) (fun i hi => by rw [if_neg hi]))
          clear hc q0 f0 l0 l1 l2 l3 l4 m0 m1 m2 m3 HLo HHi hbx
          obtain ⟨w3, hw3⟩ : ∃ w3, w3 = wr.setCell ⟨wo.heap.size + 1, 4, none⟩ (.bool (p 4)) := ⟨_, rfl⟩
          rw [← hw3] at hb3 HH3 ⊢
          clear hw3
          obtain ⟨law1, law2, law3⟩ := split_law a1 a2 a3 a4 a0 k hk4
          rw [← HP.out] at law1 law2 law3
          refine (src_any _ _ _ _ _ w3).mono ?_
          rintro e w4 ⟨gl, rfl, hb4, p0, p1, p2, p3⟩
          go_wp2_with fail
          refine (kinds_any _ _ _ _ gl w4 p0 p1 p2 p3).mono ?_
          rintro e w5 ⟨vL, rfl, hRL⟩
          have hb5 := hb4.trans (hRL.1.mono hb4.size)
          have HH5 := HidC (blk_below HH3.out hb5 (blk_lt HH3.out))
          have hb5' := hb3.trans (hb5.mono hb3.size)
          clear HH3 hb4 hb3 hb5 p0 p1 p2 p3
          have RL5 := HidC (reads_row hRL)
          clear hRL
          have m0 := blk_cell HH5.out (s := 0) (by decide)
          have m1 := blk_cell HH5.out (s := 1) (by decide)
          have m2 := blk_cell HH5.out (s := 2) (by decide)
          have m3 := blk_cell HH5.out (s := 3) (by decide)
          have m4 := blk_cell HH5.out (s := 4) (by decide)
          rw [if_neg (by decide)] at m0 m1 m2 m3
          rw [if_pos rfl] at m4
          go_wp2_with fail
          refine (src_any _ _ _ _ _ w5).mono ?_
          rintro e w6 ⟨gh, rfl, hb6, p0, p1, p2, p3⟩
          clear m0 m1 m2 m3 m4 HH5
          go_wp2_with fail
          refine (kinds_any _ _ _ _ gh w6 p0 p1 p2 p3).mono ?_
          rintro e w7 ⟨vH, rfl, hRH⟩
          have hb7 := hb6.trans (hRH.1.mono hb6.size)
          have hb7' := hb5'.trans (hb7.mono hb5'.size)
          have RL7 := HidC (reads_below RL5.out hb7)
          have RH7 := HidC (reads_row hRH)
          have RW7 := HidC (reads_below HW.out hb7')
          have F7 := HidC (five_below HF.out hb7')
          have hB7 := hbl.trans (hb7'.mono hbl.size)
          clear hRH hb7 hb7' hb5' hb6 RL5 p0 p1 p2 p3 HW HF hbl
          obtain ⟨aL, cL, rfl, hAL⟩ := at_of RL7.out
          obtain ⟨aH, cH, rfl, hAH⟩ := at_of RH7.out
          rw [law1, law2]
          have HLE1 := HidC law1
          have HLE2 := HidC law2
          have HLE3 := HidC law3
          have AL7 := HidC hAL
          have AH7 := HidC hAH
          clear law1 law2 law3 hAL hAH RL7 RH7
          obtain ⟨nL, hnL⟩ : ∃ nL, nL = cn p 0 k := ⟨_, rfl⟩
          obtain ⟨nH, hnH⟩ : ∃ nH, nH = cn p k (4 - k) := ⟨_, rfl⟩
          have hnL4 : nL ≤ 5 := by have := cn_le p 0 k; omega
          have hnH4 : nH ≤ 5 := by have := cn_le p k (4 - k); omega
          rw [← hnL, ← hnH]
          have HnL : Hid (nL = cn (pk a1 a2 a3 a4 a0) 0 k) := by show _ = _; rw [← HP.out]; exact hnL
          have HnH : Hid (nH = cn (pk a1 a2 a3 a4 a0) k (4 - k)) := by show _ = _; rw [← HP.out]; exact hnH
          have HnL2 : Hid (nL = _) := hnL.trans HLE1.out.symm
          have HnH2 : Hid (nH = _) := hnH.trans HLE2.out.symm
          clear hnL hnH HLE1 HLE2
          have e0 := F7.out 0 (by decide)
          have e1 := F7.out 1 (by decide)
          have e2 := F7.out 2 (by decide)
          have e3 := F7.out 3 (by decide)
          have e4 := F7.out 4 (by decide)
          rw [HP.out] at e0 e1 e2 e3 e4
          replace e0 : w7.cell? ⟨w.heap.size, 0, none⟩ = some (.bool a1) := e0
          replace e1 : w7.cell? ⟨w.heap.size, 1, none⟩ = some (.bool a2) := e1
          replace e2 : w7.cell? ⟨w.heap.size, 2, none⟩ = some (.bool a3) := e2
          replace e3 : w7.cell? ⟨w.heap.size, 3, none⟩ = some (.bool a4) := e3
          replace e4 : w7.cell? ⟨w.heap.size, 4, none⟩ = some (.bool a0) := e4
          go_wp2_with fail
          refine (count_is a1 a2 a3 a4 a0 0 k (by omega) _ _ rfl (by omega) nL HnL w7).mono ?_
          rintro e w8 ⟨rfl, hb8⟩
          have F8 := HidC (five_below F7.out hb8)
          have e0' := keep_cell hb8 e0
          have e1' := keep_cell hb8 e1
          have e2' := keep_cell hb8 e2
          have e3' := keep_cell hb8 e3
          have e4' := keep_cell hb8 e4
          have AL8 := HidC (at_below AL7.out hb8)
          have AH8 := HidC (at_below AH7.out hb8)
          have RW8 := HidC (reads_below RW7.out hb8)
          have hB8 := hB7.trans (hb8.mono hB7.size)
          clear F7 e0 e1 e2 e3 e4 AL7 AH7 RW7 hb8 hB7
          go_wp2_with fail
          refine (count_is a1 a2 a3 a4 a0 k (4 - k) (by omega) _ _ rfl (by omega) nH HnH w8).mono ?_
          rintro e w9 ⟨rfl, hb9⟩
          have F9 := HidC (five_below F8.out hb9)
          have AL9 := HidC (at_below AL8.out hb9)
          have AH9 := HidC (at_below AH8.out hb9)
          have RW9 := HidC (reads_below RW8.out hb9)
          have hB9 := hB8.trans (hb9.mono hB8.size)
          clear F8 e0' e1' e2' e3' e4' AL8 AH8 RW8 hb9 hB8
          go_wp2_with fail
          refine (concat_at aL aH nL nH cL cH _ _ HnL2 HnH2 (by omega) (by omega) w9 AL9 AH9).mono ?_
          rintro e wc ⟨vC, rfl, hRC⟩
          have Fc := HidC (five_below F9.out hRC.1)
          have RWc := HidC (reads_below RW9.out hRC.1)
          have hBc := hB9.trans (hRC.1.mono hB9.size)
          have RCc := HidC (reads_row hRC)
          have RCd : Hid (Reads wc vC (names a1 a2 a3 a4)) := by
            have := RCc.out
            rw [HLE3.out] at this
            exact this
          clear F9 RW9 hRC hB9 AL9 AH9 RCc
          go_wp2_with fail
          refine (equal_any wc vW vC (names a1 a2 a3 a4) (Nat.le_trans (names_len _ _ _ _) (by decide)) RWc.out RCd.out).mono ?_
          rintro e we ⟨rfl, hbe⟩
          have Fe := HidC (five_below Fc.out hbe)
          have RWe := HidC (reads_below RWc.out hbe)
          have hBe := hBc.trans (hbe.mono hBc.size)
          go_wp2
          exact ⟨⟨k + 1, by omega, by go_num, hBe, Fe, RWe⟩, by simp [intOf]; omega⟩
    · obtain rfl : k = 5 := by omega
      go_wp2
      go_ret
      exact ⟨rfl, hbl⟩
end Go.Proofs.Qxb6629077a
