/-
  The walk of FnPreferredBytesNeverAcceptsATextAndItsOneByteLongerSelf.
-/
import Derived.Test.Qxb6628474aFmtMade
import Derived.Deep.OwnRows
namespace Go.Proofs.Qxb6628474aFmt
open Go.RowKit Go.Extern.Stop Go.Stop Go.Extern
set_option linter.unusedVariables false

theorem never_out (a : Option Addr) (len cap : Nat) (x : Int) (nm : ByteArray) (w : World) (h : 1048576 ≤ len + nm.size) (hl : len ≤ maxLen) :
    Calls Tryf.prog 4 #[.slice a len cap, .int .u8 x, .string nm] w fun e w' => e = .returned (.bool true) ∧ Below w.heap.size w w' := by
  by_cases h1 : 1048576 < len + nm.size
  · go_enter Tryf.func4, Tryf.ntmps4
    go_wp2_with (go_at_call 11; refine (bytes11_out _ _ _ _ _ _ h1 hl).mono ?_; rintro e w' ⟨rfl, rfl⟩)
    go_ret
    exact ⟨rfl, Below.refl _ _⟩
  · have h3 : decide (1048575 - (len : Int) < nm.size) = true := by simp; omega
    have h4 : len + nm.size ≤ 1048576 := by omega
    by_cases h5 : 1048576 ≤ len
    · have h6 : decide ((1048576 : Int) ≤ len) = true := by simp; omega
      clear h1 h h5
      go_enter Tryf.func4, Tryf.ntmps4
      go_wp2_with (go_at_call 11; refine (bytes11_in _ _ _ _ _ _ h4).mono ?_; rintro e w' ⟨rfl, rfl⟩)
      go_ret
      exact ⟨rfl, Below.refl _ _⟩
    · have h6 : decide ((1048576 : Int) ≤ len) = false := by simp; omega
      clear h1 h h5
      go_enter Tryf.func4, Tryf.ntmps4
      go_wp2_with (go_at_call 11; refine (bytes11_in _ _ _ _ _ _ h4).mono ?_; rintro e w' ⟨rfl, rfl⟩)
      go_ret
      exact ⟨rfl, Below.refl _ _⟩

set_option maxHeartbeats 1000000 in
theorem never_some (F : Interp) (zs : List Int) (ad : Addr) (cap : Nat) (x : Int) (nm : ByteArray) (w : World) (hF : F.answers w.tape) (hb : Bytes zs) (hx : 0 ≤ x ∧ x ≤ 255) (h : zs.length + nm.size < 1048576)
    (hc : ∀ j v, (u8s zs)[j]? = some v → w.cell? (ad.add j) = some v) :
    Calls Tryf.prog 4 #[.slice (some ad) zs.length cap, .int .u8 x, .string nm] w fun e w' => e = .returned (.bool true) ∧ Below w.heap.size w w' := by
  obtain ⟨n, hn⟩ : ∃ n, n = zs.length := ⟨_, rfl⟩
  have Hn : Hid (n = zs.length) := hn
  rw [← hn] at h ⊢
  clear hn
  have hne := fun W => run_neq_slice_nil_any (P := Tryf.prog) W 22 5 (some ad) n cap 0 0 Tryf.underlying22
  have h3 : decide (1048575 - (n : Int) < nm.size) = false := by simp; omega
  have h6 : decide ((1048576 : Int) ≤ n) = false := by simp; omega
  obtain ⟨i0, hi, hz0, hz1, hz2⟩ := info_parts info5
  go_enter Tryf.func4, Tryf.ntmps4
  obtain ⟨X, hX⟩ : ∃ X, X = u8s zs := ⟨_, rfl⟩
  have HX : Hid (X = u8s zs) := hX
  have hXl : X.length = n := by rw [hX, Hn.out]; simp [u8s]
  have HXl : Hid (X.length = n) := hXl
  rw [← hX] at hc
  clear hX hXl
  have tok1 : True := trivial
  go_wp2_with (first
    | (go_at_call 11; refine (bytes11_in _ _ _ _ _ _ (by omega)).mono ?_; rintro e w' ⟨rfl, rfl⟩)
    | (at_make; have _t := tok1; refine wpList_make_row _ rfl _ _ 22 rfl 5 i0 (.int .u8 0) Tryf.underlying22 hi hz0 hz1 rfl .i64 .i64 n rfl rfl (by rw [hz2]; omega) (by omega) ?_; clear tok1)
    | (refine wpList_copy_splice (by rfl) (.tmp 34) (.tmp 35) 22 22 (by rfl) 5 Tryf.underlying22 size5 _ _ _ _ _ _ (by rfl) (by rfl) w.heap.size 0 (madeCells #[.int .u8 0] n).toList 5 (made_new w _ n 5) X (by rw [HXl.out]; simp) (fun _ => ⟨rfl, ad, rfl, fun j v hv => cell_later ((Below.refl _ w).alloc (Nat.le_refl _) _) (hc j v hv)⟩) (by rw [HXl.out]; simp [size_madeCells]) (by rw [HX.out]; exact u8s_one) w.heap.size w ((Below.refl _ w).alloc (Nat.le_refl _) _) (Nat.le_refl _) ?_))
  intro w2 HG2 hB2
  have R2 : Hid (w2.heap[w.heap.size]? = some (.cells (u8s zs).toArray 5 (0, 0))) := by
    show _ = _
    rw [HG2.out, splice_all _ _ (by rw [HXl.out]; simp [size_madeCells]), HX.out]
  have hs2 : w.heap.size < w2.heap.size := lt_of_block R2.out
  clear HG2 hc hne HXl HX
  have hF2 : F.answers w2.tape := by rw [hB2.tape]; exact hF
  obtain ⟨Y, hY⟩ : ∃ Y, Y = u8s zs := ⟨_, rfl⟩
  have HY : Hid (Y = u8s zs) := hY
  have HYl : Hid (Y.length = n) := by show Y.length = n; rw [hY, Hn.out]; simp [u8s]
  have HYc : Hid (∀ j v, Y[j]? = some v → w2.cell? ⟨w.heap.size, 0 + j, none⟩ = some v) := by
    intro j v hv
    rw [cell_of_block R2.out, ← hY]
    simpa using hv
  clear hY
  go_wp2_with (first
    | (at_make; refine wpList_make_row _ rfl _ _ 22 rfl 5 i0 (.int .u8 0) Tryf.underlying22 hi hz0 hz1 rfl .i64 .i64 (n + 1) rfl rfl (by rw [hz2]; omega) (by omega) ?_)
    | (refine wpList_copy_splice (by rfl) (.tmp 42) (.tmp 43) 22 22 (by rfl) 5 Tryf.underlying22 size5 _ _ _ _ _ _ (by rfl) (by rfl) w2.heap.size 0 (madeCells #[.int .u8 0] (n + 1)).toList 5 ?c1 Y ?c2 ?c3 ?c4 ?c5 w2.heap.size w2 ?c6 (Nat.le_refl _) ?_))
  case c1 => exact made_new w2 _ (n + 1) 5
  case c2 => rw [HYl.out]; exact (Nat.min_eq_left (Nat.le_succ n)).symm
  case c3 => intro _ j v hv; have := HYc.out j v hv; simpa using this
  case c4 => rw [HYl.out]; simp [size_madeCells]
  case c5 => rw [HY.out]; exact u8s_one
  case c6 => exact (Below.refl _ w2).alloc (Nat.le_refl _) _
  intro w3 HG3 hB3
  have R3 : Hid (w3.heap[w2.heap.size]? = some (.cells (u8s zs ++ [Value.int .u8 0]).toArray 5 (0, 0))) := by
    show _ = _
    rw [HG3.out, splice_most _ _ (Value.int .u8 0) (by rw [made_list, List.map_const', HYl.out, List.replicate_succ']), HY.out]
  clear HG3 HYc HY HYl
  have hs3 : w2.heap.size < w3.heap.size := lt_of_block R3.out
  have hcl : w3.cell? ⟨w2.heap.size, n, none⟩ = some (.int .u8 0) := by rw [cell_of_block R3.out, Hn.out]; simp [u8s]
  have hfr : w3.frozen? ⟨w2.heap.size, n, none⟩ = false := frozen_of_block R3.out
  go_wp2_with fail
  obtain ⟨w4, hw4⟩ : ∃ w4, w4 = w3.setCell ⟨w2.heap.size, n, none⟩ (.int .u8 x) := ⟨_, rfl⟩
  have hb4 : Below w2.heap.size w2 w4 := by rw [hw4]; exact hB3.setCell (Nat.le_refl _) _
  have hB4 : Below w.heap.size w w4 := hB2.trans (hb4.mono hB2.size)
  have ho1 : Over w4 (some ⟨w.heap.size, 0, none⟩) zs := fun _ => ⟨_, rfl, row_below (row_of_block R2.out) hb4 hs2, Nat.lt_of_lt_of_le hs2 hb4.size⟩
  have ho2 : Over w4 (some ⟨w2.heap.size, 0, none⟩) (zs ++ [x]) := fun _ => ⟨_, rfl, by rw [hw4, Hn.out]; exact row_stored R3.out, by rw [hw4]; simpa using hs3⟩
  have Hn1 : Hid (n + 1 = (zs ++ [x]).length) := by show _ = _; rw [Hn.out]; simp
  have hF4 : F.answers w4.tape := by rw [hB4.tape]; exact hF
  rw [← hw4]
  clear hw4 hb4 hcl hfr R3 R2 hB3 hB2 hF hF2 hs2 hs3 h3 h6
  generalize w2.heap.size = g2 at *
  clear w2 w3
  refine (pref_at F zs _ n nm w4 hF4 hb Hn (by omega) ho1).mono ?_
  rintro e w5 ⟨hB5, hres1⟩
  have hF5 : F.answers w5.tape := by rw [hB5.tape]; exact hF4
  have ho2' : Over w5 (some ⟨g2, 0, none⟩) (zs ++ [x]) := over_below ho2 hB5
  have hbx : Bytes (zs ++ [x]) := bytes_snoc hb hx.1 hx.2
  have hB5' : Below w.heap.size w w5 := hB4.trans (hB5.mono hB4.size)
  rcases hres1 with ⟨h1, off1, g1, p1, q1, r1, o1, rfl⟩ | ⟨p1, ad1, rfl⟩
  · have P1 : Hid (pb zs = some h1) := p1
    have O1 : Hid (h1 < n → off1 = h1) := o1
    have hg1 : g1 < w4.heap.size := row_lt (by have := (pb_ok hb p1).1; have := (pb_ok hb p1).2.1; omega) r1
    have R1 : Hid (Row w5 g1 zs) := row_below r1 hB5 hg1
    have Q1 : Hid ((some ⟨w.heap.size, 0, none⟩) = some (⟨g1, 0, none⟩ : Addr)) := q1
    clear p1 o1 r1 q1 ho1 ho2
    go_wp2_with fail
    refine (pref_at F (zs ++ [x]) _ (n + 1) nm w5 hF5 hbx Hn1 (by omega) ho2').mono ?_
    rintro e w6 ⟨hB6, hres2⟩
    rcases hres2 with ⟨h2, off2, g3, p2, q2, r2, o2, rfl⟩ | ⟨p2, ad2, rfl⟩
    · exact (pb_apart x P1.out p2).elim
    · have hg5 : g1 < w5.heap.size := Nat.lt_of_lt_of_le hg1 hB5.size
      have R6 : Hid (Row w6 g1 zs) := row_below R1.out hB6 hg5
      clear p2 R1 ho2' hF5 hF4
      go_wp2_with fail
      refine (show Calls Tryf.prog 12 #[.slice (some ⟨w.heap.size, 0, none⟩) n n, .slice (some ⟨g1, off1, none⟩) (n - h1) (n - h1), .bool true] w6 _ from ?_)
      rw [Q1.out]
      refine (tail_at zs n g1 h1 off1 w6 hb Hn (by omega) P1.out O1.out R6.out).mono ?_
      rintro e w7 ⟨rfl, k, rfl⟩
      go_wp2_with fail
      refine (tail_no _ _ _).mono ?_
      rintro e w8 ⟨rfl, rfl⟩
      go_wp2
      go_ret
      exact ⟨rfl, below_drewN (hB5'.trans (hB6.mono hB5'.size)) _⟩
  · clear p1 ho1 ho2
    go_wp2_with fail
    refine (pref_at F (zs ++ [x]) _ (n + 1) nm w5 hF5 hbx Hn1 (by omega) ho2').mono ?_
    rintro e w6 ⟨hB6, hres2⟩
    have hB6' : Below w.heap.size w w6 := hB5'.trans (hB6.mono hB5'.size)
    rcases hres2 with ⟨h2, off2, g3, p2, q2, r2, o2, rfl⟩ | ⟨p2, ad2, rfl⟩
    · have P2 : Hid (pb (zs ++ [x]) = some h2) := p2
      have O2 : Hid (h2 < n + 1 → off2 = h2) := o2
      have hg3 : g3 < w5.heap.size := row_lt (by simp) r2
      have R6 : Hid (Row w6 g3 (zs ++ [x])) := row_below r2 hB6 hg3
      obtain rfl : g2 = g3 := by simpa using q2
      clear p2 o2 r2 q2 ho2' hF5 hF4
      go_wp2_with fail
      refine (tail_no _ _ _).mono ?_
      rintro e w7 ⟨rfl, rfl⟩
      go_wp2_with fail
      refine (tail_at (zs ++ [x]) (n + 1) g2 h2 off2 _ hbx Hn1 (by omega) P2.out O2.out R6.out).mono ?_
      rintro e w8 ⟨rfl, k, rfl⟩
      go_wp2
      go_ret
      exact ⟨rfl, below_drewN hB6' _⟩
    · clear p2 ho2' hF5 hF4
      go_wp2_with fail
      refine (tail_no _ _ _).mono ?_
      rintro e w7 ⟨rfl, rfl⟩
      go_wp2_with fail
      refine (tail_no _ _ _).mono ?_
      rintro e w8 ⟨rfl, rfl⟩
      go_wp2
      go_ret
      exact ⟨rfl, hB6'⟩

set_option maxHeartbeats 1000000 in
theorem never_none (F : Interp) (x : Int) (nm : ByteArray) (w : World) (hF : F.answers w.tape) (hx : 0 ≤ x ∧ x ≤ 255) (h : nm.size < 1048576) :
    Calls Tryf.prog 4 #[.slice none 0 0, .int .u8 x, .string nm] w fun e w' => e = .returned (.bool true) ∧ Below w.heap.size w w' := by
  have hb : Bytes [] := fun j => by simp
  have hne := fun W => run_neq_slice_nil_any (P := Tryf.prog) W 22 5 none 0 0 0 0 Tryf.underlying22
  have h3 : decide ((1048575 : Int) < nm.size) = false := by simp; omega
  obtain ⟨i0, hi, hz0, hz1, hz2⟩ := info_parts info5
  have hm1 : madeCells #[Value.int .u8 0] 1 = #[.int .u8 0] := made_one _
  go_enter Tryf.func4, Tryf.ntmps4
  go_wp2_with (first
    | (go_at_call 11; refine (bytes11_in _ _ _ _ _ _ (by omega)).mono ?_; rintro e w' ⟨rfl, rfl⟩)
    | (at_make; refine wpList_make_row _ rfl _ _ 22 rfl 5 i0 (.int .u8 0) Tryf.underlying22 hi hz0 hz1 rfl .i64 .i64 1 rfl rfl (by rw [hz2]; omega) (by omega) ?_)
    | (refine wpList_copy_nothing (by rfl) (.tmp 42) (.tmp 43) 22 22 (by rfl) 5 Tryf.underlying22 size5 _ _ _ _ _ _ (by rfl) (by rfl) (by rfl) ?_))
  obtain ⟨w4, hw4⟩ : ∃ w4, w4 = w.alloc (.cells #[.int .u8 x] 5) := ⟨_, rfl⟩
  have hB4 : Below w.heap.size w w4 := by rw [hw4]; exact (Below.refl _ w).alloc (Nat.le_refl _) _
  have ho1 : Over w4 none [] := fun h => absurd h (by simp)
  obtain ⟨g2, hg2⟩ : ∃ g2, g2 = w.heap.size := ⟨_, rfl⟩
  have ho2 : Over w4 (some ⟨g2, 0, none⟩) ([] ++ [x]) := fun _ => ⟨g2, rfl, by rw [hw4, hg2]; exact row_of_block (t := 5) (zs := [x]) (heap_alloc_new w _), by rw [hw4, hg2]; simp⟩
  have Hn : Hid (0 = ([] : List Int).length) := rfl
  have Hn1 : Hid (1 = (([] : List Int) ++ [x]).length) := rfl
  have hF4 : F.answers w4.tape := by rw [hB4.tape]; exact hF
  rw [← hw4, ← hg2]
  clear hw4 hm1
  refine (pref_at F [] _ 0 nm w4 hF4 hb Hn (by omega) ho1).mono ?_
  rintro e w5 ⟨hB5, hres1⟩
  have hF5 : F.answers w5.tape := by rw [hB5.tape]; exact hF4
  have ho2' : Over w5 (some ⟨g2, 0, none⟩) ([] ++ [x]) := over_below ho2 hB5
  have hbx : Bytes ([] ++ [x]) := bytes_snoc hb hx.1 hx.2
  have hB5' : Below w.heap.size w w5 := hB4.trans (hB5.mono hB4.size)
  have HG : Hid (g2 = w.heap.size) := hg2
  clear hg2
  rcases hres1 with ⟨h1, off1, g1, p1, q1, r1, o1, rfl⟩ | ⟨p1, ad1, rfl⟩
  · cases q1
  · clear p1 ho1 ho2
    go_wp2_with fail
    refine (pref_at F ([] ++ [x]) _ 1 nm w5 hF5 hbx Hn1 (by omega) ho2').mono ?_
    rintro e w6 ⟨hB6, hres2⟩
    have hB6' : Below w.heap.size w w6 := hB5'.trans (hB6.mono hB5'.size)
    rcases hres2 with ⟨h2, off2, g3, p2, q2, r2, o2, rfl⟩ | ⟨p2, ad2, rfl⟩
    · have P2 : Hid (pb ([] ++ [x]) = some h2) := p2
      have O2 : Hid (h2 < 1 → off2 = h2) := o2
      have hg3 : g3 < w5.heap.size := row_lt (by simp) r2
      have R6 : Hid (Row w6 g3 ([] ++ [x])) := row_below r2 hB6 hg3
      obtain rfl : g2 = g3 := by simpa using q2
      clear p2 o2 r2 q2 ho2' hF5 hF4
      go_wp2_with fail
      refine (tail_no _ _ _).mono ?_
      rintro e w7 ⟨rfl, rfl⟩
      go_wp2_with fail
      refine (tail_at ([] ++ [x]) 1 g2 h2 off2 _ hbx Hn1 (by omega) P2.out O2.out R6.out).mono ?_
      rintro e w8 ⟨rfl, k, rfl⟩
      go_wp2
      go_ret
      exact ⟨rfl, below_drewN hB6' _⟩
    · clear p2 ho2' hF5 hF4
      go_wp2_with fail
      refine (tail_no _ _ _).mono ?_
      rintro e w7 ⟨rfl, rfl⟩
      go_wp2_with fail
      refine (tail_no _ _ _).mono ?_
      rintro e w8 ⟨rfl, rfl⟩
      go_wp2
      go_ret
      exact ⟨rfl, hB6'⟩

end Go.Proofs.Qxb6628474aFmt
