/-
  plainSame, and the walk of FnPlainIsTheLineTableOfKeptTasks.
-/
import Derived.Test.Qxb6629031aFmtModel
namespace Go.Proofs.Qxb6629031aFmt
open Go.RowKit Go.Extern.Stop Go.Stop Go.Extern
set_option linter.unusedVariables false

theorem strs_below {w w' : World} {a : Option Addr} {n : Nat} {f : Nat → ByteArray} (h : Strs w a n f) (hb : Below w.heap.size w w') : Strs w' a n f := by
  intro i hi
  obtain ⟨g, h1, h2, h3⟩ := h i hi
  exact ⟨g, h1, keep_cell hb h2, h3⟩
theorem bits_below {w w' : World} {a : Option Addr} {n : Nat} {f : Nat → Bool} (h : Bits w a n f) (hb : Below w.heap.size w w') : Bits w' a n f := by
  intro i hi
  obtain ⟨g, h1, h2⟩ := h i hi
  exact ⟨g, h1, keep_cell hb h2⟩

/-- v reads as the bytes l. -/
def Reads (w : World) (v : Value) (l : List UInt8) : Prop :=
  (v = .slice none 0 0 ∧ l = []) ∨ ∃ g o cap, v = .slice (some ⟨g, o, none⟩) l.length cap ∧ ∀ j, j < l.length → w.cell? ⟨g, o + j, none⟩ = some (.int .u8 ((l.getD j 0).toNat : Int))

theorem reads_own {w : World} {B : Nat} {v : Value} {l : List UInt8} (h : w.ownsRow B 5 1 v l.length (bc l)) : Reads w v l := by
  rcases h.2 with ⟨h1, h2⟩ | ⟨g, cap, cur, h1, hB, hg, rest⟩
  · exact .inl ⟨h1, List.eq_nil_of_length_eq_zero h2⟩
  · refine .inr ⟨g, 0, cap, h1, fun j hj => ?_⟩
    subst h1
    rw [Nat.zero_add, h.cellAt j (by omega)]
    simp [bc, List.getD, List.getElem?_eq_getElem hj]

theorem same_none (w : World) (v : Value) (hv : v = .slice none 0 0 ∨ ∃ ad cap, v = .slice (some ad) 0 cap) (v' : Value) (hv' : v' = .slice none 0 0 ∨ ∃ ad cap, v' = .slice (some ad) 0 cap) :
    Calls Tryf.prog 10 #[v, v'] w fun e w' => e = .returned (.bool true) ∧ ∃ k, w.drewN k = w' := by
  rcases hv with rfl | ⟨ad, cap, rfl⟩ <;> rcases hv' with rfl | ⟨ad', cap', rfl⟩
  all_goals
    go_enter Tryf.func10, Tryf.ntmps10
    go_wp2
    refine wp_loop_rounds 1 ?_
    rw [rounds_succ]
    go_wp2
    go_ret
    exact ⟨rfl, 0, rfl⟩

set_option maxHeartbeats 400000 in
theorem same_eq (ga oa gb ob n ca cb : Nat) (f : Nat → Int) (w : World) (hn : n ≤ 100000000)
    (ha : ∀ k, k < n → w.cell? ⟨ga, oa + k, none⟩ = some (.int .u8 (f k))) (hb : ∀ k, k < n → w.cell? ⟨gb, ob + k, none⟩ = some (.int .u8 (f k))) :
    Calls Tryf.prog 10 #[.slice (some ⟨ga, oa, none⟩) n ca, .slice (some ⟨gb, ob, none⟩) n cb] w fun e w' => e = .returned (.bool true) ∧ ∃ k, w.drewN k = w' := by
  go_enter Tryf.func10, Tryf.ntmps10
  go_wp2
  go_loopw [5] (fun i wr => ∃ k j : Nat, k ≤ n ∧ i = .int .i64 k ∧ wr = w.drewN j) (fun i _ => n - (intOf i).toNat)
  case atStart => exact ⟨0, 0, Nat.zero_le _, rfl, rfl⟩
  case round =>
    obtain ⟨k, j, hk, rfl, rfl⟩ := hrel
    by_cases hlt : k < n
    · have hak := ha k hlt
      have hbk := hb k hlt
      clear ha hb
      have hlt' : (k : Int) < n := by omega
      go_wp2
      go_quiet (fail)
      go_wp2
      go_roundw
      case rel => exact ⟨k + 1, _, by omega, by go_num, rfl⟩
      case measure => simp [intOf]; omega
    · clear ha hb
      go_wp2
      go_ret
      exact ⟨rfl, _, rfl⟩

/-- plainSame of two slices that read as one text. -/
theorem same_any (w : World) (v v' : Value) (l : List UInt8) (hl : l.length ≤ 100000000) (h : Reads w v l) (h' : Reads w v' l) :
    Calls Tryf.prog 10 #[v, v'] w fun e w' => e = .returned (.bool true) ∧ ∃ k, w.drewN k = w' := by
  by_cases e : l = []
  · subst e
    refine same_none w v ?_ v' ?_
    · rcases h with ⟨h, _⟩ | ⟨g, o, cap, h, _⟩
      · exact .inl h
      · exact .inr ⟨_, _, h⟩
    · rcases h' with ⟨h, _⟩ | ⟨g, o, cap, h, _⟩
      · exact .inl h
      · exact .inr ⟨_, _, h⟩
  · rcases h with ⟨_, h⟩ | ⟨g, o, cap, rfl, h1⟩
    · exact absurd h e
    rcases h' with ⟨_, h⟩ | ⟨g', o', cap', rfl, h2⟩
    · exact absurd h e
    exact same_eq g o g' o' l.length cap cap' (fun j => ((l.getD j 0).toNat : Int)) w hl h1 h2

theorem over16 (n : Nat) : (decide ((65536 : Int) < n) = true ∧ 65536 < n) ∨ (decide ((65536 : Int) < n) = false ∧ n ≤ 65536) := by
  by_cases h : 65536 < n
  · exact .inl ⟨by simp; omega, h⟩
  · exact .inr ⟨by simp; omega, by omega⟩

theorem own_cells {w : World} {B : Nat} {g cap m : Nat} {l : List UInt8} (h : w.ownsRow B 5 1 (.slice (some ⟨g, 0, none⟩) m cap) l.length (bc l)) (hm : m = l.length) : ∀ k, k < m → w.cell? ⟨g, 0 + k, none⟩ = some (.int .u8 ((l.getD k 0).toNat : Int)) := by
  subst hm
  intro j hj
  rw [Nat.zero_add, h.cellAt j (by omega)]
  simp [bc, List.getD, List.getElem?_eq_getElem hj]

theorem nilEq (w : World) : (binOp .eql 32 (.slice none 0 0) (.slice none 0 0)).run Tryf.prog w = .ok (.bool true) w := by kernel_rfl
attribute [local go_sem] nilEq

def Good (w : World) (e : Ending) (w' : World) : Prop := e = .returned (.bool true) ∧ Below w.heap.size w w'

set_option maxRecDepth 20000 in
set_option maxHeartbeats 2000000 in
theorem is_any (F : Interp) (a b c d : Option Addr) (n1 n2 n3 n4 c1 c2 c3 c4 : Nat) (f g : Nat → ByteArray) (kp : Nat → Bool) (w : World) (hF : F.answers w.tape)
    (hn1 : n1 ≤ 9223372036854775807) (hn2 : n2 ≤ 9223372036854775807) (hn3 : n3 ≤ 9223372036854775807) (hn4 : n4 ≤ 9223372036854775807) (hf : Hid (Strs w a n1 f)) (hg : Hid (Strs w b n2 g)) (hk : Hid (Bits w c n3 kp)) (h0 : Hid (ErrAt w 0)) (h1 : Hid (ErrAt w 1)) :
    Calls Tryf.prog 3 #[.slice a n1 c1, .slice b n2 c2, .slice c n3 c3, .slice d n4 c4] w fun e w' => Good w e w' := by
  go_enter Tryf.func3, Tryf.ntmps3
  go_wp2_with fail
  refine (bytes5 a b c d n1 n2 n3 n4 c1 c2 c3 c4 f g _ hn1 hn2 hn3 hn4 hf.out hg.out).mono ?_
  rintro e w' ⟨bb, rfl, rfl, hfit⟩
  cases bb with
  | false =>
    go_wp2
    go_ret
    exact ⟨rfl, Below.refl _ _⟩
  | true =>
  obtain ⟨hfit1, hfit2⟩ := hfit rfl
  have HF1 := HidC hfit1
  have HF2 := HidC hfit2
  clear hfit hfit1 hfit2
  rcases over16 n1 with ⟨t1, t1'⟩ | ⟨t1, t1'⟩
  · go_wp2
    go_ret
    exact ⟨rfl, Below.refl _ _⟩
  rcases over16 n2 with ⟨t2, t2'⟩ | ⟨t2, t2'⟩
  · go_wp2
    go_ret
    exact ⟨rfl, Below.refl _ _⟩
  rcases over16 n3 with ⟨t3, t3'⟩ | ⟨t3, t3'⟩
  · go_wp2
    go_ret
    exact ⟨rfl, Below.refl _ _⟩
  rcases over16 n4 with ⟨t4, t4'⟩ | ⟨t4, t4'⟩
  · go_wp2
    go_ret
    exact ⟨rfl, Below.refl _ _⟩
  go_wp2_with fail
  refine (scope_any a b c d n1 n2 n3 n4 c1 c2 c3 c4 f g kp _ t1' t2' t3' t4' hf.out hg.out hk.out HF1 HF2).mono ?_
  rintro e w' ⟨bb, rfl, rfl, hsc⟩
  cases bb with
  | false =>
    go_wp2
    go_ret
    exact ⟨rfl, Below.refl _ _⟩
  | true =>
  obtain ⟨rfl, hle, htot, hkind⟩ := hsc rfl
  have HK := HidC hkind
  have HT : Hid (tot f g n2 ≤ 1048576) := by show _ ≤ _; omega
  clear hsc hkind htot
  go_wp2_with fail
  refine (file_any a b d n2 c1 c2 n4 c4 f g _ t1' hf.out hg.out).mono ?_
  rintro e w1 ⟨rfl, hb1, HB⟩
  have hb2 := hb1.alloc hb1.size (.cells #[.slice (some ⟨w.heap.size + 1, 0, none⟩) n2 n2, .pointer none, .slice d n4 c4, .slice none 0 0] 30 (0, 0))
  have HB2 := HidC (blk_alloc HB (.cells #[.slice (some ⟨w.heap.size + 1, 0, none⟩) n2 n2, .pointer none, .slice d n4 c4, .slice none 0 0] 30 (0, 0)))
  clear HB
  go_wp2_with fail
  refine (plain_any F _ n2 n3 c3 n4 c4 c d f g kp _ (by rw [hb2.tape]; exact hF) t1' hle t3' HB2 (bits_below hk.out hb2) HF1 HF2 HT HK (errAt_below h0.out hb2) (errAt_below h1.out hb2)).mono ?_
  rintro e w2 ⟨hb3, hres⟩
  have hb4 := hb2.trans (hb3.mono hb2.size)
  have HS1 := HidC (strs_below hf.out hb4)
  have HS2 := HidC (strs_below hg.out hb4)
  have HS3 := HidC (bits_below hk.out hb4)
  rcases hres with ⟨l, v, hL, rfl, hown⟩ | ⟨hL, ad, rfl⟩
  · have HO := HidC hown
    have HL := HidC hL
    clear hown hL hb3 HB2
    go_wp2_with fail
    refine (model_any a b c n2 c1 c2 n3 c3 f g kp _ t1' hle t3' HS1 HS2 HS3 HF1 HF2 HT).mono ?_
    rintro e w3 ⟨hb5, hres⟩
    have hb6 := hb4.trans (hb5.mono hb4.size)
    rcases hres with ⟨l', v', hL', rfl, hown'⟩ | ⟨hL', rfl⟩
    · have HO2 := HidC (own_below HO.out hb5)
      have HO3 := HidC hown'
      have hlen := txt_len (g := g) n2 l HL.out
      have hl2 := lastTo_le n2 l HL.out
      have hlen' : (txt (bsf f) (bsf g) kp n2).length ≤ 100000000 := by have := HT.out; omega
      have HLEN := HidC hlen'
      clear hown' hL' hlen hlen' hl2
      by_cases hnil : txt (bsf f) (bsf g) kp n2 = []
      · have e1 := HO2.out.2 hnil
        have e2 := HO3.out.2 hnil
        subst e1 e2
        go_wp2
        go_ret
        exact ⟨rfl, hb6⟩
      · have hpos : 0 < (txt (bsf f) (bsf g) kp n2).length := by
          cases h : txt (bsf f) (bsf g) kp n2 with
          | nil => exact absurd h hnil
          | cons x r => simp
        obtain ⟨g1, cap1, e1, _, _⟩ := HO2.out.1.form hpos
        obtain ⟨g2, cap2, e2, _, _⟩ := HO3.out.1.form hpos
        obtain ⟨m, hm⟩ : ∃ m, m = (txt (bsf f) (bsf g) kp n2).length := ⟨_, rfl⟩
        have hm0 : ((m : Int) == 0) = false := by simp; omega
        rw [← hm] at e1 e2
        subst e1 e2
        have hml : m ≤ 100000000 := by have := HLEN.out; omega
        have r1 := HidC (own_cells HO2.out.1 hm)
        have r2 := HidC (own_cells HO3.out.1 hm)
        clear hm hpos hnil HLEN HO2 HO3
        go_wp2_with fail
        refine (same_eq g1 0 g2 0 m cap1 cap2 _ _ hml r1.out r2.out).mono ?_
        rintro e w4 ⟨rfl, q, rfl⟩
        go_wp2
        go_ret
        exact ⟨rfl, hb6.trans ⟨rfl, rfl, rfl, Nat.le_refl _, fun _ _ => rfl⟩⟩
    · rw [HL.out] at hL'; cases hL'
  · have HL := HidC hL
    clear hL hb3 HB2
    go_wp2_with fail
    refine (model_any a b c n2 c1 c2 n3 c3 f g kp _ t1' hle t3' HS1 HS2 HS3 HF1 HF2 HT).mono ?_
    rintro e w3 ⟨hb5, hres⟩
    have hb6 := hb4.trans (hb5.mono hb4.size)
    rcases hres with ⟨l', v', hL', rfl, hown'⟩ | ⟨hL', rfl⟩
    · rw [HL.out] at hL'; cases hL'
    · go_wp2
      go_ret
      exact ⟨rfl, hb6⟩
end Go.Proofs.Qxb6629031aFmt
