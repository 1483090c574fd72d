/-
  (File).Plain.
-/
import Derived.Test.Qxb6629031aFmtOwn
import Derived.Test.Qxb6629031aFmtErrs
namespace Go.Proofs.Qxb6629031aFmt
open Go.RowKit Go.Extern.Stop Go.Stop Go.Extern
set_option linter.unusedVariables false

theorem task_id {f g : Nat → ByteArray} {n k : Nat} (h : k < n) : task f g n (k * 3) = .string (f k) := by
  unfold task; rw [if_pos (by omega), if_pos (by omega)]; congr 2; omega
theorem task_cmd {f g : Nat → ByteArray} {n k : Nat} (h : k < n) : task f g n (k * 3 + 1) = .string (g k) := by
  unfold task; rw [if_neg (by omega), if_pos (by omega), if_pos (by omega)]; congr 2; omega
theorem task_dur {f g : Nat → ByteArray} {n k : Nat} : task f g n (k * 3 + 2) = .int .i64 0 := by
  unfold task; rw [if_neg (by omega), if_neg (by omega)]

/-- Strings as bytes. -/
def bsf (f : Nat → ByteArray) : Nat → List UInt8 := fun i => bs (f i)

theorem lastTo_none {id : Nat → List UInt8} {kp : Nat → Bool} {k : Nat} (h : lastTo id kp k = none) : ∀ d, lastTo id kp (k + d) = none
  | 0 => h
  | d + 1 => by rw [show k + (d + 1) = (k + d) + 1 from rfl]; simp only [lastTo]; rw [lastTo_none h d]
theorem lastTo_none' {id : Nat → List UInt8} {kp : Nat → Bool} {k n : Nat} (h : lastTo id kp k = none) (hk : k ≤ n) : lastTo id kp n = none := by
  have := lastTo_none h (n - k); rwa [show k + (n - k) = n from by omega] at this
theorem lastTo_skip {id : Nat → List UInt8} {kp : Nat → Bool} {k l : Nat} (h : lastTo id kp k = some l) (hk : kp k = false) : lastTo id kp (k + 1) = some l := by
  simp only [lastTo]; rw [h, hk]; rfl
theorem lastTo_take {id : Nat → List UInt8} {kp : Nat → Bool} {k l v : Nat} (h : lastTo id kp k = some l) (hk : kp k = true) (hv : num (id k) = (v, 1)) (hl : l < v) : lastTo id kp (k + 1) = some v := by
  simp only [lastTo]; rw [h]; simp [hk, hv, hl]
theorem lastTo_fail {id : Nat → List UInt8} {kp : Nat → Bool} {k l : Nat} (h : lastTo id kp k = some l) (hk : kp k = true) (hv : ¬ ((num (id k)).2 = 1 ∧ l < (num (id k)).1)) : lastTo id kp (k + 1) = none := by
  simp only [lastTo]; rw [h]; dsimp only; rw [if_pos hk, if_neg hv]
theorem lastTo_le {id : Nat → List UInt8} {kp : Nat → Bool} : ∀ k l, lastTo id kp k = some l → l ≤ 65536
  | 0, l, h => by simp only [lastTo, Option.some.injEq] at h; omega
  | k + 1, l, h => by
    simp only [lastTo] at h
    cases hk : lastTo id kp k with
    | none => rw [hk] at h; cases h
    | some l0 =>
      rw [hk] at h
      dsimp only at h
      have ih := lastTo_le k l0 hk
      by_cases hp : kp k = true
      · rw [if_pos hp] at h
        by_cases hc : (num (id k)).2 = 1 ∧ l0 < (num (id k)).1
        · rw [if_pos hc, Option.some.injEq] at h
          cases hnum : num (id k) with
          | mk v q =>
            rw [hnum] at hc h
            dsimp only at hc h
            obtain ⟨rfl, _⟩ := hc
            subst h
            exact (num_one hnum).2.2
        · rw [if_neg hc] at h; cases h
      · rw [if_neg hp, Option.some.injEq] at h; omega

theorem txt_skip {id cm : Nat → List UInt8} {kp : Nat → Bool} {k : Nat} (hk : kp k = false) : txt id cm kp (k + 1) = txt id cm kp k := by
  simp only [txt]; rw [hk]; rfl
theorem txt_take {id cm : Nat → List UInt8} {kp : Nat → Bool} {k l v q : Nat} (h : lastTo id kp k = some l) (hk : kp k = true) (hv : num (id k) = (v, q)) : txt id cm kp (k + 1) = txt id cm kp k ++ List.replicate (v - 1 - l) 10 ++ cm k ++ [10] := by
  simp only [txt]; rw [h, hk, hv]; rfl
theorem txt_len {f g : Nat → ByteArray} {kp : Nat → Bool} : ∀ k l, lastTo (bsf f) kp k = some l → (txt (bsf f) (bsf g) kp k).length ≤ l + tot f g k
  | 0, l, h => by simp [txt]
  | k + 1, l, h => by
    simp only [lastTo] at h
    cases hk : lastTo (bsf f) kp k with
    | none => rw [hk] at h; cases h
    | some l0 =>
      rw [hk] at h
      dsimp only at h
      have ih := txt_len (g := g) k l0 hk
      simp only [tot]
      by_cases hp : kp k = true
      · rw [if_pos hp] at h
        by_cases hc : (num (bsf f k)).2 = 1 ∧ l0 < (num (bsf f k)).1
        · rw [if_pos hc, Option.some.injEq] at h
          simp only [txt]
          rw [if_pos hp, hk]
          simp only [Option.getD_some, List.length_append, List.length_replicate, List.length_cons, List.length_nil, bsf, bs_len] at *
          omega
        · rw [if_neg hc] at h; cases h
      · rw [if_neg hp, Option.some.injEq] at h
        simp only [txt]; rw [if_neg hp]; omega

theorem tot_mono (f g : Nat → ByteArray) {k n : Nat} (h : k ≤ n) : tot f g k ≤ tot f g n := by
  induction n with
  | zero => obtain rfl : k = 0 := by omega
            exact Nat.le_refl _
  | succ n ih =>
    by_cases e : k = n + 1
    · subst e; exact Nat.le_refl _
    · have := ih (by omega); simp only [tot]; omega
theorem HidC {p : Prop} (h : p) : Hid p := h

/-- What Plain answers. -/
def PlainPost (n : Nat) (f g : Nat → ByteArray) (kp : Nat → Bool) (w0 : World) (e : Ending) (w' : World) : Prop :=
  Below w0.heap.size w0 w' ∧
  ((∃ l v, lastTo (bsf f) kp n = some l ∧ e = .returned (.tuple #[v, .nilIface]) ∧ Own w' w0.heap.size v (txt (bsf f) (bsf g) kp n)) ∨
   (lastTo (bsf f) kp n = none ∧ ∃ a : Addr, e = .returned (.tuple #[.slice none 0 0, .iface 60 (.pointer (some a))])))

def Lay (f g : Nat → ByteArray) (kp : Nat → Bool) (w0 wr : World) (b : Value) (k : Nat) : Prop := Below w0.heap.size w0 wr ∧ Own wr w0.heap.size b (txt (bsf f) (bsf g) kp k)

theorem lay_alloc {f g : Nat → ByteArray} {kp : Nat → Bool} {w0 wr : World} {b : Value} {k : Nat} (h : Lay f g kp w0 wr b k) (c : Array Value) (t : TypeId) : St w0 (wr.alloc (.cells c t (0, 0))) b (txt (bsf f) (bsf g) kp k) wr.heap.size (.cells c t (0, 0)) :=
  ⟨h.1.alloc h.1.size _, own_below h.2 ((Below.refl _ wr).alloc (Nat.le_refl _) _), heap_alloc_new wr _⟩
theorem st_cell {w0 w : World} {v : Value} {l : List UInt8} {tb : Nat} {c : Array Value} {t : TypeId} (h : St w0 w v l tb (.cells c t (0, 0))) (i : Nat) {u : Value} (hi : c[i]? = some u) : w.cell? ⟨tb, i, none⟩ = some u := by
  rw [cell_of_row _ _ _ _ _ _ h.2.2]; exact hi
theorem lay_skip {f g : Nat → ByteArray} {kp : Nat → Bool} {w0 wr : World} {b : Value} {k : Nat} (h : Lay f g kp w0 wr b k) (hk : kp k = false) (c : Obj) : Lay f g kp w0 (wr.alloc c) b (k + 1) :=
  ⟨h.1.alloc h.1.size _, by rw [txt_skip hk]; exact own_below h.2 ((Below.refl _ wr).alloc (Nat.le_refl _) _)⟩

theorem plain_no {n k l : Nat} {f g : Nat → ByteArray} {kp : Nat → Bool} {w0 w w' : World} {a : Addr} (hL : lastTo (bsf f) kp k = some l) (hk : kp k = true) (hkn : k < n) (hv : ¬ ((num (bsf f k)).2 = 1 ∧ l < (num (bsf f k)).1)) (hb : Below w0.heap.size w0 w) (hb' : Below w.heap.size w w') :
    PlainPost n f g kp w0 (.returned (.tuple #[.slice none 0 0, .iface 60 (.pointer (some a))])) w' :=
  ⟨hb.trans (hb'.mono hb.size), .inr ⟨lastTo_none' (lastTo_fail hL hk hv) (by omega), a, rfl⟩⟩

set_option maxRecDepth 20000 in
set_option maxHeartbeats 2000000 in
theorem plain_any (F : Interp) (T n n3 c3 n4 c4 : Nat) (c d : Option Addr) (f g : Nat → ByteArray) (kp : Nat → Bool) (w0 : World) (hF : F.answers w0.tape) (hn : n ≤ 65536) (hn3 : n ≤ n3) (hn3' : n3 ≤ 65536)
    (hT : Hid (Blk w0 T 46 (n * 3) (task f g n))) (hk : Hid (Bits w0 c n3 kp)) (hf : Hid (Fits n f)) (hg : Hid (Fits n g)) (htot : Hid (tot f g n ≤ 1048576)) (hkind : Hid (∀ i, i < n → kp i = true → (num (bs (f i))).2 ≠ 2)) (h0 : Hid (ErrAt w0 0)) (h1 : Hid (ErrAt w0 1)) :
    Calls Tryf.prog 8 #[.agg #[.slice (some ⟨T, 0, none⟩) n n, .pointer none, .slice d n4 c4, .slice none 0 0], .slice c n3 c3] w0 fun e w' => PlainPost n f g kp w0 e w' := by
  go_enter Tryf.func8, Tryf.ntmps8
  go_wp2
  go_loopw [6, 7, 15] (fun b nx i wr => ∃ k l : Nat, k ≤ n ∧ l ≤ 65536 ∧ i = .int .i64 k ∧ nx = .int .i64 ((l + 1 : Nat) : Int) ∧ Hid (lastTo (bsf f) kp k = some l) ∧ Hid (Lay f g kp w0 wr b k)) (fun _ _ i _ => n - (intOf i).toNat)
  case atStart =>
    refine ⟨0, 0, Nat.zero_le _, Nat.zero_le _, rfl, rfl, rfl, ?_, own_nil _ _⟩
    exact (Below.refl _ w0).alloc (Nat.le_refl _) _
  case round =>
    obtain ⟨k, l, hkn, hl, rfl, rfl, HL, HY⟩ := hrel
    have hnb : Below w0.heap.size w0 wr := HY.out.1
    by_cases hlt : k < n
    · have q0 : wr.cell? ⟨T, k * 3, none⟩ = some (.string (f k)) := by
        have := blk_cell hT.out (s := k * 3) (by omega)
        rw [task_id hlt] at this; exact keep_cell hnb this
      have q1 : wr.cell? ⟨T, k * 3 + 1, none⟩ = some (.string (g k)) := by
        have := blk_cell hT.out (s := k * 3 + 1) (by omega)
        rw [task_cmd hlt] at this; exact keep_cell hnb this
      have q2 : wr.cell? ⟨T, k * 3 + 2, none⟩ = some (.int .i64 0) := by
        have := blk_cell hT.out (s := k * 3 + 2) (by omega)
        rw [task_dur] at this; exact keep_cell hnb this
      have hTn : T ≠ wr.heap.size := by have := blk_lt hT.out; have := hnb.size; omega
      obtain ⟨gc, rfl, hcc⟩ := hk.out k (by omega)
      have hcc' := keep_cell hnb hcc
      have hgc : (gc.add k).block < wr.heap.size := World.block_lt_of_cell? _ _ hcc'
      have hlt' : (k : Int) < n := by omega
      have hlt3 : (k : Int) < n3 := by omega
      cases hkp : kp k with
      | false =>
        rw [hkp] at hcc hcc'
        go_wp2
        refine ⟨⟨k + 1, l, by omega, hl, by go_num, rfl, lastTo_skip HL.out hkp, lay_skip HY.out hkp _⟩, by simp [intOf]; omega⟩
      | true =>
        rw [hkp] at hcc hcc'
        have hsz := hf.out k hlt
        have hsz2 := hg.out k hlt
        obtain ⟨v, q, hvq⟩ : ∃ v q, Hid (num (bs (f k)) = (v, q)) := ⟨_, _, rfl⟩
        have hq : q = 0 ∨ q = 1 := by
          have h3 := num_kind (bs (f k))
          have h4 := hkind.out k hlt hkp
          rw [hvq.out] at h3 h4
          dsimp only at h3 h4
          omega
        have HS : Hid (St w0 (wr.alloc (.cells #[.string (f k), .string (g k), .int .i64 0] 46 (0, 0))) u6 (txt (bsf f) (bsf g) kp k) wr.heap.size (.cells #[.string (f k), .string (g k), .int .i64 0] 46 (0, 0))) := lay_alloc HY.out _ _
        by_cases hok : q = 1 ∧ l < v
        · obtain ⟨rfl, hlv⟩ := hok
          have hat : Hid (Lib.atoiAll (bs (f k)) = .ok (v : Int)) := (num_one hvq.out).1
          have hv1 := (num_one hvq.out).2
          have hlv1 : decide ((v : Int) < ((l + 1 : Nat) : Int)) = false := by simp; omega
          have hlv2 : decide (v < l + 1) = false := by simp; omega
          have htl : Hid ((txt (bsf f) (bsf g) kp k).length ≤ 2000000) := by
            have h3 := txt_len (g := g) k l HL.out
            have h4 : tot f g k ≤ tot f g n := tot_mono f g (by omega)
            have h5 := htot.out
            show _ ≤ _
            omega
          go_wp2_with (go_at_call 14; refine (atoi_fine (f k) hsz v hat _).mono ?_; rintro e w1 ⟨rfl, hb1⟩; have HS1 := HidC (st_below HS.out hb1); clear hb1)
          clear q0 q1 q2 hTn hcc hcc' hgc HS hlv1 hlv2
          go_loopw [6, 7] (fun b nx wx => ∃ j : Nat, l + 1 ≤ j ∧ j ≤ v ∧ nx = .int .i64 j ∧ Hid (St w0 wx b (txt (bsf f) (bsf g) kp k ++ List.replicate (j - (l + 1)) 10) wr.heap.size (.cells #[.string (f k), .string (g k), .int .i64 0] 46 (0, 0)))) (fun _ nx _ => v - (intOf nx).toNat)
          case atStart => exact ⟨l + 1, Nat.le_refl _, by omega, by go_num, by rw [Nat.sub_self, List.replicate_zero, List.append_nil]; exact HS1⟩
          case round =>
            clear HS1
            obtain ⟨j, hj1, hj2, rfl, HS2⟩ := hrel
            by_cases hjv : j < v
            · have htl2 : (txt (bsf f) (bsf g) kp k ++ List.replicate (j - (l + 1)) 10).length ≤ 100000000 := by
                have := htl.out
                rw [List.length_append, List.length_replicate]; omega
              go_wp2_with (at_builtin; refine wp_nl _ rfl _ _ rfl w0 _ _ _ _ _ (by decide) (st_alloc HS2.out _) rfl htl2 _ rfl (by simp) ?_; intro v' w2 HS3)
              refine ⟨⟨j + 1, by omega, by omega, by go_num, ?_⟩, by simp [intOf]; omega⟩
              show St _ _ _ _ _ _
              rw [show j + 1 - (l + 1) = (j - (l + 1)) + 1 from by omega, List.replicate_succ', ← List.append_assoc]
              exact HS3
            · obtain rfl : j = v := by omega
              have hc1 := st_cell HS2.out 1 rfl
              have htl2 : (txt (bsf f) (bsf g) kp k ++ List.replicate (j - (l + 1)) 10).length ≤ 3000000 := by
                have := htl.out
                rw [List.length_append, List.length_replicate]; omega
              have htl3 : (txt (bsf f) (bsf g) kp k ++ List.replicate (j - (l + 1)) 10 ++ bs (g k)).length ≤ 100000000 := by
                rw [List.length_append, bs_len]; omega
              have htl2' : (txt (bsf f) (bsf g) kp k ++ List.replicate (j - (l + 1)) 10).length ≤ 100000000 := by omega
              go_wp2_with (first
                | (at_builtin; refine wp_str _ rfl _ _ rfl w0 _ _ _ _ _ (by decide) HS2.out rfl htl2' (g k) rfl hsz2 ?_; intro v' w2 HS3)
                | (at_builtin; refine wp_nl _ rfl _ _ rfl w0 _ _ _ _ _ (by decide) (st_alloc HS3 _) rfl htl3 _ rfl (by simp) ?_; intro v2 w3 HS4))
              refine ⟨⟨k + 1, j, by omega, by omega, by go_num, by go_num, lastTo_take HL.out hkp hvq.out hlv, HS4.1, ?_⟩, by simp [intOf]; omega⟩
              rw [txt_take HL.out hkp hvq.out, show j - 1 - l = j - (l + 1) from by omega]
              exact HS4.2.1
        · have hno : Hid (¬ ((num (bsf f k)).2 = 1 ∧ l < (num (bsf f k)).1)) := by
            show ¬ _
            have h3 : num (bsf f k) = (v, q) := hvq.out
            rw [h3]; exact hok
          have hF1 : F.answers wr.tape := by rw [hnb.tape]; exact hF
          by_cases hq1 : q = 1
          · subst hq1
            have hvl : v ≤ l := by omega
            have hat : Hid (Lib.atoiAll (bs (f k)) = .ok (v : Int)) := (num_one hvq.out).1
            have hlv1 : decide ((v : Int) < ((l + 1 : Nat) : Int)) = true := by simp; omega
            have hlv2 : decide (v < l + 1) = true := by simp; omega
            clear hok
            go_wp2_with (first
              | (go_at_call 14; refine (atoi_fine (f k) hsz v hat _).mono ?_; rintro e w1 ⟨rfl, hb1⟩; have HS1 := HidC (st_below HS.out hb1); have hc0 := st_cell HS1.out 0 rfl; have hF2 : F.answers w1.tape := (by rw [HS1.out.1.tape]; exact hF); clear hb1)
              | (go_at_call 15; refine (errorf_any F (f k) (l : Int) w1.heap.size _ (by exact hF2) (by simp) (by simp)).mono ?_; rintro e w2 ⟨⟨ad, rfl⟩, hb2⟩))
            go_ret2
            exact plain_no HL.out hkp hlt hno.out (HS1.out.1.alloc HS1.out.1.size _) hb2
          · obtain rfl : q = 0 := by omega
            have E0 := HidC (errAt_below (errAt_below h0.out hnb) ((Below.refl _ wr).alloc (Nat.le_refl _) (.cells #[.string (f k), .string (g k), .int .i64 0] 46 (0, 0))))
            have E1 := HidC (errAt_below (errAt_below h1.out hnb) ((Below.refl _ wr).alloc (Nat.le_refl _) (.cells #[.string (f k), .string (g k), .int .i64 0] 46 (0, 0))))
            clear hok
            by_cases hat0 : ∃ x, Lib.atoiAll (bs (f k)) = .ok x
            · obtain ⟨x, hx⟩ := hat0
              have hx1 := num_zero hvq.out x hx
              have hat : Hid (Lib.atoiAll (bs (f k)) = .ok x) := hx
              clear hx
              have hlv1 : decide (x < ((l + 1 : Nat) : Int)) = true := by simp; omega
              go_wp2_with (first
                | (go_at_call 14; refine (atoi_fine (f k) hsz x hat _).mono ?_; rintro e w1 ⟨rfl, hb1⟩; have HS1 := HidC (st_below HS.out hb1); have hc0 := st_cell HS1.out 0 rfl; have hF2 : F.answers w1.tape := (by rw [HS1.out.1.tape]; exact hF); clear hb1)
                | (go_at_call 15; refine (errorf_any F (f k) (l : Int) w1.heap.size _ (by exact hF2) (by simp) (by simp)).mono ?_; rintro e w2 ⟨⟨ad, rfl⟩, hb2⟩))
              go_ret2
              exact plain_no HL.out hkp hlt hno.out (HS1.out.1.alloc HS1.out.1.size _) hb2
            · have hat : Hid (∀ x, Lib.atoiAll (bs (f k)) ≠ .ok x) := fun x hx => hat0 ⟨x, hx⟩
              clear hat0
              go_wp2_with (first
                | (go_at_call 14; refine (atoi_bad (f k) hsz hat _ E0.out E1.out).mono ?_; rintro e w1 ⟨⟨x, ad1, rfl⟩, hb1⟩; have HS1 := HidC (st_below HS.out hb1); have hc0 := st_cell HS1.out 0 rfl; have hF2 : F.answers w1.tape := (by rw [HS1.out.1.tape]; exact hF); clear hb1)
                | (go_at_call 15; refine (errorf_any F (f k) (l : Int) w1.heap.size _ (by exact hF2) (by simp) (by simp)).mono ?_; rintro e w2 ⟨⟨ad, rfl⟩, hb2⟩))
              go_ret2
              exact plain_no HL.out hkp hlt hno.out (HS1.out.1.alloc HS1.out.1.size _) hb2
    · obtain rfl : k = n := by omega
      go_wp2
      go_ret2
      exact ⟨HY.out.1, .inl ⟨l, u6, HL.out, rfl, HY.out.2⟩⟩
end Go.Proofs.Qxb6629031aFmt
