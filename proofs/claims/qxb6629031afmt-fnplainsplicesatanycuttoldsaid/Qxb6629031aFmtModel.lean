/-
  plainModel.
-/
import Derived.Test.Qxb6629031aFmtWalk8
namespace Go.Proofs.Qxb6629031aFmt
open Go.RowKit
set_option linter.unusedVariables false

/-- The table's lines as strings. -/
def tblB (f g : Nat → ByteArray) (kp : Nat → Bool) : Nat → Nat → ByteArray
  | 0, _ => ⟨#[]⟩
  | k + 1, j => if kp k = true ∧ j = (num (bs (f k))).1 - 1 then g k else tblB f g kp k j

theorem tblB_bs (f g : Nat → ByteArray) (kp : Nat → Bool) : ∀ k j, bs (tblB f g kp k j) = tbl (bsf f) (bsf g) kp k j
  | 0, j => rfl
  | k + 1, j => by
    simp only [tblB, tbl]
    by_cases h : kp k = true ∧ j = (num (bs (f k))).1 - 1
    · rw [if_pos h, if_pos (by exact h)]; rfl
    · rw [if_neg h, if_neg (by exact h)]; exact tblB_bs f g kp k j
theorem tblB_size {f g : Nat → ByteArray} {kp : Nat → Bool} : ∀ n, Fits n g → ∀ j, (tblB f g kp n j).size ≤ 1048576
  | 0, _, j => by simp only [tblB]; exact Nat.zero_le _
  | n + 1, h, j => by
    simp only [tblB]
    split
    · exact h n (by omega)
    · exact tblB_size n (fun i hi => h i (by omega)) j

theorem lastTo_mem {id : Nat → List UInt8} {kp : Nat → Bool} : ∀ n l, lastTo id kp n = some l → ∀ i, i < n → kp i = true → ∃ v, num (id i) = (v, 1) ∧ 1 ≤ v ∧ v ≤ l
  | 0, l, h, i, hi, _ => by omega
  | k + 1, l, h, i, hi, hki => by
    simp only [lastTo] at h
    cases hk : lastTo id kp k with
    | none => rw [hk] at h; cases h
    | some l0 =>
      rw [hk] at h
      dsimp only at h
      by_cases hp : kp k = true
      · rw [if_pos hp] at h
        by_cases hc : (num (id k)).2 = 1 ∧ l0 < (num (id k)).1
        · rw [if_pos hc, Option.some.injEq] at h
          by_cases e : i = k
          · subst e
            exact ⟨(num (id i)).1, by rw [← hc.1], by omega, by omega⟩
          · obtain ⟨v, h1, h2, h3⟩ := lastTo_mem k l0 hk i (by omega) hki
            exact ⟨v, h1, h2, by omega⟩
        · rw [if_neg hc] at h; cases h
      · rw [if_neg hp, Option.some.injEq] at h
        have e : i ≠ k := by intro e; subst e; exact hp hki
        obtain ⟨v, h1, h2, h3⟩ := lastTo_mem k l0 hk i (by omega) hki
        exact ⟨v, h1, h2, by omega⟩

theorem cat_len_mono (f : Nat → List UInt8) {j l : Nat} (h : j ≤ l) : (cat f j).length ≤ (cat f l).length := by
  induction l with
  | zero => obtain rfl : j = 0 := by omega
            exact Nat.le_refl _
  | succ l ih =>
    by_cases e : j = l + 1
    · subst e; exact Nat.le_refl _
    · have := ih (by omega); simp only [cat, List.length_append]; omega

def ModelPost (n : Nat) (f g : Nat → ByteArray) (kp : Nat → Bool) (w0 : World) (e : Ending) (w' : World) : Prop :=
  Below w0.heap.size w0 w' ∧
  ((∃ l v, lastTo (bsf f) kp n = some l ∧ e = .returned (.tuple #[v, .bool true]) ∧ Own w' w0.heap.size v (txt (bsf f) (bsf g) kp n)) ∨
   (lastTo (bsf f) kp n = none ∧ e = .returned (.tuple #[.slice none 0 0, .bool false])))

theorem info9 : (Tryf.prog.info? 9).map (fun i => (i.zero, i.size, i.bytes)) = some (some (.string ⟨#[]⟩), 1, 16) := by kernel_rfl
theorem make22 (n : Nat) (hn : n ≤ 1048576) (w : World) : (Instr.makeSlice 22 (.int .i64 n) (.int .i64 n)).run Tryf.prog w = .ok (.slice (some ⟨w.heap.size, 0, none⟩) n n) (w.alloc (.cells (rowV n (fun _ => .string ⟨#[]⟩)).toArray 9)) := by
  obtain ⟨i0, hi, hz0, hz1, hz2⟩ := info_parts info9
  have h := run_make (P := Tryf.prog) w 22 9 i0 _ Tryf.underlying22 hi hz0 .i64 .i64 n n (by omega) (by omega) (by rw [hz2]; omega) (by omega)
  rw [h, hz1]
  have e2 : (Value.string ⟨#[]⟩).cells = #[Value.string ⟨#[]⟩] := rfl
  rw [e2, Int.toNat_natCast, Nat.mul_one, made_row]

theorem kind_one (q : Nat) : (((q : Int) == 1) = true ∧ q = 1) ∨ (((q : Int) == 1) = false ∧ q ≠ 1) := by
  by_cases h : q = 1
  · exact .inl ⟨by simp; omega, h⟩
  · exact .inr ⟨by simp; omega, h⟩

set_option maxRecDepth 20000 in
set_option maxHeartbeats 4000000 in
theorem model_any (a b c : Option Addr) (n c1 c2 n3 c3 : Nat) (f g : Nat → ByteArray) (kp : Nat → Bool) (w0 : World) (hn : n ≤ 65536) (hn3 : n ≤ n3) (hn3' : n3 ≤ 65536)
    (ha : Hid (Strs w0 a n f)) (hb : Hid (Strs w0 b n g)) (hk : Hid (Bits w0 c n3 kp)) (hf : Hid (Fits n f)) (hg : Hid (Fits n g)) (htot : Hid (tot f g n ≤ 1048576)) :
    Calls Tryf.prog 9 #[.slice a n c1, .slice b n c2, .slice c n3 c3] w0 fun e w' => ModelPost n f g kp w0 e w' := by
  go_enter Tryf.func9, Tryf.ntmps9
  go_wp2
  go_loop [8, 9] (fun la i => ∃ k l : Nat, k ≤ n ∧ l ≤ 65536 ∧ i = .int .i64 k ∧ la = .int .i64 l ∧ Hid (lastTo (bsf f) kp k = some l)) (fun _ i => n - (intOf i).toNat)
  case atStart => exact ⟨0, 0, Nat.zero_le _, Nat.zero_le _, rfl, rfl, rfl⟩
  case round =>
    obtain ⟨k, l, hkn, hl, rfl, rfl, HL⟩ := hrel
    by_cases hlt : k < n
    · obtain ⟨gc, rfl, hcc⟩ := hk.out k (by omega)
      obtain ⟨ga, rfl, hca, _⟩ := ha.out k hlt
      have hlt3 : (k : Int) < n3 := by omega
      have hsz := hf.out k hlt
      cases hkp : kp k with
      | false =>
        rw [hkp] at hcc
        go_wp2
        go_round
        case rel => exact ⟨k + 1, l, by omega, hl, by go_num, rfl, lastTo_skip HL.out hkp⟩
        case measure => simp [intOf]; omega
      | true =>
        rw [hkp] at hcc
        obtain ⟨v, q, hvq⟩ : ∃ v q, Hid (num (bs (f k)) = (v, q)) := ⟨_, _, rfl⟩
        by_cases hok : q = 1 ∧ l < v
        · obtain ⟨rfl, hlv⟩ := hok
          have hv1 := (num_one hvq.out).2
          have t1 : decide ((v : Int) ≤ l) = false := by simp; omega
          have t2 : decide (v ≤ l) = false := by simp; omega
          go_wp2_with (go_at_call 12; refine (num_any (f k) _ hsz v 1 hvq).mono ?_; rintro e w' ⟨rfl, rfl⟩)
          go_round
          case rel => exact ⟨k + 1, v, by omega, by omega, by go_num, rfl, lastTo_take HL.out hkp hvq.out hlv⟩
          case measure => simp [intOf]; omega
        · have hno : Hid (lastTo (bsf f) kp n = none) := by
            show _ = _
            refine lastTo_none' (lastTo_fail HL.out hkp ?_) (by omega : k + 1 ≤ n)
            have h3 : num (bsf f k) = (v, q) := hvq.out
            rw [h3]; exact hok
          rcases kind_one q with ⟨t0, rfl⟩ | ⟨t0, t0'⟩
          · have t1 : decide ((v : Int) ≤ l) = true := by simp; omega
            have t2 : decide (v ≤ l) = true := by simp; omega
            go_wp2_with (go_at_call 12; refine (num_any (f k) _ hsz v 1 hvq).mono ?_; rintro e w' ⟨rfl, rfl⟩)
            go_ret2
            exact ⟨Below.refl _ _, .inr ⟨hno.out, rfl⟩⟩
          · go_wp2_with (go_at_call 12; refine (num_any (f k) _ hsz v q hvq).mono ?_; rintro e w' ⟨rfl, rfl⟩)
            go_ret2
            exact ⟨Below.refl _ _, .inr ⟨hno.out, rfl⟩⟩
    · obtain rfl : k = n := by omega
      have hmk := make22 l (by omega)
      go_wp2
      clear hmk
      go_loopw [13] (fun i wr => ∃ j : Nat, j ≤ k ∧ i = .int .i64 j ∧ Below w0.heap.size w0 wr ∧ Hid (Blk wr w0.heap.size 9 l (fun x => .string (tblB f g kp j x)))) (fun i _ => k - (intOf i).toNat)
      case atStart => exact ⟨0, Nat.zero_le _, rfl, (Below.refl _ w0).alloc (Nat.le_refl _) _, blk_new w0 9 l _⟩
      case round =>
        obtain ⟨j, hj, rfl, hbl, HB⟩ := hrel
        by_cases hlt : j < k
        · obtain ⟨gc, rfl, hcc⟩ := hk.out j (by omega)
          obtain ⟨ga, rfl, hca, _⟩ := ha.out j hlt
          obtain ⟨gb, rfl, hcb, _⟩ := hb.out j hlt
          have hcc' := keep_cell hbl hcc
          have hca' := keep_cell hbl hca
          have hcb' := keep_cell hbl hcb
          clear hcc hca hcb
          have hlt3 : (j : Int) < n3 := by omega
          have hsz := hf.out j hlt
          cases hkp : kp j with
          | false =>
            rw [hkp] at hcc'
            have HB' : Hid (Blk wr w0.heap.size 9 l (fun x => .string (tblB f g kp (j + 1) x))) := blk_congr HB.out (fun x _ => by simp only [tblB]; rw [if_neg (by rw [hkp]; simp)])
            go_wp2
            go_roundw
            case rel => exact ⟨j + 1, by omega, by go_num, hbl, HB'⟩
            case measure => simp [intOf]; omega
          | true =>
            rw [hkp] at hcc'
            obtain ⟨v, hvq', hv1, hv2⟩ := lastTo_mem k l HL.out j hlt hkp
            obtain ⟨u, rfl⟩ : ∃ u, v = u + 1 := ⟨v - 1, by omega⟩
            have hvq : Hid (num (bs (f j)) = (u + 1, 1)) := hvq'
            clear hvq'
            have hq := blk_cell HB.out (s := u) (by omega)
            have hfr := blk_free HB.out u
            have hul : (u : Int) < l := by omega
            have HB' : Hid (Blk (wr.setCell ⟨w0.heap.size, u, none⟩ (.string (g j))) w0.heap.size 9 l (fun x => .string (tblB f g kp (j + 1) x))) :=
              blk_set HB.out (by simp only [tblB]; rw [if_pos ⟨hkp, by rw [hvq.out]; rfl⟩]) (fun i hi => by
                simp only [tblB]; rw [if_neg (by rw [hvq.out]; dsimp only; omega)])
            go_wp2_with (go_at_call 12; refine (num_any (f j) _ hsz (u + 1) 1 hvq).mono ?_; rintro e w' ⟨rfl, rfl⟩)
            go_roundw
            case rel => exact ⟨j + 1, by omega, by go_num, hbl.setCell (Nat.le_refl _) _, HB'⟩
            case measure => simp [intOf]; omega
        · obtain rfl : j = k := by omega
          go_wp2
          go_loopw [16, 17] (fun b i wx => ∃ x : Nat, x ≤ l ∧ i = .int .i64 x ∧ Hid (St w0 wx b (cat (tbl (bsf f) (bsf g) kp j) x) w0.heap.size (.cells (rowV l (fun x => .string (tblB f g kp j x))).toArray 9 (0, 0)))) (fun _ i _ => l - (intOf i).toNat)
          case atStart => exact ⟨0, Nat.zero_le _, rfl, hbl, own_nil _ _, HB.out⟩
          case round =>
            obtain ⟨x, hx, rfl, HS⟩ := hrel
            have hcat := txt_cat (bsf f) (bsf g) kp j l HL.out
            by_cases hlt : x < l
            · have hcx := blk_cell HS.out.2.2 (s := x) hlt
              have hsx := tblB_size (f := f) (kp := kp) j hg.out x
              have hl1 : (cat (tbl (bsf f) (bsf g) kp j) x).length ≤ 3000000 := by
                have h3 := cat_len_mono (tbl (bsf f) (bsf g) kp j) (Nat.le_of_lt hlt)
                rw [← hcat.1] at h3
                have h4 := txt_len (g := g) j l HL.out
                have h5 := htot.out
                omega
              have hl2 : (cat (tbl (bsf f) (bsf g) kp j) x).length ≤ 100000000 := by omega
              have hl3 : (cat (tbl (bsf f) (bsf g) kp j) x ++ bs (tblB f g kp j x)).length ≤ 100000000 := by
                rw [List.length_append, bs_len]; omega
              clear hcat
              go_wp2_with (first
                | (at_builtin; refine wp_str _ rfl _ _ rfl w0 _ _ _ _ _ (by decide) HS.out rfl hl2 (tblB f g kp j x) rfl hsx ?_; intro v' w2 HS3)
                | (at_builtin; refine wp_nl _ rfl _ _ rfl w0 _ _ _ _ _ (by decide) (st_alloc HS3 _) rfl hl3 _ rfl (by simp) ?_; intro v2 w3 HS4))
              rw [tblB_bs] at HS4
              exact ⟨⟨x + 1, by omega, by go_num, HS4⟩, by simp [intOf]; omega⟩
            · obtain rfl : x = l := by omega
              clear hlt
              have HT := HidC hcat.1
              clear hcat
              go_wp2
              go_ret2
              exact ⟨HS.out.1, .inl ⟨x, _, HL.out, rfl, by rw [HT.out]; exact HS.out.2.1⟩⟩
end Go.Proofs.Qxb6629031aFmt
