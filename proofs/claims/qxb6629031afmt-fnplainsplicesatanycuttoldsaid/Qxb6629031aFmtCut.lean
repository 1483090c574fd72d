/-
  The walk of FnPlainSplicesAtAnyCut.
-/
import Derived.Test.Qxb6629031aFmtSplice
import Derived.Test.Qxb6629031aFmtJoin
namespace Go.Proofs.Qxb6629031aFmt
open Go.RowKit Go.Extern.Stop Go.Stop Go.Extern
set_option linter.unusedVariables false

theorem info4 : (Tryf.prog.info? 4).map (fun i => (i.zero, i.size, i.bytes)) = some (some (.bool false), 1, 1) := by kernel_rfl
theorem make23 (n : Nat) (hn : n ≤ 1048576) (w : World) : (Instr.makeSlice 23 (.int .i64 n) (.int .i64 n)).run Tryf.prog w = .ok (.slice (some ⟨w.heap.size, 0, none⟩) n n) (w.alloc (.cells (rowV n (fun _ => .bool false)).toArray 4)) := by
  obtain ⟨i0, hi, hz0, hz1, hz2⟩ := info_parts info4
  have h := run_make (P := Tryf.prog) w 23 4 i0 _ Tryf.underlying23 hi hz0 .i64 .i64 n n (by omega) (by omega) (by rw [hz2]; omega) (by omega)
  rw [h, hz1]
  have e2 : (Value.bool false).cells = #[Value.bool false] := rfl
  rw [e2, Int.toNat_natCast, Nat.mul_one, made_row]

theorem bits_blk {w : World} {b n : Nat} {f : Nat → Bool} (h : Blk w b 4 n (fun i => .bool (f i))) : Bits w (some ⟨b, 0, none⟩) n f := by
  intro i hi
  refine ⟨_, rfl, ?_⟩
  rw [Addr.add_lit, Nat.zero_add]
  exact blk_cell h hi

/-- What the calls read, in whatever later world. -/
def Env (a b c d : Option Addr) (n n3 n4 c4 : Nat) (f g : Nat → ByteArray) (kp : Nat → Bool) (ct A T Fb : Nat) (w : World) : Prop :=
  Strs w a n f ∧ Strs w b n g ∧ Bits w c n3 kp ∧ Bits w (some ⟨A, 0, none⟩) n (kA kp ct) ∧ Bits w (some ⟨A + 1, 0, none⟩) n (kB kp ct) ∧ Blk w T 46 (n * 3) (task f g n) ∧ ErrAt w 0 ∧ ErrAt w 1 ∧
  w.heap[Fb]? = some (.cells #[.slice (some ⟨T, 0, none⟩) n n, .pointer none, .slice d n4 c4, .slice none 0 0] 30 (0, 0))
theorem env_below {a b c d : Option Addr} {n n3 n4 c4 : Nat} {f g : Nat → ByteArray} {kp : Nat → Bool} {ct A T Fb : Nat} {w w' : World} (h : Env a b c d n n3 n4 c4 f g kp ct A T Fb w) (hb : Below w.heap.size w w') : Env a b c d n n3 n4 c4 f g kp ct A T Fb w' := by
  obtain ⟨h1, h2, h3, h4, h5, h6, h7, h8, h9⟩ := h
  exact ⟨strs_below h1 hb, strs_below h2 hb, bits_below h3 hb, bits_below h4 hb, bits_below h5 hb, blk_below h6 hb (blk_lt h6), errAt_below h7 hb, errAt_below h8 hb, by rw [hb.block Fb (lt_of_block h9)]; exact h9⟩
theorem env_cell {a b c d : Option Addr} {n n3 n4 c4 : Nat} {f g : Nat → ByteArray} {kp : Nat → Bool} {ct A T Fb : Nat} {w : World} (h : Env a b c d n n3 n4 c4 f g kp ct A T Fb w) (i : Nat) {u : Value} (hi : #[Value.slice (some ⟨T, 0, none⟩) n n, .pointer none, .slice d n4 c4, .slice none 0 0][i]? = some u) : w.cell? ⟨Fb, i, none⟩ = some u := by
  rw [cell_of_row _ _ _ _ _ _ h.2.2.2.2.2.2.2.2]; exact hi

/-- Plain returns something. -/
def SomePair (w0 : World) (e : Ending) (w' : World) : Prop := ∃ v err, e = .returned (.tuple #[v, err]) ∧ Below w0.heap.size w0 w'
theorem some_of {n : Nat} {f g : Nat → ByteArray} {kp : Nat → Bool} {w0 : World} {e : Ending} {w' : World} (h : PlainPost n f g kp w0 e w') : SomePair w0 e w' := by
  obtain ⟨hb, ⟨l, v, _, rfl, _⟩ | ⟨_, ad, rfl⟩⟩ := h
  · exact ⟨_, _, rfl, hb⟩
  · exact ⟨_, _, rfl, hb⟩
def OkPair (n : Nat) (f g : Nat → ByteArray) (kp : Nat → Bool) (w0 : World) (e : Ending) (w' : World) : Prop := ∃ v, e = .returned (.tuple #[v, .nilIface]) ∧ Below w0.heap.size w0 w' ∧ Own w' w0.heap.size v (txt (bsf f) (bsf g) kp n)
theorem ok_of {n : Nat} {f g : Nat → ByteArray} {kp : Nat → Bool} {w0 : World} {e : Ending} {w' : World} (hl : lastTo (bsf f) kp n ≠ none) (h : PlainPost n f g kp w0 e w') : OkPair n f g kp w0 e w' := by
  obtain ⟨hb, ⟨l, v, _, rfl, ho⟩ | ⟨hn, _⟩⟩ := h
  · exact ⟨_, rfl, hb, ho⟩
  · exact absurd hn hl
def NoPair (w0 : World) (e : Ending) (w' : World) : Prop := ∃ ad : Addr, e = .returned (.tuple #[.slice none 0 0, .iface 60 (.pointer (some ad))]) ∧ Below w0.heap.size w0 w'
theorem no_of {n : Nat} {f g : Nat → ByteArray} {kp : Nat → Bool} {w0 : World} {e : Ending} {w' : World} (hl : lastTo (bsf f) kp n = none) (h : PlainPost n f g kp w0 e w') : NoPair w0 e w' := by
  obtain ⟨hb, ⟨l, v, hs, _⟩ | ⟨_, ad, rfl⟩⟩ := h
  · rw [hl] at hs; cases hs
  · exact ⟨ad, rfl, hb⟩
theorem mno_of {n : Nat} {f g : Nat → ByteArray} {kp : Nat → Bool} {w0 : World} {e : Ending} {w' : World} (hl : lastTo (bsf f) kp n = none) (h : ModelPost n f g kp w0 e w') : e = .returned (.tuple #[.slice none 0 0, .bool false]) ∧ Below w0.heap.size w0 w' := by
  obtain ⟨hb, ⟨l, v, hs, _⟩ | ⟨_, rfl⟩⟩ := h
  · rw [hl] at hs; cases hs
  · exact ⟨rfl, hb⟩
def MokPair (n : Nat) (f g : Nat → ByteArray) (kp : Nat → Bool) (w0 : World) (e : Ending) (w' : World) : Prop := ∃ v, e = .returned (.tuple #[v, .bool true]) ∧ Below w0.heap.size w0 w' ∧ Own w' w0.heap.size v (txt (bsf f) (bsf g) kp n)
theorem mok_of {n : Nat} {f g : Nat → ByteArray} {kp : Nat → Bool} {w0 : World} {e : Ending} {w' : World} (hl : lastTo (bsf f) kp n ≠ none) (h : ModelPost n f g kp w0 e w') : MokPair n f g kp w0 e w' := by
  obtain ⟨hb, ⟨l, v, _, rfl, ho⟩ | ⟨hn, _⟩⟩ := h
  · exact ⟨_, rfl, hb, ho⟩
  · exact absurd hn hl
theorem kinds_sub {n : Nat} {f : Nat → ByteArray} {kp kq : Nat → Bool} (h : ∀ i, i < n → kp i = true → (num (bs (f i))).2 ≠ 2) (hs : ∀ i, kq i = true → kp i = true) : ∀ i, i < n → kq i = true → (num (bs (f i))).2 ≠ 2 := fun i hi hk => h i hi (hs i hk)
theorem kA_sub {kp : Nat → Bool} {ct i : Nat} (h : kA kp ct i = true) : kp i = true := by unfold kA at h; simp at h; exact h.1
theorem kB_sub {kp : Nat → Bool} {ct i : Nat} (h : kB kp ct i = true) : kp i = true := by unfold kB at h; simp at h; exact h.1

/-- The two halves of keep, as the loop has laid them after k rounds. -/
def hA (kp : Nat → Bool) (ct k i : Nat) : Bool := kA kp ct i && decide (i < k)
def hB (kp : Nat → Bool) (ct k i : Nat) : Bool := kB kp ct i && decide (i < k)
theorem hA_zero {kp : Nat → Bool} {ct i : Nat} : hA kp ct 0 i = false := by simp [hA]
theorem hB_zero {kp : Nat → Bool} {ct i : Nat} : hB kp ct 0 i = false := by simp [hB]
theorem hA_other {kp : Nat → Bool} {ct k i : Nat} (h : i ≠ k) : hA kp ct (k + 1) i = hA kp ct k i := by
  unfold hA; congr 1; simp; omega
theorem hB_other {kp : Nat → Bool} {ct k i : Nat} (h : i ≠ k) : hB kp ct (k + 1) i = hB kp ct k i := by
  unfold hB; congr 1; simp; omega
theorem hA_at {kp : Nat → Bool} {ct k : Nat} : hA kp ct (k + 1) k = (kp k && decide (k < ct)) := by simp [hA, kA]
theorem hB_at {kp : Nat → Bool} {ct k : Nat} : hB kp ct (k + 1) k = (kp k && decide (ct ≤ k)) := by simp [hB, kB]
theorem hA_old {kp : Nat → Bool} {ct k : Nat} : hA kp ct k k = false := by simp [hA]
theorem hB_old {kp : Nat → Bool} {ct k : Nat} : hB kp ct k k = false := by simp [hB]
theorem hA_same {kp : Nat → Bool} {ct k : Nat} (h : (kp k && decide (k < ct)) = false) (i : Nat) : hA kp ct k i = hA kp ct (k + 1) i := by
  by_cases e : i = k
  · subst e; rw [hA_at, h, hA_old]
  · rw [hA_other e]
theorem hB_same {kp : Nat → Bool} {ct k : Nat} (h : (kp k && decide (ct ≤ k)) = false) (i : Nat) : hB kp ct k i = hB kp ct (k + 1) i := by
  by_cases e : i = k
  · subst e; rw [hB_at, h, hB_old]
  · rw [hB_other e]
theorem hA_end {kp : Nat → Bool} {ct n i : Nat} (h : i < n) : hA kp ct n i = kA kp ct i := by unfold hA; rw [decide_eq_true h, Bool.and_true]
theorem hB_end {kp : Nat → Bool} {ct n i : Nat} (h : i < n) : hB kp ct n i = kB kp ct i := by unfold hB; rw [decide_eq_true h, Bool.and_true]

theorem join_at (v1 : Value) (l1 : List UInt8) (hl1 : l1.length ≤ 10000000) (g2 o2 n2 c2 : Nat) (l2 : List UInt8) (hn2 : Hid (n2 = l2.length)) (hl2 : n2 ≤ 10000000) (w : World) (h1 : Reads w v1 l1) (h2 : Hid (Lies w g2 o2 l2)) :
    Calls Tryf.prog 13 #[v1, .slice (some ⟨g2, o2, none⟩) n2 c2] w fun e w' => JoinPost l1 l2 w e w' := by
  rcases h1 with ⟨rfl, rfl⟩ | ⟨g, o, cap, rfl, h⟩
  · exact join_none g2 o2 n2 c2 l2 hn2 hl2 w h2
  · exact join_some g o l1.length cap l1 rfl hl1 g2 o2 n2 c2 l2 hn2 hl2 w h h2

theorem reads_below {w w' : World} {v : Value} {l : List UInt8} (h : Reads w v l) (hb : Below w.heap.size w w') : Reads w' v l := by
  rcases h with h | ⟨g, o, cap, h1, h2⟩
  · exact .inl h
  · exact .inr ⟨g, o, cap, h1, fun j hj => keep_cell hb (h2 j hj)⟩

set_option maxRecDepth 40000 in
set_option maxHeartbeats 8000000 in
theorem cut_any (F : Interp) (a b c d : Option Addr) (n1 n2 n3 n4 c1 c2 c3 c4 : Nat) (x : Int) (f g : Nat → ByteArray) (kp : Nat → Bool) (w : World) (hF : F.answers w.tape)
    (hn1 : n1 ≤ 9223372036854775807) (hn2 : n2 ≤ 9223372036854775807) (hn3 : n3 ≤ 9223372036854775807) (hn4 : n4 ≤ 9223372036854775807) (hf : Hid (Strs w a n1 f)) (hg : Hid (Strs w b n2 g)) (hk : Hid (Bits w c n3 kp)) (h0 : Hid (ErrAt w 0)) (h1 : Hid (ErrAt w 1)) :
    Calls Tryf.prog 4 #[.slice a n1 c1, .slice b n2 c2, .slice c n3 c3, .slice d n4 c4, .int .i64 x] w fun e w' => Good w e w' := by
  go_enter Tryf.func4, Tryf.ntmps4
  go_wp2_with fail
  refine (bytes11 a b c d n1 n2 n3 n4 c1 c2 c3 c4 x f g _ hn1 hn2 hn3 hn4 hf.out hg.out).mono ?_
  rintro e w' ⟨bb, rfl, rfl, hfit⟩
  cases bb with
  | false =>
    go_wp2
    go_ret
    exact ⟨rfl, Below.refl _ _⟩
  | true =>
  obtain ⟨hfit1, hfit2⟩ := hfit rfl
  have HF1 := HidC hfit1
  have HF2 := HidC hfit2
  clear hfit hfit1 hfit2
  rcases over16 n1 with ⟨t1, t1'⟩ | ⟨t1, t1'⟩
  · go_wp2
    go_ret
    exact ⟨rfl, Below.refl _ _⟩
  rcases over16 n2 with ⟨t2, t2'⟩ | ⟨t2, t2'⟩
  · go_wp2
    go_ret
    exact ⟨rfl, Below.refl _ _⟩
  rcases over16 n3 with ⟨t3, t3'⟩ | ⟨t3, t3'⟩
  · go_wp2
    go_ret
    exact ⟨rfl, Below.refl _ _⟩
  rcases over16 n4 with ⟨t4, t4'⟩ | ⟨t4, t4'⟩
  · go_wp2
    go_ret
    exact ⟨rfl, Below.refl _ _⟩
  go_wp2_with fail
  refine (scope_any a b c d n1 n2 n3 n4 c1 c2 c3 c4 f g kp _ t1' t2' t3' t4' hf.out hg.out hk.out HF1 HF2).mono ?_
  rintro e w' ⟨bb, rfl, rfl, hsc⟩
  cases bb with
  | false =>
    go_wp2
    go_ret
    exact ⟨rfl, Below.refl _ _⟩
  | true =>
  obtain ⟨rfl, hle, htot, hkind⟩ := hsc rfl
  have HK := HidC hkind
  have HT : Hid (tot f g n2 ≤ 1048576) := by show _ ≤ _; omega
  clear hsc hkind htot t2 t3 t4
  by_cases x0 : x < 0
  · have x0' : decide (x < 0) = true := by simpa using x0
    go_wp2
    go_ret
    exact ⟨rfl, Below.refl _ _⟩
  have x0' : decide (x < 0) = false := by simpa using x0
  by_cases x1 : (n2 : Int) < x
  · have x1' : decide ((n2 : Int) < x) = true := by simpa using x1
    go_wp2
    go_ret
    exact ⟨rfl, Below.refl _ _⟩
  obtain ⟨ct, rfl⟩ : ∃ ct : Nat, x = ct := ⟨x.toNat, by omega⟩
  have hct : ct ≤ n2 := by omega
  have x1' : decide ((n2 : Int) < ct) = false := by simpa using x1
  have x1'' : decide (n2 < ct) = false := by simp; omega
  clear x0 x1
  have hmk := make23 n2 (by omega)
  go_wp2
  clear hmk
  go_loopw [13] (fun i wr => ∃ k : Nat, k ≤ n2 ∧ i = .int .i64 k ∧ Below w.heap.size w wr ∧ Hid (Blk wr w.heap.size 4 n2 (fun i => .bool (hA kp ct k i))) ∧ Hid (Blk wr (w.heap.size + 1) 4 n2 (fun i => .bool (hB kp ct k i)))) (fun i _ => n2 - (intOf i).toNat)
  case atStart =>
    refine ⟨0, Nat.zero_le _, rfl, ((Below.refl _ w).alloc (Nat.le_refl _) _).alloc (by simp) _, ?_, ?_⟩
    · exact blk_congr (blk_alloc (blk_new w 4 n2 (fun _ => .bool false)) _) (fun i _ => by rw [hA_zero])
    · refine blk_congr (f := fun _ => .bool false) ?_ (fun i _ => by rw [hB_zero])
      have h := blk_new (w.alloc (.cells (rowV n2 (fun _ => .bool false)).toArray 4)) 4 n2 (fun _ => .bool false)
      simpa using h
  case round =>
    obtain ⟨k, hkn, rfl, hbl, HA, HB⟩ := hrel
    by_cases hlt : k < n2
    · obtain ⟨gc, rfl, hcc⟩ := hk.out k (by omega)
      have hcc' := keep_cell hbl hcc
      clear hcc
      have hlt3 : (k : Int) < n3 := by omega
      have hlt2 : (k : Int) < n2 := by omega
      cases hkp : kp k with
      | false =>
        rw [hkp] at hcc'
        have HA' : Hid (Blk wr w.heap.size 4 n2 (fun i => .bool (hA kp ct (k + 1) i))) := blk_congr HA.out (fun i _ => by rw [hA_same (by rw [hkp]; rfl)])
        have HB' : Hid (Blk wr (w.heap.size + 1) 4 n2 (fun i => .bool (hB kp ct (k + 1) i))) := blk_congr HB.out (fun i _ => by rw [hB_same (by rw [hkp]; rfl)])
        clear HA HB
        go_wp2
        go_roundw
        case rel => exact ⟨k + 1, by omega, by go_num, hbl, HA', HB'⟩
        case measure => simp [intOf]; omega
      | true =>
        rw [hkp] at hcc'
        by_cases hkc : k < ct
        · have u1 : decide ((k : Int) < ct) = true := by simp; omega
          have u2 : decide (k < ct) = true := by simp; omega
          have q0 := blk_cell HA.out hlt
          have f0 := blk_free HA.out k
          have HA' : Hid (Blk (wr.setCell ⟨w.heap.size, k, none⟩ (.bool true)) w.heap.size 4 n2 (fun i => .bool (hA kp ct (k + 1) i))) :=
            blk_set HA.out (by rw [hA_at, hkp, u2]; rfl) (fun i hi => by rw [hA_other hi])
          have HB' : Hid (Blk (wr.setCell ⟨w.heap.size, k, none⟩ (.bool true)) (w.heap.size + 1) 4 n2 (fun i => .bool (hB kp ct (k + 1) i))) :=
            blk_far (blk_congr HB.out (fun i _ => by rw [hB_same (by rw [decide_eq_false (by omega : ¬ ct ≤ k), Bool.and_false])])) (by simp)
          clear HA HB
          go_wp2
          go_roundw
          case rel => exact ⟨k + 1, by omega, by go_num, hbl.setCell (Nat.le_refl _) _, HA', HB'⟩
          case measure => simp [intOf]; omega
        · have u1 : decide ((k : Int) < ct) = false := by simp; omega
          have u2 : decide (k < ct) = false := by simp; omega
          have q0 := blk_cell HB.out hlt
          have f0 := blk_free HB.out k
          have HA' : Hid (Blk (wr.setCell ⟨w.heap.size + 1, k, none⟩ (.bool true)) w.heap.size 4 n2 (fun i => .bool (hA kp ct (k + 1) i))) :=
            blk_far (blk_congr HA.out (fun i _ => by rw [hA_same (by rw [u2, Bool.and_false])])) (by simp)
          have HB' : Hid (Blk (wr.setCell ⟨w.heap.size + 1, k, none⟩ (.bool true)) (w.heap.size + 1) 4 n2 (fun i => .bool (hB kp ct (k + 1) i))) :=
            blk_set HB.out (by rw [hB_at, hkp, decide_eq_true (by omega : ct ≤ k)]; rfl) (fun i hi => by rw [hB_other hi])
          clear HA HB
          go_wp2
          go_roundw
          case rel => exact ⟨k + 1, by omega, by go_num, hbl.setCell (Nat.le_succ _) _, HA', HB'⟩
          case measure => simp [intOf]; omega
    · obtain rfl : k = n2 := by omega
      have HAE := HidC (bits_blk (blk_congr HA.out (f' := fun i => .bool (kA kp ct i)) (fun i hi => by rw [hA_end hi])))
      have HBE := HidC (bits_blk (blk_congr HB.out (f' := fun i => .bool (kB kp ct i)) (fun i hi => by rw [hB_end hi])))
      clear HA HB
      have HS1 := HidC (strs_below hf.out hbl)
      have HS2 := HidC (strs_below hg.out hbl)
      have HS3 := HidC (bits_below hk.out hbl)
      have E0 := HidC (errAt_below h0.out hbl)
      have E1 := HidC (errAt_below h1.out hbl)
      clear hf hg hk h0 h1
      go_wp2_with fail
      refine (file_any a b d k c1 c2 n4 c4 f g _ t1' HS1.out HS2.out).mono ?_
      rintro e w1 ⟨rfl, hb1, HB⟩
      have hb2 := hb1.alloc hb1.size (.cells #[.slice (some ⟨wr.heap.size + 1, 0, none⟩) k k, .pointer none, .slice d n4 c4, .slice none 0 0] 30 (0, 0))
      have ENV : Hid (Env a b c d k n3 n4 c4 f g kp ct w.heap.size (wr.heap.size + 1) w1.heap.size (w1.alloc (.cells #[.slice (some ⟨wr.heap.size + 1, 0, none⟩) k k, .pointer none, .slice d n4 c4, .slice none 0 0] 30 (0, 0)))) :=
        ⟨strs_below HS1.out hb2, strs_below HS2.out hb2, bits_below HS3.out hb2, bits_below HAE.out hb2, bits_below HBE.out hb2, blk_alloc HB _, errAt_below E0.out hb2, errAt_below E1.out hb2, heap_alloc_new w1 _⟩
      have hB2 := hbl.trans (hb2.mono hbl.size)
      clear HAE HBE HS1 HS2 HS3 E0 E1 HB hb1 hb2
      obtain ⟨w2, hw2⟩ : ∃ w2, w2 = w1.alloc (.cells #[.slice (some ⟨wr.heap.size + 1, 0, none⟩) k k, .pointer none, .slice d n4 c4, .slice none 0 0] 30 (0, 0)) := ⟨_, rfl⟩
      go_wp2_with fail
      rw [← hw2] at ENV hB2 ⊢
      clear hw2
      have HKA := HidC (kinds_sub HK.out (fun i => kA_sub (ct := ct) (i := i)))
      have HKB := HidC (kinds_sub HK.out (fun i => kB_sub (ct := ct) (i := i)))
      have hF2 : F.answers w2.tape := by rw [hB2.tape]; exact hF
      cases hLn : lastTo (bsf f) kp k with
      | none =>
        have HLn := HidC hLn
        clear hLn
        refine (plain_any F _ k n3 c3 n4 c4 c d f g kp w2 hF2 t1' hle t3' ENV.out.2.2.2.2.2.1 ENV.out.2.2.1 HF1 HF2 HT HK ENV.out.2.2.2.2.2.2.1 ENV.out.2.2.2.2.2.2.2.1).mono fun e w3 hp => ?_
        obtain ⟨ad, rfl, hb3⟩ := no_of HLn.out hp
        clear hp
        have ENV3 := HidC (env_below ENV.out hb3)
        have hB3 := hB2.trans (hb3.mono hB2.size)
        have hF3 : F.answers w3.tape := by rw [hB3.tape]; exact hF
        clear ENV hB2 hF2 hb3
        have q0 := env_cell ENV3.out 0 rfl
        have q1 := env_cell ENV3.out 1 rfl
        have q2 := env_cell ENV3.out 2 rfl
        have q3 := env_cell ENV3.out 3 rfl
        go_wp2_with fail
        refine (plain_any F _ k k k n4 c4 _ d f g (kA kp ct) w3 hF3 t1' (Nat.le_refl _) t1' ENV3.out.2.2.2.2.2.1 ENV3.out.2.2.2.1 HF1 HF2 HT HKA ENV3.out.2.2.2.2.2.2.1 ENV3.out.2.2.2.2.2.2.2.1).mono fun e w4 hp => ?_
        obtain ⟨v4, err4, rfl, hb4⟩ := some_of hp
        clear hp q0 q1 q2 q3
        have ENV4 := HidC (env_below ENV3.out hb4)
        have hB4 := hB3.trans (hb4.mono hB3.size)
        have hF4 : F.answers w4.tape := by rw [hB4.tape]; exact hF
        clear ENV3 hB3 hF3 hb4
        have q0 := env_cell ENV4.out 0 rfl
        have q1 := env_cell ENV4.out 1 rfl
        have q2 := env_cell ENV4.out 2 rfl
        have q3 := env_cell ENV4.out 3 rfl
        go_wp2_with fail
        refine (plain_any F _ k k k n4 c4 _ d f g (kB kp ct) w4 hF4 t1' (Nat.le_refl _) t1' ENV4.out.2.2.2.2.2.1 ENV4.out.2.2.2.2.1 HF1 HF2 HT HKB ENV4.out.2.2.2.2.2.2.1 ENV4.out.2.2.2.2.2.2.2.1).mono fun e w5 hp => ?_
        obtain ⟨v5, err5, rfl, hb5⟩ := some_of hp
        clear hp q0 q1 q2 q3
        have ENV5 := HidC (env_below ENV4.out hb5)
        have hB5 := hB4.trans (hb5.mono hB4.size)
        clear ENV4 hB4 hF4 hb5
        go_wp2_with fail
        refine (model_any a b c k c1 c2 n3 c3 f g kp w5 t1' hle t3' ENV5.out.1 ENV5.out.2.1 ENV5.out.2.2.1 HF1 HF2 HT).mono fun e w6 hp => ?_
        obtain ⟨rfl, hb6⟩ := mno_of HLn.out hp
        clear hp
        go_wp2
        go_ret
        exact ⟨rfl, hB5.trans (hb6.mono hB5.size)⟩
      | some l =>
        obtain ⟨L, hL, hAn, hAt, hsp⟩ := splice (cm := bsf g) hLn hct
        have HLn := HidC hLn
        have HL := HidC hL
        have HAt := HidC hAt
        have HAn : Hid (lastTo (bsf f) (kA kp ct) k ≠ none) := by show _ ≠ _; rw [hAn]; simp
        have HBn : Hid (lastTo (bsf f) (kB kp ct) k ≠ none) := by
          rcases hsp with ⟨_, h, _⟩ | ⟨r, _, h, _⟩
          · exact h
          · exact h
        have HPn : Hid (lastTo (bsf f) kp k ≠ none) := by show _ ≠ _; rw [hLn]; simp
        have HSP := HidC hsp
        have hL16 := lastTo_le _ _ hL
        have HLF : Hid ((txt (bsf f) (bsf g) kp k).length ≤ 2000000) := by
          have h3 := txt_len (g := g) k l hLn
          have h4 := lastTo_le _ _ hLn
          have h5 := HT.out
          show _ ≤ _
          omega
        clear hLn hL hAn hAt hsp
        refine (plain_any F _ k n3 c3 n4 c4 c d f g kp w2 hF2 t1' hle t3' ENV.out.2.2.2.2.2.1 ENV.out.2.2.1 HF1 HF2 HT HK ENV.out.2.2.2.2.2.2.1 ENV.out.2.2.2.2.2.2.2.1).mono fun e w3 hp => ?_
        obtain ⟨vF, rfl, hb3, ho⟩ := ok_of HPn.out hp
        clear hp
        have OF3 := HidC (reads_own ho.1)
        have ENV3 := HidC (env_below ENV.out hb3)
        have hB3 := hB2.trans (hb3.mono hB2.size)
        have hF3 : F.answers w3.tape := by rw [hB3.tape]; exact hF
        clear ENV hB2 hF2 hb3 ho
        have q0 := env_cell ENV3.out 0 rfl
        have q1 := env_cell ENV3.out 1 rfl
        have q2 := env_cell ENV3.out 2 rfl
        have q3 := env_cell ENV3.out 3 rfl
        go_wp2_with fail
        refine (plain_any F _ k k k n4 c4 _ d f g (kA kp ct) w3 hF3 t1' (Nat.le_refl _) t1' ENV3.out.2.2.2.2.2.1 ENV3.out.2.2.2.1 HF1 HF2 HT HKA ENV3.out.2.2.2.2.2.2.1 ENV3.out.2.2.2.2.2.2.2.1).mono fun e w4 hp => ?_
        obtain ⟨vP, rfl, hb4, ho⟩ := ok_of HAn.out hp
        clear hp q0 q1 q2 q3
        rw [HAt.out] at ho
        have OF4 := HidC (reads_below OF3.out hb4)
        have OP4 := HidC ho
        have ENV4 := HidC (env_below ENV3.out hb4)
        have hB4 := hB3.trans (hb4.mono hB3.size)
        have hF4 : F.answers w4.tape := by rw [hB4.tape]; exact hF
        clear ENV3 hB3 hF3 hb4 OF3 ho
        have q0 := env_cell ENV4.out 0 rfl
        have q1 := env_cell ENV4.out 1 rfl
        have q2 := env_cell ENV4.out 2 rfl
        have q3 := env_cell ENV4.out 3 rfl
        go_wp2_with fail
        refine (plain_any F _ k k k n4 c4 _ d f g (kB kp ct) w4 hF4 t1' (Nat.le_refl _) t1' ENV4.out.2.2.2.2.2.1 ENV4.out.2.2.2.2.1 HF1 HF2 HT HKB ENV4.out.2.2.2.2.2.2.1 ENV4.out.2.2.2.2.2.2.2.1).mono fun e w5 hp => ?_
        obtain ⟨vS, rfl, hb5, ho⟩ := ok_of HBn.out hp
        clear hp q0 q1 q2 q3
        have OF5 := HidC (reads_below OF4.out hb5)
        have OP5 := HidC (own_below OP4.out hb5)
        have OS5 := HidC ho
        have ENV5 := HidC (env_below ENV4.out hb5)
        have hB5 := hB4.trans (hb5.mono hB4.size)
        clear ENV4 hB4 hF4 hb5 OF4 OP4 ho
        go_wp2_with fail
        refine (model_any a b c k c1 c2 n3 c3 f g kp w5 t1' hle t3' ENV5.out.1 ENV5.out.2.1 ENV5.out.2.2.1 HF1 HF2 HT).mono fun e w6 hp => ?_
        obtain ⟨vW, rfl, hb6, ho⟩ := mok_of HPn.out hp
        clear hp
        have OF6 := HidC (reads_below OF5.out hb6)
        have OP6 := HidC (own_below OP5.out hb6)
        have OS6 := HidC (own_below OS5.out hb6)
        have OW6 := HidC (reads_own ho.1)
        have ENV6 := HidC (env_below ENV5.out hb6)
        have hB6 := hB5.trans (hb6.mono hB5.size)
        clear ENV5 hB5 hb6 OF5 OP5 OS5 ho
        go_wp2_with fail
        refine (same_any w6 _ _ _ (Nat.le_trans HLF.out (by decide)) OF6.out OW6.out).mono ?_
        rintro e w7 ⟨rfl, qq, hqq⟩
        have hb7 : Below w6.heap.size w6 w7 := by rw [← hqq]; exact ⟨rfl, rfl, rfl, Nat.le_refl _, fun _ _ => rfl⟩
        have OF7 := HidC (reads_below OF6.out hb7)
        have OP7 := HidC (own_below OP6.out hb7)
        have OS7 := HidC (own_below OS6.out hb7)
        have ENV7 := HidC (env_below ENV6.out hb7)
        have hB7 := hB6.trans (hb7.mono hB6.size)
        clear hqq hb7 OF6 OP6 OS6 OW6 ENV6 hB6
        go_wp2
        go_loop [23, 24] (fun la i => ∃ j m : Nat, j ≤ ct ∧ m ≤ 65536 ∧ i = .int .i64 j ∧ la = .int .i64 m ∧ Hid (lastTo (bsf f) kp j = some m)) (fun _ i => ct - (intOf i).toNat)
        case atStart => exact ⟨0, 0, Nat.zero_le _, Nat.zero_le _, rfl, rfl, rfl⟩
        case round =>
          obtain ⟨j, m, hj, hm, rfl, rfl, HJ⟩ := hrel
          by_cases hjc : j < ct
          · have u1 : decide ((j : Int) < ct) = true := by simp; omega
            have u2 : decide (j < ct) = true := by simp; omega
            obtain ⟨gc, rfl, hcc⟩ := ENV7.out.2.2.1 j (by omega)
            obtain ⟨ga, rfl, hca, _⟩ := ENV7.out.1 j (by omega)
            have hlt3 : (j : Int) < n3 := by omega
            have hlt2 : (j : Int) < k := by omega
            have hsz := HF1.out j (by omega)
            cases hkp : kp j with
            | false =>
              rw [hkp] at hcc
              go_wp2
              go_round
              case rel => exact ⟨j + 1, m, by omega, hm, by go_num, rfl, lastTo_skip HJ.out hkp⟩
              case measure => simp [intOf]; omega
            | true =>
              rw [hkp] at hcc
              obtain ⟨m1, hm1⟩ := lastTo_some HLn.out (k := j + 1) (by omega)
              have HM1 := HidC hm1
              have hnum : Hid (num (bs (f j)) = (m1, 1)) := (step_of hm1 hkp HJ.out).1
              have hm16 := lastTo_le _ _ hm1
              clear hm1
              go_wp2_with (go_at_call 12; refine (num_any (f j) _ hsz m1 1 hnum).mono ?_; rintro e w' ⟨rfl, rfl⟩)
              go_round
              case rel => exact ⟨j + 1, m1, by omega, hm16, by go_num, rfl, HM1⟩
              case measure => simp [intOf]; omega
          · obtain rfl : j = ct := by omega
            obtain rfl : m = L := by
              have := HJ.out.symm.trans HL.out
              exact Option.some.inj this
            have u1 : decide ((j : Int) < j) = false := by simp
            rcases HSP.out with ⟨hs, _, hpf⟩ | ⟨r, hr, _, hs, hpf⟩
            · have e1 := OS7.out.2 hs
              subst e1
              have OF8 := HidC (hpf ▸ OF7.out)
              have OP8 := HidC (reads_own OP7.out.1)
              have HLF8 : Hid ((txt (bsf f) (bsf g) kp j).length ≤ 2000000) := hpf ▸ HLF.out
              clear hs hpf HSP OS7 OF7 OP7 HLF
              go_wp2_with fail
              refine (same_any w7 _ _ _ (Nat.le_trans HLF8.out (by decide)) OF8.out OP8.out).mono ?_
              rintro e w8 ⟨rfl, q8, hq8⟩
              have hb8 : Below w7.heap.size w7 w8 := by rw [← hq8]; exact ⟨rfl, rfl, rfl, Nat.le_refl _, fun _ _ => rfl⟩
              clear hq8
              go_wp2
              go_ret
              exact ⟨rfl, hB7.trans (hb8.mono hB7.size)⟩
            · have hpos : 0 < (txt (bsf f) (bsf g) (kB kp j) k).length := by
                rw [hs, List.length_append]
                cases r with
                | nil => exact absurd rfl hr
                | cons x y => simp; omega
              obtain ⟨g3, cap3, e3, _, _⟩ := OS7.out.1.form hpos
              obtain ⟨rl, hrl⟩ : ∃ rl, rl = r.length := ⟨_, rfl⟩
              have hr0 : 0 < rl := by
                rw [hrl]
                cases r with
                | nil => exact absurd rfl hr
                | cons x y => simp
              have e3' : (txt (bsf f) (bsf g) (kB kp j) k).length = m + rl := by rw [hs, List.length_append, List.length_replicate, hrl]
              obtain ⟨ms, hms⟩ : ∃ ms, ms = m + rl := ⟨_, rfl⟩
              rw [← hms] at e3'
              rw [e3'] at e3
              subst e3
              have hcap : ms ≤ cap3 := by
                rcases OS7.out.1.2 with ⟨h, _⟩ | ⟨g', cap', cur, h, _, _, hle', _⟩
                · simp at h
                · simp only [Value.slice.injEq] at h
                  omega
              have hrl2 : rl ≤ 2000000 := by
                have := HLF.out
                rw [hpf, List.length_append] at this
                omega
              have hpl : Hid ((txt (bsf f) (bsf g) kp j).length ≤ 2000000) := by
                have := HLF.out
                rw [hpf, List.length_append] at this
                show _ ≤ _
                omega
              have HC := HidC (own_cells OS7.out.1 e3'.symm)
              have HS0 := HidC hs
              have HPF := HidC hpf
              have HRL := HidC hrl
              clear hs hpf hrl e3' hpos hr HSP
              have v0 : ((ms : Int) == 0) = false := by simp; omega
              have v1 : decide ((ms : Int) < m) = false := by simp; omega
              have v2 : decide (ms < m) = false := by simp; omega
              go_wp2
              go_loop [27] (fun i => ∃ y : Nat, y ≤ m ∧ i = .int .i64 y) (fun i => m - (intOf i).toNat)
              case atStart => exact ⟨0, Nat.zero_le _, rfl⟩
              case round =>
                obtain ⟨y, hy, rfl⟩ := hrel
                by_cases hym : y < m
                · have hcy : w7.cell? ⟨g3, y, none⟩ = some (.int .u8 10) := by
                    have h3 := HC.out y (by omega)
                    rw [Nat.zero_add, HS0.out, List.getD, List.getElem?_append_left (by rw [List.length_replicate]; exact hym), List.getElem?_replicate, if_pos hym] at h3
                    exact h3
                  have hym2 : (y : Int) < ms := by omega
                  go_wp2
                  go_round
                  case rel => exact ⟨y + 1, by omega, by go_num⟩
                  case measure => simp [intOf]; omega
                · obtain rfl : y = m := by omega
                  have z1 : (y : Int) ≤ ms := by omega
                  have z2 : (ms : Int) ≤ cap3 := by omega
                  have HLI : Hid (Lies w7 g3 y r) := by
                    intro q hq
                    have h3 := HC.out (y + q) (by have := HRL.out; omega)
                    rw [Nat.zero_add, HS0.out, List.getD, List.getElem?_append_right (by rw [List.length_replicate]; omega), List.length_replicate, Nat.add_sub_cancel_left] at h3
                    exact h3
                  go_wp2_with fail
                  refine (join_at vP _ (Nat.le_trans hpl.out (by decide)) g3 y rl (cap3 - y) r HRL (by omega) w7 (reads_own OP7.out.1) HLI).mono ?_
                  rintro e w8 ⟨vJ, rfl, hb8, hRJ⟩
                  rw [← HPF.out] at hRJ
                  have OJ8 := HidC hRJ
                  have OF8 := HidC (reads_below OF7.out hb8)
                  have hB8 := hB7.trans (hb8.mono hB7.size)
                  clear hRJ hb8 hB7 OF7 OP7
                  go_wp2_with fail
                  refine (same_any w8 _ _ _ (Nat.le_trans HLF.out (by decide)) OF8.out OJ8.out).mono ?_
                  rintro e w9 ⟨rfl, q9, hq9⟩
                  have hb9 : Below w8.heap.size w8 w9 := by rw [← hq9]; exact ⟨rfl, rfl, rfl, Nat.le_refl _, fun _ _ => rfl⟩
                  clear hq9
                  go_wp2
                  go_ret
                  exact ⟨rfl, hB8.trans (hb9.mono hB8.size)⟩
end Go.Proofs.Qxb6629031aFmt
