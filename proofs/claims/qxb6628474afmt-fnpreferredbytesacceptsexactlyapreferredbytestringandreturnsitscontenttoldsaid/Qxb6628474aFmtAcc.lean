/-
  The walk of FnPreferredBytesAcceptsExactlyAPreferredByteStringAndReturnsItsContent.
-/
import Derived.Test.Qxb6628474aFmtPre
namespace Go.Proofs.Qxb6628474aFmt
open Go.RowKit Go.Extern.Stop Go.Stop Go.Extern
set_option linter.unusedVariables false

theorem headLen_at (k h : Nat) (w : World) (hk : k < 5) (hh : Hid (h = hl k)) : Calls Tryf.prog 7 #[.int .i64 k] w fun e w' => e = .returned (.int .i64 h) ∧ w = w' := by
  rw [hh.out]; exact headLen_any k w hk
theorem prefHead_at (n : Int) (ps : List Int) (m : Nat) (w : World) (h0 : 0 ≤ n) (h1 : n ≤ 2000000) (hp : Hid (ps = ph n)) (hm : Hid (m = ps.length)) :
    Calls Tryf.prog 8 #[.int .i64 n] w fun e w' => e = .returned (.slice (some ⟨w.heap.size, 0, none⟩) m m) ∧ Row w' w.heap.size ps ∧ Below w.heap.size w w' ∧ w.heap.size < w'.heap.size := by
  rw [hm.out, hp.out]; exact prefHead_any n w h0 h1

theorem acc_out (a : Option Addr) (len cap : Nat) (nm : ByteArray) (w : World) (h1 : 1048576 < len + nm.size) (hl : len ≤ maxLen) :
    Calls Tryf.prog 3 #[.slice a len cap, .string nm] w fun e w' => e = .returned (.bool true) ∧ Below w.heap.size w w' := by
  go_enter Tryf.func3, Tryf.ntmps3
  go_wp2_with (go_at_call 5; refine (bytes5_out _ _ _ _ _ h1 hl).mono ?_; rintro e w' ⟨rfl, rfl⟩)
  go_ret
  exact ⟨rfl, Below.refl _ _⟩

theorem hl_pos (k : Nat) : 1 ≤ hl k := by unfold hl; split <;> omega
theorem hl_le (k : Nat) : hl k ≤ 9 := by unfold hl; split <;> omega

set_option maxHeartbeats 1000000 in
theorem acc_none (F : Interp) (nm : ByteArray) (w : World) (hF : F.answers w.tape) (h : nm.size ≤ 1048576) :
    Calls Tryf.prog 3 #[.slice none 0 0, .string nm] w fun e w' => e = .returned (.bool true) ∧ Below w.heap.size w w' := by
  have hne := fun W => run_neq_slice_nil_any (P := Tryf.prog) W 22 5 none 0 0 0 0 Tryf.underlying22
  have h3 : decide ((1048576 : Int) < nm.size) = false := by simp; omega
  go_enter Tryf.func3, Tryf.ntmps3
  go_wp2_with (first
    | (go_at_call 5; refine (bytes5_in _ _ _ _ _ (by omega)).mono ?_; rintro e w' ⟨rfl, rfl⟩)
    | (go_at_call 6; refine (pref_empty F _ _ _ _ (by exact hF)).mono ?_; rintro e w1 ⟨hB1, ad1, rfl⟩))
  go_loop [8, 9] (fun v i => ∃ k : Nat, k ≤ 5 ∧ i = .int .i64 k ∧ v = .int .i64 (-1)) (fun _ i => 5 - (intOf i).toNat)
  case atStart => exact ⟨0, Nat.zero_le _, rfl, rfl⟩
  case round =>
    obtain ⟨k, hk, rfl, rfl⟩ := hrel
    by_cases hlt : k < 5
    · obtain ⟨h9, hh⟩ : ∃ h9, h9 = hl k := ⟨_, rfl⟩
      have hp : 0 < h9 := by rw [hh]; exact hl_pos k
      have hp9 : h9 ≤ 9 := by rw [hh]; exact hl_le k
      have HH : Hid (h9 = hl k) := hh
      clear hh
      go_wp2_with (go_at_call 7; refine (headLen_at k h9 _ hlt HH).mono ?_; rintro e w' ⟨rfl, rfl⟩)
      go_round
      case rel => exact ⟨k + 1, by omega, by go_num, rfl⟩
      case measure => simp [intOf]; omega
    · go_wp2
      go_ret
      exact ⟨rfl, hB1⟩

set_option maxHeartbeats 2000000 in
theorem acc_no (F : Interp) (zs : List Int) (ad : Addr) (cap : Nat) (nm : ByteArray) (w : World) (hF : F.answers w.tape) (hb : Bytes zs) (h : zs.length + nm.size ≤ 1048576)
    (hc : ∀ j v, (u8s zs)[j]? = some v → w.cell? (ad.add j) = some v) (hpb : pb zs = none) :
    Calls Tryf.prog 3 #[.slice (some ad) zs.length cap, .string nm] w fun e w' => e = .returned (.bool true) ∧ Below w.heap.size w w' := by
  obtain ⟨n, hn⟩ : ∃ n, n = zs.length := ⟨_, rfl⟩
  have Hn : Hid (n = zs.length) := hn
  rw [← hn] at h ⊢
  clear hn
  have HP : Hid (pb zs = none) := hpb
  clear hpb
  have hne := fun W => run_neq_slice_nil_any (P := Tryf.prog) W 22 5 (some ad) n cap 0 0 Tryf.underlying22
  have h3 : decide (1048576 - (n : Int) < nm.size) = false := by simp; omega
  have h6 : decide ((1048576 : Int) < n) = false := by simp; omega
  obtain ⟨i0, hi, hz0, hz1, hz2⟩ := info_parts info5
  obtain ⟨X, hX⟩ : ∃ X, X = u8s zs := ⟨_, rfl⟩
  have HX : Hid (X = u8s zs) := hX
  have hXl : X.length = n := by rw [hX, Hn.out]; simp [u8s]
  have HXl : Hid (X.length = n) := hXl
  rw [← hX] at hc
  clear hX hXl
  go_enter Tryf.func3, Tryf.ntmps3
  go_wp2_with (first
    | (go_at_call 5; refine (bytes5_in _ _ _ _ _ (by omega)).mono ?_; rintro e w' ⟨rfl, rfl⟩)
    | (at_make; refine wpList_make_row _ rfl _ _ 22 rfl 5 i0 (.int .u8 0) Tryf.underlying22 hi hz0 hz1 rfl .i64 .i64 n rfl rfl (by rw [hz2]; omega) (by omega) ?_)
    | (refine wpList_copy_splice (by rfl) (.tmp 30) (.tmp 31) 22 22 (by rfl) 5 Tryf.underlying22 size5 _ _ _ _ _ _ (by rfl) (by rfl) w.heap.size 0 (madeCells #[.int .u8 0] n).toList 5 (made_new w _ n 5) X (by rw [HXl.out]; simp) (fun _ => ⟨rfl, ad, rfl, fun j v hv => cell_later ((Below.refl _ w).alloc (Nat.le_refl _) _) (hc j v hv)⟩) (by rw [HXl.out]; simp [size_madeCells]) (by rw [HX.out]; exact u8s_one) w.heap.size w ((Below.refl _ w).alloc (Nat.le_refl _) _) (Nat.le_refl _) ?_))
  intro w2 HG2 hB2
  have R2 : Hid (w2.heap[w.heap.size]? = some (.cells (u8s zs).toArray 5 (0, 0))) := by
    show _ = _
    rw [HG2.out, splice_all _ _ (by rw [HXl.out]; simp [size_madeCells]), HX.out]
  have hs2 : w.heap.size < w2.heap.size := lt_of_block R2.out
  clear HG2 hc hne HXl HX
  have hF2 : F.answers w2.tape := by rw [hB2.tape]; exact hF
  obtain ⟨g, hg⟩ : ∃ g, g = w.heap.size := ⟨_, rfl⟩
  have HW : Hid (g = w.heap.size) := hg
  have r2 : Hid (Row w2 g zs) := by rw [hg]; exact row_of_block R2.out
  rw [← hg] at hs2 ⊢
  clear R2 hF hg
  have ho : Over w2 (some ⟨g, 0, none⟩) zs := fun _ => ⟨g, rfl, r2.out, hs2⟩
  go_wp2_with fail
  refine (pref_at F zs _ n nm w2 hF2 hb Hn (by omega) ho).mono ?_
  rintro e w5 ⟨hB5, hres1⟩
  clear ho hF2
  have r5 : Hid (Row w5 g zs) := row_below r2.out hB5 hs2
  have hs5 : g < w5.heap.size := Nat.lt_of_lt_of_le hs2 hB5.size
  have hB : Below g w w5 := by rw [HW.out]; exact hB2.trans (hB5.mono hB2.size)
  clear r2 hs2
  clear hB5 hB2
  obtain ⟨ad1, rfl⟩ : ∃ ad : Addr, e = .returned (.tuple #[.slice none 0 0, .iface 45 (.pointer (some ad))]) := by
    rcases hres1 with ⟨h1, off1, g1, p1, _⟩ | ⟨_, q⟩
    · rw [HP.out] at p1; cases p1
    · exact q
  clear hres1
  go_wp2_with fail
  go_loopw [8, 9] (fun v i wr => ∃ k : Nat, k ≤ 5 ∧ i = .int .i64 k ∧ v = .int .i64 (-1) ∧ Below w5.heap.size w5 wr ∧ Hid (∀ j, j < k → ¬ Good zs (hl j))) (fun _ i _ => 5 - (intOf i).toNat)
  case atStart => exact ⟨0, Nat.zero_le _, rfl, rfl, Below.refl _ _, fun j hj => absurd hj (by omega)⟩
  case round =>
    obtain ⟨k, hk, rfl, rfl, hbr, HN⟩ := hrel
    by_cases hlt : k < 5
    · obtain ⟨h9, hh⟩ : ∃ h9, h9 = hl k := ⟨_, rfl⟩
      have hp : 0 < h9 := by rw [hh]; exact hl_pos k
      have hp9 : h9 ≤ 9 := by rw [hh]; exact hl_le k
      have HH : Hid (h9 = hl k) := hh
      clear hh
      have next : ¬ Good zs h9 → Hid (∀ j, j < k + 1 → ¬ Good zs (hl j)) := fun hno j hj => by
        by_cases hjk : j < k
        · exact HN.out j hjk
        · obtain rfl : j = k := by omega
          rw [← HH.out]; exact hno
      by_cases hle : h9 ≤ n
      · obtain ⟨ps, hps⟩ : ∃ ps, ps = ph ((n : Int) - h9) := ⟨_, rfl⟩
        have HPS : Hid (ps = ph ((n : Int) - h9)) := hps
        clear hps
        obtain ⟨m, hm⟩ : ∃ m, m = ps.length := ⟨_, rfl⟩
        have HM : Hid (m = ps.length) := hm
        have hm5 : m ≤ 5 := by rw [hm, HPS.out]; exact ph_length _
        clear hm
        by_cases hmh : m = h9
        · have hmt : ((m : Int) == h9) = true := by simp; omega
          have HMH : Hid (m = h9) := hmh
          clear hmh
          have NX : Hid (¬ Good zs h9 → Hid (∀ j, j < k + 1 → ¬ Good zs (hl j))) := next
          clear next
          go_wp2_with (first
            | (go_at_call 7; refine (headLen_at k h9 _ hlt HH).mono ?_; rintro e w' ⟨rfl, rfl⟩)
            | (go_at_call 8; refine (prefHead_at _ ps m _ (by omega) (by omega) HPS HM).mono ?_; rintro e w6 ⟨rfl, hr6, hB6, hs6⟩))
          have hb6 : Below w5.heap.size w5 w6 := hbr.trans (hB6.mono hbr.size)
          have r6 : Row w6 g zs := row_below r5.out hb6 hs5
          refine (has_any zs ps g wr.heap.size n m n m w6 (by omega) (by have := HMH.out; omega) (fun k hk => r6 k (by rw [← Hn.out]; exact hk)) (fun k hk => hr6 k (by rw [← HM.out]; exact hk))).mono ?_
          rintro e w7 ⟨b, rfl, hbb, kk, rfl⟩
          have hbg : b = true → Good zs h9 := fun hb' => by
            unfold Good
            rw [← Hn.out, ← HPS.out]
            exact ⟨hle, by rw [← HM.out]; exact HMH.out, fun j hj => hbb.1 hb' j (by rw [HMH.out]; exact hj)⟩
          have hbn : b = false → ¬ Good zs h9 := fun hb' hg => by
            unfold Good at hg
            rw [← Hn.out, ← HPS.out] at hg
            have := hbb.2 (fun j hj => hg.2.2 j (by rw [← HMH.out]; exact hj))
            rw [hb'] at this; cases this
          have r7 : Hid (Row (w6.drewN kk) g zs) := r6
          clear hbb r6 hr6
          cases b with
          | true =>
            have HG : Hid (Good zs h9) := hbg rfl
            clear hbg hbn NX HN
            have := good_pb hb (by rw [← Hn.out]; omega) HG.out
            rw [HP.out] at this
            cases this
          | false =>
            have HN' : Hid (∀ j, j < k + 1 → ¬ Good zs (hl j)) := NX.out (hbn rfl)
            clear hbg hbn NX HN
            go_wp2
            go_roundw
            case rel => exact ⟨k + 1, by omega, by go_num, rfl, below_drewN hb6 _, HN'⟩
            case measure => simp [intOf]; omega
        · have hmt : ((m : Int) == h9) = false := by simp; omega
          have HN' : Hid (∀ j, j < k + 1 → ¬ Good zs (hl j)) := next (fun hg => hmh (by
            have := hg.2.1
            rw [← Hn.out, ← HPS.out, ← HM.out] at this
            exact this))
          clear next hmh HN
          go_wp2_with (first
            | (go_at_call 7; refine (headLen_at k h9 _ hlt HH).mono ?_; rintro e w' ⟨rfl, rfl⟩)
            | (go_at_call 8; refine (prefHead_at _ ps m _ (by omega) (by omega) HPS HM).mono ?_; rintro e w6 ⟨rfl, hr6, hB6, hs6⟩))
          go_roundw
          case rel => exact ⟨k + 1, by omega, by go_num, rfl, hbr.trans (hB6.mono hbr.size), HN'⟩
          case measure => simp [intOf]; omega
      · have HN' : Hid (∀ j, j < k + 1 → ¬ Good zs (hl j)) := next (fun hg => hle (by have := hg.1; rw [← Hn.out] at this; exact this))
        clear next HN
        go_wp2_with (go_at_call 7; refine (headLen_at k h9 _ hlt HH).mono ?_; rintro e w' ⟨rfl, rfl⟩)
        go_roundw
        case rel => exact ⟨k + 1, by omega, by go_num, rfl, hbr, HN'⟩
        case measure => simp [intOf]; omega
    · obtain rfl : k = 5 := by omega
      have none : pb zs = none := pb_none hb (by rw [← Hn.out]; omega) HN.out
      clear none HN
      go_wp2
      go_ret
      exact ⟨rfl, by rw [← HW.out]; exact hB.trans (hbr.mono (by omega))⟩

set_option maxHeartbeats 2000000 in
theorem acc_yes (F : Interp) (zs : List Int) (ad : Addr) (cap : Nat) (nm : ByteArray) (w : World) (hF : F.answers w.tape) (hb : Bytes zs) (h : zs.length + nm.size ≤ 1048576)
    (hc : ∀ j v, (u8s zs)[j]? = some v → w.cell? (ad.add j) = some v) (h0 : Nat) (hpb : pb zs = some h0) :
    Calls Tryf.prog 3 #[.slice (some ad) zs.length cap, .string nm] w fun e w' => e = .returned (.bool true) ∧ Below w.heap.size w w' := by
  obtain ⟨n, hn⟩ : ∃ n, n = zs.length := ⟨_, rfl⟩
  have Hn : Hid (n = zs.length) := hn
  rw [← hn] at h ⊢
  clear hn
  have HP : Hid (pb zs = some h0) := hpb
  clear hpb
  have hne := fun W => run_neq_slice_nil_any (P := Tryf.prog) W 22 5 (some ad) n cap 0 0 Tryf.underlying22
  have h3 : decide (1048576 - (n : Int) < nm.size) = false := by simp; omega
  have h6 : decide ((1048576 : Int) < n) = false := by simp; omega
  obtain ⟨i0, hi, hz0, hz1, hz2⟩ := info_parts info5
  obtain ⟨X, hX⟩ : ∃ X, X = u8s zs := ⟨_, rfl⟩
  have HX : Hid (X = u8s zs) := hX
  have hXl : X.length = n := by rw [hX, Hn.out]; simp [u8s]
  have HXl : Hid (X.length = n) := hXl
  rw [← hX] at hc
  clear hX hXl
  go_enter Tryf.func3, Tryf.ntmps3
  go_wp2_with (first
    | (go_at_call 5; refine (bytes5_in _ _ _ _ _ (by omega)).mono ?_; rintro e w' ⟨rfl, rfl⟩)
    | (at_make; refine wpList_make_row _ rfl _ _ 22 rfl 5 i0 (.int .u8 0) Tryf.underlying22 hi hz0 hz1 rfl .i64 .i64 n rfl rfl (by rw [hz2]; omega) (by omega) ?_)
    | (refine wpList_copy_splice (by rfl) (.tmp 30) (.tmp 31) 22 22 (by rfl) 5 Tryf.underlying22 size5 _ _ _ _ _ _ (by rfl) (by rfl) w.heap.size 0 (madeCells #[.int .u8 0] n).toList 5 (made_new w _ n 5) X (by rw [HXl.out]; simp) (fun _ => ⟨rfl, ad, rfl, fun j v hv => cell_later ((Below.refl _ w).alloc (Nat.le_refl _) _) (hc j v hv)⟩) (by rw [HXl.out]; simp [size_madeCells]) (by rw [HX.out]; exact u8s_one) w.heap.size w ((Below.refl _ w).alloc (Nat.le_refl _) _) (Nat.le_refl _) ?_))
  intro w2 HG2 hB2
  have R2 : Hid (w2.heap[w.heap.size]? = some (.cells (u8s zs).toArray 5 (0, 0))) := by
    show _ = _
    rw [HG2.out, splice_all _ _ (by rw [HXl.out]; simp [size_madeCells]), HX.out]
  have hs2 : w.heap.size < w2.heap.size := lt_of_block R2.out
  clear HG2 hc hne HXl HX
  have hF2 : F.answers w2.tape := by rw [hB2.tape]; exact hF
  obtain ⟨g, hg⟩ : ∃ g, g = w.heap.size := ⟨_, rfl⟩
  have HW : Hid (g = w.heap.size) := hg
  have r2 : Hid (Row w2 g zs) := by rw [hg]; exact row_of_block R2.out
  rw [← hg] at hs2 ⊢
  clear R2 hF hg
  have ho : Over w2 (some ⟨g, 0, none⟩) zs := fun _ => ⟨g, rfl, r2.out, hs2⟩
  go_wp2_with fail
  refine (pref_at F zs _ n nm w2 hF2 hb Hn (by omega) ho).mono ?_
  rintro e w5 ⟨hB5, hres1⟩
  clear ho hF2
  have r5 : Hid (Row w5 g zs) := row_below r2.out hB5 hs2
  have hs5 : g < w5.heap.size := Nat.lt_of_lt_of_le hs2 hB5.size
  have hB : Below g w w5 := by rw [HW.out]; exact hB2.trans (hB5.mono hB2.size)
  clear r2 hs2
  clear hB5 hB2
  obtain ⟨off, ho, rfl⟩ : ∃ off, (h0 < n → off = h0) ∧ e = .returned (.tuple #[.slice (some ⟨g, off, none⟩) (n - h0) (n - h0), .nilIface]) := by
    rcases hres1 with ⟨h1, off1, g1, p1, q1, _, o1, e1⟩ | ⟨p1, _⟩
    · rw [HP.out] at p1
      obtain rfl : h0 = h1 := by simpa using p1
      obtain rfl : g = g1 := by simpa using q1
      exact ⟨off1, o1, e1⟩
    · rw [HP.out] at p1; cases p1
  have HO : Hid (h0 < n → off = h0) := ho
  clear hres1 ho
  go_wp2_with fail
  go_loopw [8, 9] (fun v i wr => ∃ k : Nat, k ≤ 5 ∧ i = .int .i64 k ∧ v = .int .i64 (-1) ∧ Below w5.heap.size w5 wr ∧ Hid (∀ j, j < k → ¬ Good zs (hl j))) (fun _ i _ => 5 - (intOf i).toNat)
  case atStart => exact ⟨0, Nat.zero_le _, rfl, rfl, Below.refl _ _, fun j hj => absurd hj (by omega)⟩
  case round =>
    obtain ⟨k, hk, rfl, rfl, hbr, HN⟩ := hrel
    by_cases hlt : k < 5
    · obtain ⟨h9, hh⟩ : ∃ h9, h9 = hl k := ⟨_, rfl⟩
      have hp : 0 < h9 := by rw [hh]; exact hl_pos k
      have hp9 : h9 ≤ 9 := by rw [hh]; exact hl_le k
      have HH : Hid (h9 = hl k) := hh
      clear hh
      have next : ¬ Good zs h9 → Hid (∀ j, j < k + 1 → ¬ Good zs (hl j)) := fun hno j hj => by
        by_cases hjk : j < k
        · exact HN.out j hjk
        · obtain rfl : j = k := by omega
          rw [← HH.out]; exact hno
      by_cases hle : h9 ≤ n
      · obtain ⟨ps, hps⟩ : ∃ ps, ps = ph ((n : Int) - h9) := ⟨_, rfl⟩
        have HPS : Hid (ps = ph ((n : Int) - h9)) := hps
        clear hps
        obtain ⟨m, hm⟩ : ∃ m, m = ps.length := ⟨_, rfl⟩
        have HM : Hid (m = ps.length) := hm
        have hm5 : m ≤ 5 := by rw [hm, HPS.out]; exact ph_length _
        clear hm
        by_cases hmh : m = h9
        · have hmt : ((m : Int) == h9) = true := by simp; omega
          have HMH : Hid (m = h9) := hmh
          clear hmh
          have NX : Hid (¬ Good zs h9 → Hid (∀ j, j < k + 1 → ¬ Good zs (hl j))) := next
          clear next
          go_wp2_with (first
            | (go_at_call 7; refine (headLen_at k h9 _ hlt HH).mono ?_; rintro e w' ⟨rfl, rfl⟩)
            | (go_at_call 8; refine (prefHead_at _ ps m _ (by omega) (by omega) HPS HM).mono ?_; rintro e w6 ⟨rfl, hr6, hB6, hs6⟩))
          have hb6 : Below w5.heap.size w5 w6 := hbr.trans (hB6.mono hbr.size)
          have r6 : Row w6 g zs := row_below r5.out hb6 hs5
          refine (has_any zs ps g wr.heap.size n m n m w6 (by omega) (by have := HMH.out; omega) (fun k hk => r6 k (by rw [← Hn.out]; exact hk)) (fun k hk => hr6 k (by rw [← HM.out]; exact hk))).mono ?_
          rintro e w7 ⟨b, rfl, hbb, kk, rfl⟩
          have hbg : b = true → Good zs h9 := fun hb' => by
            unfold Good
            rw [← Hn.out, ← HPS.out]
            exact ⟨hle, by rw [← HM.out]; exact HMH.out, fun j hj => hbb.1 hb' j (by rw [HMH.out]; exact hj)⟩
          have hbn : b = false → ¬ Good zs h9 := fun hb' hg => by
            unfold Good at hg
            rw [← Hn.out, ← HPS.out] at hg
            have := hbb.2 (fun j hj => hg.2.2 j (by rw [← HMH.out]; exact hj))
            rw [hb'] at this; cases this
          have r7 : Hid (Row (w6.drewN kk) g zs) := r6
          clear hbb r6 hr6
          cases b with
          | true =>
            have HG : Hid (Good zs h9) := hbg rfl
            clear hbg hbn NX HN
            have e9 := good_pb hb (by rw [← Hn.out]; omega) HG.out
            rw [HP.out] at e9
            obtain rfl : h0 = h9 := by simpa using e9
            clear e9
            by_cases hfull : h0 < n
            · have e1 := HO.out hfull
              subst e1
              go_wp2_with fail
              refine (same_eq g off g off (n - off) (n - off) (n - off) (fun j => zs.getD (off + j) 0) _ (by omega) ?q1 ?q2).mono ?_
              case q1 => exact fun j hj => r7.out (off + j) (by rw [← Hn.out]; omega)
              case q2 => exact fun j hj => r7.out (off + j) (by rw [← Hn.out]; omega)
              rintro e w8 ⟨rfl, k8, rfl⟩
              go_wp2
              go_ret
              exact ⟨rfl, by rw [← HW.out]; exact below_drewN (hB.trans (hb6.mono (by omega))) _⟩
            · obtain rfl : h0 = n := by omega
              go_wp2_with fail
              refine (show Calls Tryf.prog 10 #[.slice (some ⟨g, off, none⟩) 0 0, .slice (some ⟨g, 0, none⟩) 0 0] _ _ from ?_)
              refine (same_empty _ _ _ _ _).mono ?_
              rintro e w8 ⟨rfl, rfl⟩
              go_wp2
              go_ret
              exact ⟨rfl, by rw [← HW.out]; exact below_drewN (hB.trans (hb6.mono (by omega))) _⟩
          | false =>
            have HN' : Hid (∀ j, j < k + 1 → ¬ Good zs (hl j)) := NX.out (hbn rfl)
            clear hbg hbn NX HN
            go_wp2
            go_roundw
            case rel => exact ⟨k + 1, by omega, by go_num, rfl, below_drewN hb6 _, HN'⟩
            case measure => simp [intOf]; omega
        · have hmt : ((m : Int) == h9) = false := by simp; omega
          have HN' : Hid (∀ j, j < k + 1 → ¬ Good zs (hl j)) := next (fun hg => hmh (by
            have := hg.2.1
            rw [← Hn.out, ← HPS.out, ← HM.out] at this
            exact this))
          clear next hmh HN
          go_wp2_with (first
            | (go_at_call 7; refine (headLen_at k h9 _ hlt HH).mono ?_; rintro e w' ⟨rfl, rfl⟩)
            | (go_at_call 8; refine (prefHead_at _ ps m _ (by omega) (by omega) HPS HM).mono ?_; rintro e w6 ⟨rfl, hr6, hB6, hs6⟩))
          go_roundw
          case rel => exact ⟨k + 1, by omega, by go_num, rfl, hbr.trans (hB6.mono hbr.size), HN'⟩
          case measure => simp [intOf]; omega
      · have HN' : Hid (∀ j, j < k + 1 → ¬ Good zs (hl j)) := next (fun hg => hle (by have := hg.1; rw [← Hn.out] at this; exact this))
        clear next HN
        go_wp2_with (go_at_call 7; refine (headLen_at k h9 _ hlt HH).mono ?_; rintro e w' ⟨rfl, rfl⟩)
        go_roundw
        case rel => exact ⟨k + 1, by omega, by go_num, rfl, hbr, HN'⟩
        case measure => simp [intOf]; omega
    · obtain rfl : k = 5 := by omega
      have none : pb zs = none := pb_none hb (by rw [← Hn.out]; omega) HN.out
      rw [HP.out] at none
      cases none

end Go.Proofs.Qxb6628474aFmt
