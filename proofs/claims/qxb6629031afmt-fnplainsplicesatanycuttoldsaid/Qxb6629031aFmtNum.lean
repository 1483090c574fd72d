/-
  plainLineNumber computes num.
-/
import Derived.Test.Qxb6629031aFmtRows
import Derived.Test.Qxb6629031aFmtPlain
import Derived.WalkKit
import Derived.WalkSpells
import Derived.WalkLawsBesides
import Derived.Handy
import Derived.Deep.QuietTactic
import Derived.BigQuiet
namespace Go.Proofs.Qxb6629031aFmt
open Go.RowKit
set_option linter.unusedVariables false

/-- The bytes of a string. -/
def bs (s : ByteArray) : List UInt8 := s.data.toList

theorem bs_drop (s : ByteArray) (k : Nat) (h : k < s.size) : (bs s).drop k = s[k] :: (bs s).drop (k + 1) := by
  unfold bs
  rw [List.drop_eq_getElem_cons (by simpa using h)]; rfl
theorem bs_len (s : ByteArray) : (bs s).length = s.size := by unfold bs; simp
theorem bs_head (s : ByteArray) (h : 0 < s.size) : (bs s).head?.map (·.toNat) = some s[0].toNat := by
  have := bs_drop s 0 h
  rw [List.drop_zero] at this
  rw [this]; rfl
theorem bs_tail (s : ByteArray) : (bs s).tail = (bs s).drop 1 := by simp

def NumPost (s : ByteArray) (w : World) (e : Ending) (w' : World) : Prop :=
  e = .returned (.tuple #[.int .i64 (num (bs s)).1, .int .i64 (num (bs s)).2]) ∧ w = w'

theorem numPost {s : ByteArray} {w : World} {a b : Nat} (h : num (bs s) = (a, b)) : NumPost s w (.returned (.tuple #[.int .i64 a, .int .i64 b])) w := by
  unfold NumPost; rw [h]; exact ⟨rfl, rfl⟩

theorem num_nil {l : List UInt8} (h : bodyOf l = []) : num l = (0, 0) := by unfold num; rw [if_pos h]
theorem num_bad {l : List UInt8} (h : scan 0 false (bodyOf l) = none) : num l = (0, 0) := by
  unfold num; rw [h]; split <;> rfl
theorem num_neg {l : List UInt8} (h : isNeg l = true) : num l = (0, 0) := by
  unfold num; rw [h]; split
  · rfl
  · split <;> rfl
theorem num_big {l : List UInt8} {v : Nat} (h0 : bodyOf l ≠ []) (h : scan 0 false (bodyOf l) = some (v, true)) (hn : isNeg l = false) : num l = (0, 2) := by
  unfold num; rw [if_neg h0, h, hn]; rfl
theorem num_low {l : List UInt8} {v : Nat} (h : scan 0 false (bodyOf l) = some (v, false)) (hn : isNeg l = false) (hv : v < 1) : num l = (0, 0) := by
  unfold num; rw [h, hn]; simp [hv]
theorem num_fine {l : List UInt8} {v : Nat} (h0 : bodyOf l ≠ []) (h : scan 0 false (bodyOf l) = some (v, false)) (hn : isNeg l = false) (hv : 1 ≤ v) : num l = (v, 1) := by
  unfold num; rw [if_neg h0, h, hn]; simp; omega

theorem body_drop (s : ByteArray) (h : 0 < s.size) (hs : s[0].toNat = 43 ∨ s[0].toNat = 45) : bodyOf (bs s) = (bs s).drop 1 := by
  unfold bodyOf isSign
  rw [bs_head s h, bs_tail]
  simp [hs]
theorem body_same (s : ByteArray) (h : 0 < s.size) (hs : ¬ (s[0].toNat = 43 ∨ s[0].toNat = 45)) : bodyOf (bs s) = (bs s).drop 0 := by
  unfold bodyOf isSign
  rw [bs_head s h]
  simp [hs]
theorem isNeg_of (s : ByteArray) (h : 0 < s.size) : isNeg (bs s) = decide (s[0].toNat = 45) := by
  unfold isNeg; rw [bs_head s h]; simp

theorem scan_step_bad {s : ByteArray} {k v : Nat} {b : Bool} {r : Option (Nat × Bool)} (H : scan v b ((bs s).drop k) = r) (h : k < s.size) (hd : ¬ (48 ≤ s[k].toNat ∧ s[k].toNat ≤ 57)) : r = none := by
  rw [bs_drop s k h] at H; simp only [scan] at H; rw [if_neg hd] at H; exact H.symm
theorem scan_step_big {s : ByteArray} {k v : Nat} {r : Option (Nat × Bool)} (H : scan v true ((bs s).drop k) = r) (h : k < s.size) (hd : 48 ≤ s[k].toNat ∧ s[k].toNat ≤ 57) : scan v true ((bs s).drop (k + 1)) = r := by
  rw [bs_drop s k h] at H; simp only [scan] at H; rw [if_pos hd] at H; simpa using H
theorem scan_step {s : ByteArray} {k v : Nat} {r : Option (Nat × Bool)} (H : scan v false ((bs s).drop k) = r) (h : k < s.size) (hd : 48 ≤ s[k].toNat ∧ s[k].toNat ≤ 57) : scan (v * 10 + (s[k].toNat - 48)) (decide (65536 < v * 10 + (s[k].toNat - 48))) ((bs s).drop (k + 1)) = r := by
  rw [bs_drop s k h] at H; simp only [scan] at H; rw [if_pos hd] at H; simpa using H
theorem scan_end {s : ByteArray} {v : Nat} {b : Bool} {r : Option (Nat × Bool)} {k : Nat} (H : scan v b ((bs s).drop k) = r) (h : ¬ k < s.size) : r = some (v, b) := by
  rw [List.drop_of_length_le (by rw [bs_len]; omega)] at H; exact H.symm

theorem num_empty (s : ByteArray) (w : World) (h : s.size = 0) : Calls Tryf.prog 12 #[.string s] w fun e w' => NumPost s w e w' := by
  have hl : bs s = [] := List.eq_nil_of_length_eq_zero (by rw [bs_len]; exact h)
  have hn : num (bs s) = (0, 0) := num_nil (by rw [hl]; rfl)
  clear hl
  have HN : Hid (num (bs s) = (0, 0)) := hn
  clear hn
  go_enter Tryf.func12, Tryf.ntmps12
  go_wp2
  go_ret2
  exact numPost HN.out

theorem body_ne {s : ByteArray} {k : Nat} (h : bodyOf (bs s) = (bs s).drop k) (hk : k < s.size) : bodyOf (bs s) ≠ [] := by
  rw [h, bs_drop s k hk]; simp

set_option maxHeartbeats 1000000 in
theorem num_walk (s : ByteArray) (w : World) (h0 : 0 < s.size) (hs : s.size ≤ 1048576) : Calls Tryf.prog 12 #[.string s] w fun e w' => NumPost s w e w' := by
  have hb0 : (s[0].toNat : Int) ≤ 255 := by have := s[0].toNat_lt; omega
  obtain ⟨nb, hnb⟩ : ∃ nb : Bool, nb = decide (s[0].toNat = 45) := ⟨_, rfl⟩
  have HNeg : Hid (isNeg (bs s) = nb) := by show _ = _; rw [hnb]; exact isNeg_of s h0
  obtain ⟨i0, B, hi0, hB, HB, HW⟩ : ∃ (i0 : Nat) (B : List UInt8), i0 ≤ 1 ∧ B = bodyOf (bs s) ∧ Hid (bodyOf (bs s) = (bs s).drop i0) ∧ Hid ((i0 = 1 ∧ (s[0].toNat = 43 ∨ s[0].toNat = 45)) ∨ (i0 = 0 ∧ ¬ (s[0].toNat = 43 ∨ s[0].toNat = 45))) := by
    by_cases hc : s[0].toNat = 43 ∨ s[0].toNat = 45
    · exact ⟨1, _, by omega, rfl, body_drop s h0 hc, .inl ⟨rfl, hc⟩⟩
    · exact ⟨0, _, by omega, rfl, body_same s h0 hc, .inr ⟨rfl, hc⟩⟩
  have HBB : Hid (scan 0 false ((bs s).drop i0) = scan 0 false B) := by show _ = _; rw [hB, HB.out]
  have HB' : Hid (B = bodyOf (bs s)) := hB
  clear hB
  have hways : (i0 = 1 ∧ (s[0].toNat : Int) = 43 ∧ nb = false) ∨ (i0 = 1 ∧ (s[0].toNat : Int) = 45 ∧ nb = true) ∨ (i0 = 0 ∧ ((s[0].toNat : Int) == 43) = false ∧ ((s[0].toNat : Int) == 45) = false ∧ nb = false) := by
    rw [hnb]
    rcases HW.out with ⟨h, hc | hc⟩ | ⟨h, hc⟩
    · left; refine ⟨h, by omega, by simp; omega⟩
    · right; left; refine ⟨h, by omega, by simpa using hc⟩
    · right; right; refine ⟨h, by simp; omega, by simp; omega, by simp; omega⟩
  clear HW hnb
  by_cases h1 : i0 = s.size
  · have HN : Hid (num (bs s) = (0, 0)) := by
      apply num_nil; rw [HB.out]; exact List.drop_of_length_le (by rw [bs_len]; omega)
    rcases hways with ⟨rfl, hc, rfl⟩ | ⟨rfl, hc, rfl⟩ | ⟨rfl, hc, hc', rfl⟩
    · have h1' : decide (s.size = 1) = true := by simpa using h1.symm
      go_enter Tryf.func12, Tryf.ntmps12
      go_wp2
      go_ret2
      exact numPost HN.out
    · have h1' : decide (s.size = 1) = true := by simpa using h1.symm
      go_enter Tryf.func12, Tryf.ntmps12
      go_wp2
      go_ret2
      exact numPost HN.out
    · omega
  · have hlt0 : i0 < s.size := by omega
    have HNE : Hid (bodyOf (bs s) ≠ []) := body_ne HB.out hlt0
    have hne : ((i0 : Int) == (s.size : Int)) = false := by simp; omega
    rcases hways with ⟨rfl, hc, rfl⟩ | ⟨rfl, hc, rfl⟩ | ⟨rfl, hc, hc', rfl⟩
    all_goals
      first
        | (replace hne : ((1 : Int) == (s.size : Int)) = false := hne)
        | (replace hne : ((0 : Int) == (s.size : Int)) = false := hne)
      go_enter Tryf.func12, Tryf.ntmps12
      go_wp2
      go_loop [4, 6, 7] (fun i v b => ∃ (k u : Nat) (bg : Bool), k ≤ s.size ∧ i = .int .i64 k ∧ v = .int .i64 u ∧ b = .bool bg ∧ u ≤ 655369 ∧ (bg = false → u ≤ 65536) ∧ Hid (scan u bg ((bs s).drop k) = scan 0 false B)) (fun i _ _ => s.size - (intOf i).toNat)
      case atStart => first | exact ⟨1, 0, false, by omega, rfl, rfl, rfl, by omega, by omega, HBB⟩ | exact ⟨0, 0, false, by omega, rfl, rfl, rfl, by omega, by omega, HBB⟩
      case round =>
        obtain ⟨k, u, bg, hk, rfl, rfl, rfl, hu, hub, HS⟩ := hrel
        by_cases hlt : k < s.size
        · have hby : (s[k].toNat : Int) ≤ 255 := by have := s[k].toNat_lt; omega
          by_cases hd : 48 ≤ s[k].toNat ∧ s[k].toNat ≤ 57
          · obtain ⟨hd1, hd2⟩ := hd
            have hd1' : (48 : Int) ≤ s[k].toNat := by omega
            have hd2' : (s[k].toNat : Int) ≤ 57 := by omega
            cases bg with
            | true =>
              have HS' : Hid (scan u true ((bs s).drop (k + 1)) = scan 0 false B) := scan_step_big HS.out hlt ⟨hd1, hd2⟩
              go_wp2
              go_round
              case rel => exact ⟨k + 1, u, true, by omega, by go_num, rfl, rfl, hu, hub, HS'⟩
              case measure => simp [intOf]; omega
            | false =>
              have hub' := hub rfl
              have HS' : Hid (scan (u * 10 + (s[k].toNat - 48)) (decide (65536 < u * 10 + (s[k].toNat - 48))) ((bs s).drop (k + 1)) = scan 0 false B) := scan_step HS.out hlt ⟨hd1, hd2⟩
              by_cases hg : 65536 < u * 10 + (s[k].toNat - 48)
              · rw [decide_eq_true hg] at HS'
                have hg' : (65536 : Int) < u * 10 + (s[k].toNat - 48) := by omega
                go_wp2
                go_round
                case rel => exact ⟨k + 1, _, true, by omega, by go_num, by go_num, rfl, by omega, (fun h => by cases h), HS'⟩
                case measure => simp [intOf]; omega
              · rw [decide_eq_false hg] at HS'
                have hg' : ¬ (65536 : Int) < u * 10 + (s[k].toNat - 48) := by omega
                go_wp2
                go_round
                case rel => exact ⟨k + 1, _, false, by omega, by go_num, by go_num, rfl, by omega, (fun h => by omega), HS'⟩
                case measure => simp [intOf]; omega
          · have HN : Hid (num (bs s) = (0, 0)) := num_bad (by rw [← HB'.out]; exact scan_step_bad HS.out hlt hd)
            by_cases hd1 : (s[k].toNat : Int) < 48
            · go_wp2
              go_ret2
              exact numPost HN.out
            · have hd2 : (57 : Int) < s[k].toNat := by omega
              go_wp2
              go_ret2
              exact numPost HN.out
        · have HE : Hid (scan 0 false (bodyOf (bs s)) = some (u, bg)) := by
            show _ = _; rw [← HB'.out]; exact scan_end HS.out hlt
          cases bg with
          | true =>
            go_wp2
            go_ret2
            first
              | exact numPost (num_neg HNeg.out)
              | exact numPost (num_big HNE.out HE.out HNeg.out)
          | false =>
            by_cases hv : u < 1
            · go_wp2
              go_ret2
              first
                | exact numPost (num_neg HNeg.out)
                | exact numPost (num_low HE.out HNeg.out hv)
            · go_wp2
              go_ret2
              first
                | exact numPost (num_neg HNeg.out)
                | exact numPost (num_fine HNE.out HE.out HNeg.out (by omega))
end Go.Proofs.Qxb6629031aFmt
