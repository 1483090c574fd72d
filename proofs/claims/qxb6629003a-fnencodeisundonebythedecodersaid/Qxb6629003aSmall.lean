/-
  The small functions of the road: zzLog, zzHighbit, the guards on lengths.
-/
import Derived.Test.Qxb6629003aRows
import Derived.Test.Qxb6629003aPlain
import Derived.WalkKit
import Derived.WalkSpells
import Derived.WalkLawsBesides
import Derived.Handy
import Derived.Deep.QuietTactic
import Derived.BigQuiet
namespace Go.Proofs.Qxb6629003a
open Go.RowKit
set_option linter.unusedVariables false

theorem pow_bound : ∀ k, k ≤ 16 → (2 : Int) ^ k ≤ 65536 ∧ (1 : Int) ≤ 2 ^ k := by decide

/-- zzLog: the length is a power of two, or it is refused. -/
def LogPost (n : Nat) (w : World) (e : Ending) (w' : World) : Prop := ∃ k : Nat, ∃ b : Bool, e = .returned (.tuple #[.int .u8 k, .bool b]) ∧ (b = true → n = 2 ^ k ∧ k ≤ 15) ∧ w = w'

theorem log_zero (w : World) : Calls Try.prog 6 #[.int .i64 0] w fun e w' => LogPost 0 w e w' := by
  go_enter Try.func6, Try.ntmps6
  go_wp2
  go_ret2
  exact ⟨0, false, rfl, (fun h => by cases h), rfl⟩

theorem pow_nat {k n : Nat} (h : (2 : Int) ^ k = n) : n = 2 ^ k := by
  have : ((2 ^ k : Nat) : Int) = (n : Int) := by rw [Int.natCast_pow]; exact h
  omega

set_option maxHeartbeats 400000 in
theorem log_any (n : Nat) (w : World) (h0 : 1 ≤ n) (h1 : n ≤ 32768) : Calls Try.prog 6 #[.int .i64 n] w fun e w' => LogPost n w e w' := by
  go_enter Try.func6, Try.ntmps6
  go_wp2
  go_loop [4] (fun t => ∃ k : Nat, k ≤ 16 ∧ t = .int .u8 k) (fun t => 16 - (intOf t).toNat)
  case atStart => exact ⟨0, Nat.zero_le _, rfl⟩
  case round =>
    obtain ⟨k, hk, rfl⟩ := hrel
    have hp := (pow_bound k hk).1
    have hp0 := (pow_bound k hk).2
    by_cases hlt : k < 16
    · by_cases hs : (2 : Int) ^ k < n
      · go_wp2
        go_round
        case rel => exact ⟨k + 1, by omega, by go_num⟩
        case measure => simp [intOf]; omega
      · go_wp2
        go_ret2
        refine ⟨k, _, rfl, fun hb => ?_, rfl⟩
        have e := pow_nat (by simpa using hb)
        refine ⟨e, ?_⟩
        rcases Nat.lt_or_ge k 16 with h | h
        · omega
        · have := pow_mono h; omega
    · go_wp2
      go_ret2
      refine ⟨k, _, rfl, fun hb => ?_, rfl⟩
      have e := pow_nat (by simpa using hb)
      have := pow_mono (show 16 ≤ k by omega)
      omega

/-- zzHighbit. -/
def HbPost (n : Nat) (w : World) (e : Ending) (w' : World) : Prop := ∃ h : Nat, e = .returned (.int .i64 h) ∧ IsHb n h ∧ w = w'

theorem hb_half {n k m : Nat} (h : n / 2 ^ k = m) : n / 2 ^ (k + 1) = m / 2 := by rw [Nat.pow_succ, ← Nat.div_div_eq_div_mul, h]

set_option maxHeartbeats 400000 in
theorem hb_any (n : Nat) (w : World) (h0 : 1 ≤ n) (h1 : n ≤ 65536) : Calls Try.prog 14 #[.int .i64 n] w fun e w' => HbPost n w e w' := by
  go_enter Try.func14, Try.ntmps14
  go_wp2
  go_loop [0, 3] (fun y t => ∃ k m : Nat, 1 ≤ m ∧ m ≤ 65536 ∧ y = .int .i64 m ∧ t = .int .i64 k ∧ k + m ≤ 65536 ∧ Hid (n / 2 ^ k = m)) (fun y _ => (intOf y).toNat)
  case atStart => exact ⟨0, n, h0, h1, rfl, rfl, by omega, by show _ = _; simp⟩
  case round =>
    obtain ⟨k, m, hm1, hm, rfl, rfl, hkm, HK⟩ := hrel
    by_cases hlt : 1 < m
    · have HK' : Hid (n / 2 ^ (k + 1) = m / 2) := hb_half HK.out
      go_wp2
      go_round
      case rel => exact ⟨k + 1, m / 2, by omega, by omega, by go_num, by go_num, by omega, HK'⟩
      case measure => simp [intOf]; omega
    · obtain rfl : m = 1 := by omega
      go_wp2
      go_ret
      refine ⟨k, rfl, ?_, rfl⟩
      have h := HK.out
      have hp := Nat.two_pow_pos k
      have h2 := Nat.div_add_mod n (2 ^ k)
      have h3 := Nat.mod_lt n hp
      rw [h] at h2
      refine ⟨by omega, ?_⟩
      rw [Nat.pow_succ]; omega

theorem bytes5_in (a c : Option Addr) (len cap len2 cap2 : Nat) (x : Int) (w : World) (h : len + len2 ≤ 1048576) :
    Calls Try.prog 5 #[.slice a len cap, .int .u32 x, .slice c len2 cap2] w fun e w' => e = .returned (.bool true) ∧ w = w' := by
  go_enter Try.func5, Try.ntmps5
  go_wp2
  go_ret
  exact ⟨rfl, rfl⟩
theorem bytes5_out (a c : Option Addr) (len cap len2 cap2 : Nat) (x : Int) (w : World) (h : 1048576 < len + len2) (hl : len ≤ maxLen) (hl2 : len2 ≤ maxLen) :
    Calls Try.prog 5 #[.slice a len cap, .int .u32 x, .slice c len2 cap2] w fun e w' => e = .returned (.bool false) ∧ w = w' := by
  unfold maxLen at hl hl2
  by_cases h1 : 1048576 < len
  · go_enter Try.func5, Try.ntmps5
    go_wp2
    go_ret
    exact ⟨rfl, rfl⟩
  by_cases h2 : 1048576 < len2
  all_goals
    go_enter Try.func5, Try.ntmps5
    go_wp2
    go_ret
    exact ⟨rfl, rfl⟩
theorem bytes13_in (a c : Option Addr) (len cap len2 cap2 : Nat) (x : Int) (w : World) (h : len + len2 ≤ 1048576) :
    Calls Try.prog 13 #[.slice a len cap, .int .u32 x, .slice c len2 cap2] w fun e w' => e = .returned (.bool true) ∧ w = w' := by
  go_enter Try.func13, Try.ntmps13
  go_wp2
  go_ret
  exact ⟨rfl, rfl⟩
theorem bytes13_out (a c : Option Addr) (len cap len2 cap2 : Nat) (x : Int) (w : World) (h : 1048576 < len + len2) (hl : len ≤ maxLen) (hl2 : len2 ≤ maxLen) :
    Calls Try.prog 13 #[.slice a len cap, .int .u32 x, .slice c len2 cap2] w fun e w' => e = .returned (.bool false) ∧ w = w' := by
  unfold maxLen at hl hl2
  by_cases h1 : 1048576 < len
  · go_enter Try.func13, Try.ntmps13
    go_wp2
    go_ret
    exact ⟨rfl, rfl⟩
  by_cases h2 : 1048576 < len2
  all_goals
    go_enter Try.func13, Try.ntmps13
    go_wp2
    go_ret
    exact ⟨rfl, rfl⟩

end Go.Proofs.Qxb6629003a
