/-
  The guards on lengths (zzBytes..), and plainInScope.
-/
import Derived.Test.Qxb6629031aFmtNum
namespace Go.Proofs.Qxb6629031aFmt
open Go.RowKit
set_option linter.unusedVariables false

/-- A row of strings at a. -/
def Strs (w : World) (a : Option Addr) (n : Nat) (f : Nat → ByteArray) : Prop := ∀ i, i < n → ∃ g : Addr, a = some g ∧ w.cell? (g.add i) = some (.string (f i)) ∧ (f i).size ≤ 9223372036854775807
/-- A row of bools at a. -/
def Bits (w : World) (a : Option Addr) (n : Nat) (f : Nat → Bool) : Prop := ∀ i, i < n → ∃ g : Addr, a = some g ∧ w.cell? (g.add i) = some (.bool (f i))

/-- Every string of the first n is of at most 2^20 bytes. -/
def Fits (n : Nat) (f : Nat → ByteArray) : Prop := ∀ i, i < n → (f i).size ≤ 1048576
theorem fits_succ {n : Nat} {f : Nat → ByteArray} (h : Hid (Fits n f)) (h' : (f n).size ≤ 1048576) : Hid (Fits (n + 1) f) := by
  intro i hi
  by_cases e : i = n
  · subst e; exact h'
  · exact h.out i (by omega)

def SomeBool (n1 n2 : Nat) (f g : Nat → ByteArray) (w : World) (e : Ending) (w' : World) : Prop := ∃ b : Bool, e = .returned (.bool b) ∧ w = w' ∧ (b = true → Fits n1 f ∧ Fits n2 g)
theorem some_no {n1 n2 : Nat} {f g : Nat → ByteArray} {w : World} : SomeBool n1 n2 f g w (.returned (.bool false)) w := ⟨false, rfl, rfl, fun h => by cases h⟩

theorem over (n : Nat) : (decide ((1048576 : Int) < n) = true ∧ 1048576 < n) ∨ (decide ((1048576 : Int) < n) = false ∧ n ≤ 1048576) := by
  by_cases h : 1048576 < n
  · exact .inl ⟨by simp; omega, h⟩
  · exact .inr ⟨by simp; omega, by omega⟩
theorem over2 (u n : Nat) : (decide ((1048576 : Int) < u + n) = true ∧ 1048576 < u + n) ∨ (decide ((1048576 : Int) < u + n) = false ∧ u + n ≤ 1048576) := by
  by_cases h : 1048576 < u + n
  · exact .inl ⟨by simp; omega, h⟩
  · exact .inr ⟨by simp; omega, by omega⟩
theorem over3 (u n m : Nat) : (decide ((1048576 : Int) < u + n + m) = true ∧ 1048576 < u + n + m) ∨ (decide ((1048576 : Int) < u + n + m) = false ∧ u + n + m ≤ 1048576) := by
  by_cases h : 1048576 < u + n + m
  · exact .inl ⟨by simp; omega, h⟩
  · exact .inr ⟨by simp; omega, by omega⟩

set_option maxRecDepth 20000 in
set_option maxHeartbeats 2000000 in
theorem bytes5 (a b c d : Option Addr) (n1 n2 n3 n4 c1 c2 c3 c4 : Nat) (f g : Nat → ByteArray) (w : World) (hn1 : n1 ≤ 9223372036854775807) (hn2 : n2 ≤ 9223372036854775807) (hn3 : n3 ≤ 9223372036854775807) (hn4 : n4 ≤ 9223372036854775807) (hf : Strs w a n1 f) (hg : Strs w b n2 g) :
    Calls Tryf.prog 5 #[.slice a n1 c1, .slice b n2 c2, .slice c n3 c3, .slice d n4 c4] w fun e w' => SomeBool n1 n2 f g w e w' := by
  rcases over n1 with ⟨t1, t1'⟩ | ⟨t1, t1'⟩
  · go_enter Tryf.func5, Tryf.ntmps5
    go_wp2
    go_ret
    exact some_no
  go_enter Tryf.func5, Tryf.ntmps5
  go_wp2
  go_loop [9, 10] (fun z i => ∃ k u : Nat, k ≤ n1 ∧ u ≤ 1048576 ∧ i = .int .i64 k ∧ z = .int .i64 u ∧ Hid (Fits k f)) (fun _ i => n1 - (intOf i).toNat)
  case atStart => exact ⟨0, n1, Nat.zero_le _, t1', rfl, rfl, fun i hi => by omega⟩
  case round =>
    obtain ⟨k, u, hk, hu, rfl, rfl, HF⟩ := hrel
    by_cases hlt : k < n1
    · obtain ⟨ga, rfl, hc, hs⟩ := hf k hlt
      clear hf hg
      rcases over (f k).size with ⟨t2, t2'⟩ | ⟨t2, t2'⟩
      · go_wp2
        go_ret
        exact some_no
      rcases over2 u (f k).size with ⟨t3, t3'⟩ | ⟨t3, t3'⟩
      · go_wp2
        go_ret
        exact some_no
      · go_wp2
        go_round
        case rel => exact ⟨k + 1, u + (f k).size, by omega, t3', by go_num, by go_num, fits_succ HF t2'⟩
        case measure => simp [intOf]; omega
    · clear hf
      obtain rfl : k = n1 := by omega
      rcases over n2 with ⟨t2, t2'⟩ | ⟨t2, t2'⟩
      · go_wp2
        go_ret
        exact some_no
      rcases over2 u n2 with ⟨t3, t3'⟩ | ⟨t3, t3'⟩
      · go_wp2
        go_ret
        exact some_no
      go_wp2
      go_loop [9, 11] (fun z i => ∃ k u : Nat, k ≤ n2 ∧ u ≤ 1048576 ∧ i = .int .i64 k ∧ z = .int .i64 u ∧ Hid (Fits k g)) (fun _ i => n2 - (intOf i).toNat)
      case atStart => exact ⟨0, u + n2, Nat.zero_le _, t3', rfl, by go_num, fun i hi => by omega⟩
      case round =>
        clear hu t2 t2' t3 t3' hlt
        obtain ⟨k2, v, hk2, hv, rfl, rfl, HG⟩ := hrel
        by_cases hlt : k2 < n2
        · obtain ⟨gb, rfl, hc, hs⟩ := hg k2 hlt
          clear hg
          rcases over (g k2).size with ⟨t2, t2'⟩ | ⟨t2, t2'⟩
          · go_wp2
            go_ret
            exact some_no
          rcases over2 v (g k2).size with ⟨t3, t3'⟩ | ⟨t3, t3'⟩
          · go_wp2
            go_ret
            exact some_no
          · go_wp2
            go_round
            case rel => exact ⟨k2 + 1, v + (g k2).size, by omega, t3', by go_num, by go_num, fits_succ HG t2'⟩
            case measure => simp [intOf]; omega
        · clear hg
          obtain rfl : k2 = n2 := by omega
          rcases over n3 with ⟨t2, t2'⟩ | ⟨t2, t2'⟩
          · go_wp2
            go_ret
            exact some_no
          rcases over2 v n3 with ⟨t3, t3'⟩ | ⟨t3, t3'⟩
          · go_wp2
            go_ret
            exact some_no
          rcases over n4 with ⟨t4, t4'⟩ | ⟨t4, t4'⟩
          · go_wp2
            go_ret
            exact some_no
          rcases over3 v n3 n4 with ⟨t5, t5'⟩ | ⟨t5, t5'⟩
          · go_wp2
            go_ret
            exact some_no
          · go_wp2
            go_ret
            exact ⟨true, rfl, rfl, fun _ => ⟨HF.out, HG.out⟩⟩

set_option maxRecDepth 20000 in
set_option maxHeartbeats 2000000 in
theorem bytes11 (a b c d : Option Addr) (n1 n2 n3 n4 c1 c2 c3 c4 : Nat) (x : Int) (f g : Nat → ByteArray) (w : World) (hn1 : n1 ≤ 9223372036854775807) (hn2 : n2 ≤ 9223372036854775807) (hn3 : n3 ≤ 9223372036854775807) (hn4 : n4 ≤ 9223372036854775807) (hf : Strs w a n1 f) (hg : Strs w b n2 g) :
    Calls Tryf.prog 11 #[.slice a n1 c1, .slice b n2 c2, .slice c n3 c3, .slice d n4 c4, .int .i64 x] w fun e w' => SomeBool n1 n2 f g w e w' := by
  rcases over n1 with ⟨t1, t1'⟩ | ⟨t1, t1'⟩
  · go_enter Tryf.func11, Tryf.ntmps11
    go_wp2
    go_ret
    exact some_no
  go_enter Tryf.func11, Tryf.ntmps11
  go_wp2
  go_loop [11, 12] (fun z i => ∃ k u : Nat, k ≤ n1 ∧ u ≤ 1048576 ∧ i = .int .i64 k ∧ z = .int .i64 u ∧ Hid (Fits k f)) (fun _ i => n1 - (intOf i).toNat)
  case atStart => exact ⟨0, n1, Nat.zero_le _, t1', rfl, rfl, fun i hi => by omega⟩
  case round =>
    obtain ⟨k, u, hk, hu, rfl, rfl, HF⟩ := hrel
    by_cases hlt : k < n1
    · obtain ⟨ga, rfl, hc, hs⟩ := hf k hlt
      clear hf hg
      rcases over (f k).size with ⟨t2, t2'⟩ | ⟨t2, t2'⟩
      · go_wp2
        go_ret
        exact some_no
      rcases over2 u (f k).size with ⟨t3, t3'⟩ | ⟨t3, t3'⟩
      · go_wp2
        go_ret
        exact some_no
      · go_wp2
        go_round
        case rel => exact ⟨k + 1, u + (f k).size, by omega, t3', by go_num, by go_num, fits_succ HF t2'⟩
        case measure => simp [intOf]; omega
    · clear hf
      obtain rfl : k = n1 := by omega
      rcases over n2 with ⟨t2, t2'⟩ | ⟨t2, t2'⟩
      · go_wp2
        go_ret
        exact some_no
      rcases over2 u n2 with ⟨t3, t3'⟩ | ⟨t3, t3'⟩
      · go_wp2
        go_ret
        exact some_no
      go_wp2
      go_loop [11, 13] (fun z i => ∃ k u : Nat, k ≤ n2 ∧ u ≤ 1048576 ∧ i = .int .i64 k ∧ z = .int .i64 u ∧ Hid (Fits k g)) (fun _ i => n2 - (intOf i).toNat)
      case atStart => exact ⟨0, u + n2, Nat.zero_le _, t3', rfl, by go_num, fun i hi => by omega⟩
      case round =>
        clear hu t2 t2' t3 t3' hlt
        obtain ⟨k2, v, hk2, hv, rfl, rfl, HG⟩ := hrel
        by_cases hlt : k2 < n2
        · obtain ⟨gb, rfl, hc, hs⟩ := hg k2 hlt
          clear hg
          rcases over (g k2).size with ⟨t2, t2'⟩ | ⟨t2, t2'⟩
          · go_wp2
            go_ret
            exact some_no
          rcases over2 v (g k2).size with ⟨t3, t3'⟩ | ⟨t3, t3'⟩
          · go_wp2
            go_ret
            exact some_no
          · go_wp2
            go_round
            case rel => exact ⟨k2 + 1, v + (g k2).size, by omega, t3', by go_num, by go_num, fits_succ HG t2'⟩
            case measure => simp [intOf]; omega
        · clear hg
          obtain rfl : k2 = n2 := by omega
          rcases over n3 with ⟨t2, t2'⟩ | ⟨t2, t2'⟩
          · go_wp2
            go_ret
            exact some_no
          rcases over2 v n3 with ⟨t3, t3'⟩ | ⟨t3, t3'⟩
          · go_wp2
            go_ret
            exact some_no
          rcases over n4 with ⟨t4, t4'⟩ | ⟨t4, t4'⟩
          · go_wp2
            go_ret
            exact some_no
          rcases over3 v n3 n4 with ⟨t5, t5'⟩ | ⟨t5, t5'⟩
          · go_wp2
            go_ret
            exact some_no
          · go_wp2
            go_ret
            exact ⟨true, rfl, rfl, fun _ => ⟨HF.out, HG.out⟩⟩

end Go.Proofs.Qxb6629031aFmt
