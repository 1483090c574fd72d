/-
  zzb1Count, zzb1Equal, zzb1Concat.
-/
import Derived.Test.Qxb6629077aKit
namespace Go.Proofs.Qxb6629077a
open Go.RowKit
set_option linter.unusedVariables false

def RowPost (l : List ByteArray) (w : World) (e : Ending) (w' : World) : Prop := ∃ v, e = .returned v ∧ Row w w' v l

/-- The i-th of five. -/
def pk (b0 b1 b2 b3 b4 : Bool) (i : Nat) : Bool := if i = 0 then b0 else if i = 1 then b1 else if i = 2 then b2 else if i = 3 then b3 else b4
/-- How many of lo, .., lo + d - 1 are set. -/
def cn (p : Nat → Bool) (lo : Nat) : Nat → Nat
  | 0 => 0
  | d + 1 => cn p lo d + if p (lo + d) then 1 else 0
theorem cn_le (p : Nat → Bool) (lo : Nat) : ∀ d, cn p lo d ≤ d
  | 0 => Nat.le_refl _
  | d + 1 => by simp only [cn]; have := cn_le p lo d; split <;> omega

theorem five_cell (b0 b1 b2 b3 b4 : Bool) (w : World) (y : Nat) (h : y < 5) : (w.alloc (.cells #[.bool b0, .bool b1, .bool b2, .bool b3, .bool b4] 22)).cell? ⟨w.heap.size, y, none⟩ = some (.bool (pk b0 b1 b2 b3 b4 y)) := by
  rcases (by omega : y = 0 ∨ y = 1 ∨ y = 2 ∨ y = 3 ∨ y = 4) with h | h | h | h | h <;> (subst h; go_simp; try rfl)

set_option maxHeartbeats 1000000 in
theorem count_any (b0 b1 b2 b3 b4 : Bool) (lo d : Nat) (hd : lo + d ≤ 5) (hi : Int) (hhi : hi = ((lo + d : Nat) : Int)) (w : World) :
    Calls Try.prog 7 #[.agg #[.bool b0, .bool b1, .bool b2, .bool b3, .bool b4], .int .i64 lo, .int .i64 hi] w fun e w' => e = .returned (.int .i64 (cn (pk b0 b1 b2 b3 b4) lo d)) ∧ Below w.heap.size w w' := by
  subst hhi
  go_enter Try.func7, Try.ntmps7
  go_wp2
  go_loop [7, 8] (fun n j => ∃ x : Nat, x ≤ d ∧ j = .int .i64 ((lo + x : Nat) : Int) ∧ n = .int .i64 (cn (pk b0 b1 b2 b3 b4) lo x)) (fun _ j => lo + d - (intOf j).toNat)
  case atStart => exact ⟨0, Nat.zero_le _, by go_num, rfl⟩
  case round =>
    obtain ⟨x, hx, rfl, rfl⟩ := hrel
    obtain ⟨y, hy⟩ : ∃ y, y = lo + x := ⟨_, rfl⟩
    obtain ⟨z, hz⟩ : ∃ z, z = lo + d := ⟨_, rfl⟩
    obtain ⟨q, hq⟩ : ∃ q, q = cn (pk b0 b1 b2 b3 b4) lo x := ⟨_, rfl⟩
    have hqx := cn_le (pk b0 b1 b2 b3 b4) lo x
    by_cases hlt : x < d
    · have hcell : (w.alloc (.cells #[.bool b0, .bool b1, .bool b2, .bool b3, .bool b4] 22)).cell? ⟨w.heap.size, y, none⟩ = some (.bool (pk b0 b1 b2 b3 b4 y)) := five_cell b0 b1 b2 b3 b4 w y (by omega)
      have hs : cn (pk b0 b1 b2 b3 b4) lo (x + 1) = q + if pk b0 b1 b2 b3 b4 y = true then 1 else 0 := by simp only [cn]; rw [hq, hy]
      have HS := HidC hs
      clear hs
      rw [← hq] at hqx
      have hy5 : (y : Int) < 5 := by omega
      have hyz : (y : Int) < z := by omega
      have t1 : decide ((y : Int) < z) = true := by simp; omega
      have t2 : decide (y < z) = true := by simp; omega
      have HY := HidC hy
      have HZ := HidC hz
      rw [← hq, ← hy, ← hz]
      clear hq hy hz
      cases hp : pk b0 b1 b2 b3 b4 y with
      | true =>
        rw [hp] at hcell
        go_wp2
        refine ⟨⟨x + 1, by omega, ?_, ?_⟩, ?_⟩
        · have := HY.out; go_num
        · rw [HS.out, hp]; go_num
        · have := HY.out; have := HZ.out; simp [intOf]; omega
      | false =>
        rw [hp] at hcell
        go_wp2
        refine ⟨⟨x + 1, by omega, ?_, ?_⟩, ?_⟩
        · have := HY.out; go_num
        · rw [HS.out, hp]; go_num
        · have := HY.out; have := HZ.out; simp [intOf]; omega
    · obtain rfl : x = d := by omega
      go_wp2
      go_ret
      exact ⟨rfl, (Below.refl _ w).alloc (Nat.le_refl _) _⟩

theorem equal_none (w : World) (v : Value) (hv : v = .slice none 0 0 ∨ ∃ ad cap, v = .slice (some ad) 0 cap) (v' : Value) (hv' : v' = .slice none 0 0 ∨ ∃ ad cap, v' = .slice (some ad) 0 cap) :
    Calls Try.prog 10 #[v, v'] w fun e w' => e = .returned (.bool true) ∧ Below w.heap.size w w' := by
  rcases hv with rfl | ⟨ad, cap, rfl⟩ <;> rcases hv' with rfl | ⟨ad', cap', rfl⟩
  all_goals
    go_enter Try.func10, Try.ntmps10
    go_wp2
    refine wp_loop_rounds 1 ?_
    rw [rounds_succ]
    go_wp2
    go_ret
    exact ⟨rfl, Below.refl _ _⟩

set_option maxHeartbeats 400000 in
theorem equal_eq (ga gb n ca cb : Nat) (f : Nat → ByteArray) (w : World) (hn : n ≤ 1000)
    (ha : ∀ k, k < n → w.cell? ⟨ga, k, none⟩ = some (.string (f k))) (hb : ∀ k, k < n → w.cell? ⟨gb, k, none⟩ = some (.string (f k))) :
    Calls Try.prog 10 #[.slice (some ⟨ga, 0, none⟩) n ca, .slice (some ⟨gb, 0, none⟩) n cb] w fun e w' => e = .returned (.bool true) ∧ Below w.heap.size w w' := by
  go_enter Try.func10, Try.ntmps10
  go_wp2
  go_loopw [5] (fun i wr => ∃ k j : Nat, k ≤ n ∧ i = .int .i64 k ∧ wr = w.drewN j) (fun i _ => n - (intOf i).toNat)
  case atStart => exact ⟨0, 0, Nat.zero_le _, rfl, rfl⟩
  case round =>
    obtain ⟨k, j, hk, rfl, rfl⟩ := hrel
    by_cases hlt : k < n
    · have hak := ha k hlt
      have hbk := hb k hlt
      clear ha hb
      have hlt' : (k : Int) < n := by omega
      go_wp2
      go_quiet (fail)
      go_wp2
      go_roundw
      case rel => exact ⟨k + 1, _, by omega, by go_num, rfl⟩
      case measure => simp [intOf]; omega
    · clear ha hb
      go_wp2
      go_ret
      exact ⟨rfl, rfl, rfl, rfl, Nat.le_refl _, fun _ _ => rfl⟩

/-- zzb1Equal of two slices that read as one list. -/
theorem equal_any (w : World) (v v' : Value) (l : List ByteArray) (hl : l.length ≤ 1000) (h : Reads w v l) (h' : Reads w v' l) :
    Calls Try.prog 10 #[v, v'] w fun e w' => e = .returned (.bool true) ∧ Below w.heap.size w w' := by
  by_cases e : l = []
  · subst e
    refine equal_none w v ?_ v' ?_
    · rcases h with ⟨h, _⟩ | ⟨g, cap, h, _⟩
      · exact .inl h
      · exact .inr ⟨_, _, h⟩
    · rcases h' with ⟨h, _⟩ | ⟨g, cap, h, _⟩
      · exact .inl h
      · exact .inr ⟨_, _, h⟩
  · rcases h with ⟨_, h⟩ | ⟨g, cap, rfl, h1⟩
    · exact absurd h e
    rcases h' with ⟨_, h⟩ | ⟨g', cap', rfl, h2⟩
    · exact absurd h e
    exact equal_eq g g' l.length cap cap' (fun j => l.getD j ⟨#[]⟩) w hl h1 h2
end Go.Proofs.Qxb6629077a
