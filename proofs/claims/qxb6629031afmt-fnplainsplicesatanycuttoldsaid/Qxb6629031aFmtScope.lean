/-
  plainInScope.
-/
import Derived.Test.Qxb6629031aFmtLens
namespace Go.Proofs.Qxb6629031aFmt
open Go.RowKit
set_option linter.unusedVariables false

def tot (f g : Nat → ByteArray) : Nat → Nat
  | 0 => 0
  | k + 1 => tot f g k + (f k).size + (g k).size

theorem tot_le (f g : Nat → ByteArray) : ∀ n i, i < n → (f i).size + (g i).size ≤ tot f g n
  | 0, i, h => by omega
  | n + 1, i, h => by
    simp only [tot]
    by_cases e : i = n
    · subst e; omega
    · have := tot_le f g n i (by omega); omega

/-- What plainInScope asks. -/
def Scope (n1 n2 n3 : Nat) (f g : Nat → ByteArray) (kp : Nat → Bool) : Prop :=
  n2 = n1 ∧ n1 ≤ n3 ∧ 32 * n1 + tot f g n1 ≤ 1048576 ∧ ∀ i, i < n1 → kp i = true → (num (bs (f i))).2 ≠ 2

def ScopePost (n1 n2 n3 : Nat) (f g : Nat → ByteArray) (kp : Nat → Bool) (w : World) (e : Ending) (w' : World) : Prop :=
  ∃ b : Bool, e = .returned (.bool b) ∧ w = w' ∧ (b = true → Scope n1 n2 n3 f g kp)

theorem scope_no {n1 n2 n3 : Nat} {f g : Nat → ByteArray} {kp : Nat → Bool} {w : World} : ScopePost n1 n2 n3 f g kp w (.returned (.bool false)) w := ⟨false, rfl, rfl, fun h => by cases h⟩

theorem num_any (s : ByteArray) (w : World) (hs : s.size ≤ 1048576) (v q : Nat) (hv : Hid (num (bs s) = (v, q))) : Calls Tryf.prog 12 #[.string s] w fun e w' => e = .returned (.tuple #[.int .i64 v, .int .i64 q]) ∧ w = w' := by
  have : Calls Tryf.prog 12 #[.string s] w fun e w' => NumPost s w e w' := by
    by_cases h : 0 < s.size
    · exact num_walk s w h hs
    · exact num_empty s w (by omega)
  refine this.mono ?_
  rintro e w' ⟨rfl, rfl⟩
  rw [hv.out]
  exact ⟨rfl, rfl⟩

theorem kind_two (q : Nat) : (((q : Int) == 2) = true ∧ q = 2) ∨ (((q : Int) == 2) = false ∧ q ≠ 2) := by
  by_cases h : q = 2
  · exact .inl ⟨by simp; omega, h⟩
  · exact .inr ⟨by simp; omega, h⟩

set_option maxRecDepth 20000 in
set_option maxHeartbeats 2000000 in
theorem scope_any (a b c d : Option Addr) (n1 n2 n3 n4 c1 c2 c3 c4 : Nat) (f g : Nat → ByteArray) (kp : Nat → Bool) (w : World) (hn1 : n1 ≤ 65536) (hn2 : n2 ≤ 65536) (hn3 : n3 ≤ 65536) (hn4 : n4 ≤ 65536) (hf : Strs w a n1 f) (hg : Strs w b n2 g) (hk : Bits w c n3 kp) (HF : Hid (Fits n1 f)) (HG : Hid (Fits n2 g)) :
    Calls Tryf.prog 6 #[.slice a n1 c1, .slice b n2 c2, .slice c n3 c3, .slice d n4 c4] w fun e w' => ScopePost n1 n2 n3 f g kp w e w' := by
  by_cases h1 : ¬ n2 = n1
  · have h1' : ((n2 : Int) == n1) = false := by simp; omega
    go_enter Tryf.func6, Tryf.ntmps6
    go_wp2
    go_ret
    exact scope_no
  replace h1 := Decidable.not_not.mp h1
  subst h1
  by_cases h2 : n3 < n2
  · have h2' : decide ((n3 : Int) < n2) = true := by simp; omega
    have h2'' : decide (n3 < n2) = true := by simp; omega
    go_enter Tryf.func6, Tryf.ntmps6
    go_wp2
    go_ret
    exact scope_no
  have h2' : decide ((n3 : Int) < n2) = false := by simp; omega
  have h2'' : decide (n3 < n2) = false := by simp; omega
  obtain ⟨u0, hu0⟩ : ∃ u0 : Nat, u0 = 16 * n2 + 16 * n2 + n3 + n4 := ⟨_, rfl⟩
  have HU : Hid (u0 = 16 * n2 + 16 * n2 + n3 + n4) := hu0
  clear hu0
  by_cases hbig : 1048576 < u0
  · have t1 : decide ((1048576 : Int) < 16 * n2 + 16 * n2 + n3 + n4) = true := by have := HU.out; simp; omega
    go_enter Tryf.func6, Tryf.ntmps6
    go_wp2
    all_goals
      go_ret
      exact scope_no
  have t1 : decide ((1048576 : Int) < 16 * n2 + 16 * n2 + n3 + n4) = false := by have := HU.out; simp; omega
  have t1' : u0 ≤ 1048576 := by omega
  clear hbig
  go_enter Tryf.func6, Tryf.ntmps6
  go_wp2
  go_loop [9, 10] (fun z i => ∃ k u : Nat, k ≤ n2 ∧ u ≤ 1048576 ∧ i = .int .i64 k ∧ z = .int .i64 u ∧ Hid (u = u0 + tot f g k)) (fun _ i => n2 - (intOf i).toNat)
  case atStart => exact ⟨0, u0, Nat.zero_le _, t1', rfl, (by have := HU.out; rw [this]; go_num), rfl⟩
  case round =>
    obtain ⟨k, u, hku, hu, rfl, rfl, HT⟩ := hrel
    by_cases hlt : k < n2
    · obtain ⟨ga, rfl, hc, hs⟩ := hf k hlt
      obtain ⟨gb, rfl, hc', hs'⟩ := hg k hlt
      clear hf hg hk
      have hs1 := HF.out k hlt
      have hs2 := HG.out k hlt
      rcases over2 u (f k).size with ⟨t2, t2'⟩ | ⟨t2, t2'⟩
      · go_wp2
        go_ret
        exact scope_no
      rcases over3 u (f k).size (g k).size with ⟨t3, t3'⟩ | ⟨t3, t3'⟩
      · go_wp2
        go_ret
        exact scope_no
      · go_wp2
        go_round
        case rel => exact ⟨k + 1, u + (f k).size + (g k).size, by omega, t3', by go_num, by go_num, by show _ = _; rw [HT.out]; simp only [tot]; omega⟩
        case measure => simp [intOf]; omega
    · obtain rfl : k = n2 := by omega
      clear hg
      have HT2 : Hid (∀ i, i < k → (f i).size ≤ 1048576) := by
        intro i hi; have := tot_le f g k i hi; have := HT.out; omega
      have HT3 : Hid (32 * k + tot f g k ≤ 1048576) := by
        show _ ≤ _; have := HT.out; have := HU.out; omega
      clear HT HU t1 t1'
      go_wp2
      go_loop [11] (fun i => ∃ j : Nat, j ≤ k ∧ i = .int .i64 j ∧ Hid (∀ i, i < j → kp i = true → (num (bs (f i))).2 ≠ 2)) (fun i => k - (intOf i).toNat)
      case atStart => exact ⟨0, Nat.zero_le _, rfl, fun i hi => by omega⟩
      case round =>
        obtain ⟨j, hj, rfl, HK⟩ := hrel
        by_cases hlt : j < k
        · obtain ⟨gc, rfl, hcc⟩ := hk j (by omega)
          obtain ⟨ga, rfl, hc, hs⟩ := hf j hlt
          clear hf hk
          have hsz := HT2.out j hlt
          cases hkp : kp j with
          | false =>
            rw [hkp] at hcc
            go_wp2
            go_round
            case rel => exact ⟨j + 1, by omega, by go_num, fun i hi hi' => by
              by_cases e : i = j
              · subst e; rw [hkp] at hi'; cases hi'
              · exact HK.out i (by omega) hi'⟩
            case measure => simp [intOf]; omega
          | true =>
            rw [hkp] at hcc
            obtain ⟨v, q, hvq⟩ : ∃ v q, Hid (num (bs (f j)) = (v, q)) := ⟨_, _, rfl⟩
            rcases kind_two q with ⟨t2, t2'⟩ | ⟨t2, t2'⟩
            · go_wp2_with (go_at_call 12; refine (num_any (f j) _ hsz v q hvq).mono ?_; rintro e w' ⟨rfl, rfl⟩)
              go_ret
              exact scope_no
            · go_wp2_with (go_at_call 12; refine (num_any (f j) _ hsz v q hvq).mono ?_; rintro e w' ⟨rfl, rfl⟩)
              go_round
              case rel => exact ⟨j + 1, by omega, by go_num, fun i hi hi' => by
                by_cases e : i = j
                · subst e; rw [hvq.out]; exact t2'
                · exact HK.out i (by omega) hi'⟩
              case measure => simp [intOf]; omega
        · obtain rfl : j = k := by omega
          go_wp2
          go_ret
          exact ⟨true, rfl, rfl, fun _ => ⟨rfl, by omega, HT3.out, HK.out⟩⟩
end Go.Proofs.Qxb6629031aFmt
