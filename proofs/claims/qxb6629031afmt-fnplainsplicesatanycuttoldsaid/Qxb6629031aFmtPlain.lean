/-
  PLAIN: line numbers, the text that Plain writes, the line table of the model. No Go in sight.
-/
import Derived.Lib.AtoiAll
namespace Go.Proofs.Qxb6629031aFmt
open Go

/-- The digits of a line number: the value so far, and whether it has passed 65536. -/
def scan (v : Nat) (big : Bool) : List UInt8 → Option (Nat × Bool)
  | [] => some (v, big)
  | c :: r =>
    if 48 ≤ c.toNat ∧ c.toNat ≤ 57 then
      if big then scan v true r else scan (v * 10 + (c.toNat - 48)) (decide (65536 < v * 10 + (c.toNat - 48))) r
    else none

def isNeg (l : List UInt8) : Bool := decide (l.head?.map (·.toNat) = some 45)
def isSign (l : List UInt8) : Bool := decide (l.head?.map (·.toNat) = some 43 ∨ l.head?.map (·.toNat) = some 45)
def bodyOf (l : List UInt8) : List UInt8 := if isSign l then l.tail else l

/-- plainLineNumber: the value and the kind. -/
def num (l : List UInt8) : Nat × Nat :=
  if bodyOf l = [] then (0, 0)
  else match scan 0 false (bodyOf l) with
    | none => (0, 0)
    | some (v, big) => if isNeg l then (0, 0) else if big then (0, 2) else if v < 1 then (0, 0) else (v, 1)

theorem scan_big : ∀ (l : List UInt8) (v u : Nat) (b : Bool), scan v true l = some (u, b) → b = true
  | [], v, u, b, h => by simp only [scan, Option.some.injEq, Prod.mk.injEq] at h; exact h.2.symm
  | c :: r, v, u, b, h => by
    simp only [scan] at h
    split at h
    · exact scan_big r v u b (by simpa using h)
    · cases h

theorem scan_small : ∀ (l : List UInt8) (a v : Nat), a ≤ 65536 → scan a false l = some (v, false) → Lib.parseUint10 a l = .ok v ∧ v ≤ 65536
  | [], a, v, ha, h => by
    simp only [scan, Option.some.injEq, Prod.mk.injEq] at h
    obtain ⟨rfl, _⟩ := h
    exact ⟨rfl, ha⟩
  | c :: r, a, v, ha, h => by
    simp only [scan] at h
    split at h
    · rename_i hd
      simp only [Bool.false_eq_true, if_false] at h
      by_cases hb : 65536 < a * 10 + (c.toNat - 48)
      · rw [decide_eq_true hb] at h
        have := scan_big _ _ _ _ h
        cases this
      · rw [decide_eq_false hb] at h
        have ih := scan_small r _ v (by omega) h
        refine ⟨?_, ih.2⟩
        simp only [Lib.parseUint10]
        rw [if_pos hd, if_neg (by omega), if_neg (by omega)]
        exact ih.1
    · cases h

theorem scan_none : ∀ (l : List UInt8) (a b u : Nat) (big : Bool), scan a big l = none → Lib.parseUint10 b l ≠ .ok u
  | [], a, b, u, big, h => by cases h
  | c :: r, a, b, u, big, h => by
    intro hp
    simp only [Lib.parseUint10] at hp
    simp only [scan] at h
    by_cases hd : 48 ≤ c.toNat ∧ c.toNat ≤ 57
    · rw [if_pos hd] at hp h
      by_cases h1 : 1844674407370955162 ≤ b
      · rw [if_pos h1] at hp; cases hp
      rw [if_neg h1] at hp
      by_cases h2 : 18446744073709551616 ≤ b * 10 + (c.toNat - 48)
      · rw [if_pos h2] at hp; cases hp
      rw [if_neg h2] at hp
      by_cases hb : big = true
      · rw [if_pos hb] at h; exact scan_none r _ _ u _ h hp
      · rw [if_neg hb] at h; exact scan_none r _ _ u _ h hp
    · rw [if_neg hd] at hp; cases hp

theorem atoi_cons (c : UInt8) (r : List UInt8) (v : Int) : Lib.atoiAll (c :: r) = .ok v →
    ∃ u, Lib.parseMag (bodyOf (c :: r)) = .ok u ∧ v = if c.toNat = 45 then -(u : Int) else u := by
  intro h
  have eb : bodyOf (c :: r) = if c.toNat = 43 ∨ c.toNat = 45 then r else c :: r := by
    unfold bodyOf isSign
    simp
  simp only [Lib.atoiAll] at h
  rw [← eb] at h
  split at h
  · cases h
  · cases h
  · rename_i u hu
    split at h
    · cases h
    split at h
    · cases h
    injection h with h
    exact ⟨u, hu, h.symm⟩

theorem num_one {l : List UInt8} {v : Nat} (h : num l = (v, 1)) : Lib.atoiAll l = .ok (v : Int) ∧ 1 ≤ v ∧ v ≤ 65536 := by
  unfold num at h
  by_cases h0 : bodyOf l = []
  · rw [if_pos h0] at h; simp at h
  rw [if_neg h0] at h
  cases hs : scan 0 false (bodyOf l) with
  | none => rw [hs] at h; simp at h
  | some r =>
    obtain ⟨u, big⟩ := r
    rw [hs] at h
    dsimp only at h
    by_cases hn : isNeg l = true
    · rw [if_pos hn] at h; simp at h
    rw [if_neg hn] at h
    by_cases hb : big = true
    · rw [if_pos hb] at h; simp at h
    rw [if_neg hb] at h
    by_cases hv : u < 1
    · rw [if_pos hv] at h; simp at h
    rw [if_neg hv] at h
    simp only [Prod.mk.injEq, and_true] at h
    subst h
    have hb' : big = false := by simpa using hb
    subst hb'
    obtain ⟨p1, p2⟩ := scan_small _ 0 u (by omega) hs
    refine ⟨?_, by omega, p2⟩
    cases l with
    | nil => exact absurd rfl h0
    | cons c r =>
      have eb : bodyOf (c :: r) = if c.toNat = 43 ∨ c.toNat = 45 then r else c :: r := by
        unfold bodyOf isSign
        simp
      have hc : ¬ c.toNat = 45 := by
        intro hc; apply hn; unfold isNeg; simp [hc]
      have hm : Lib.parseMag (bodyOf (c :: r)) = .ok u := by unfold Lib.parseMag; rw [if_neg h0]; exact p1
      simp only [Lib.atoiAll]
      rw [← eb, hm]
      dsimp only
      rw [if_neg (by omega), if_neg (by omega), if_neg hc]

theorem num_zero {l : List UInt8} {x : Nat} (h : num l = (x, 0)) (v : Int) (hv : Lib.atoiAll l = .ok v) : v < 1 := by
  cases l with
  | nil => simp [Lib.atoiAll] at hv
  | cons c r =>
    obtain ⟨u, hu, rfl⟩ := atoi_cons c r v hv
    by_cases hc : c.toNat = 45
    · rw [if_pos hc]; omega
    rw [if_neg hc]
    unfold Lib.parseMag at hu
    by_cases h0 : bodyOf (c :: r) = []
    · rw [if_pos h0] at hu; cases hu
    rw [if_neg h0] at hu
    unfold num at h
    rw [if_neg h0] at h
    have hn : isNeg (c :: r) = false := by unfold isNeg; simp [hc]
    cases hs : scan 0 false (bodyOf (c :: r)) with
    | none => exact absurd hu (scan_none _ _ _ _ _ hs)
    | some p =>
      obtain ⟨y, big⟩ := p
      rw [hs, hn] at h
      simp only [Bool.false_eq_true, if_false] at h
      cases big with
      | true => simp at h
      | false =>
        simp only [Bool.false_eq_true, if_false] at h
        have := (scan_small _ 0 y (by omega) hs).1
        rw [this] at hu
        injection hu with hu
        by_cases hy : y < 1
        · omega
        · rw [if_neg hy] at h; simp at h

theorem num_kind (l : List UInt8) : (num l).2 = 0 ∨ (num l).2 = 1 ∨ (num l).2 = 2 := by
  unfold num
  split
  · simp
  split
  · simp
  split
  · simp
  split
  · simp
  split <;> simp

/-! ### The kept tasks, in order -/
section
variable (id cm : Nat → List UInt8) (kp : Nat → Bool)

/-- The last kept line number of the first k tasks; nothing where a kept id is no line number or the numbers do not rise. -/
def lastTo : Nat → Option Nat
  | 0 => some 0
  | k + 1 => match lastTo k with
    | none => none
    | some l => if kp k then (if (num (id k)).2 = 1 ∧ l < (num (id k)).1 then some (num (id k)).1 else none) else some l

/-- The text of the first k tasks. -/
def txt : Nat → List UInt8
  | 0 => []
  | k + 1 => if kp k then txt k ++ List.replicate ((num (id k)).1 - 1 - (lastTo id kp k).getD 0) 10 ++ cm k ++ [10] else txt k

/-- The line table of the first k tasks. -/
def tbl : Nat → Nat → List UInt8
  | 0, _ => []
  | k + 1, j => if kp k ∧ j = (num (id k)).1 - 1 then cm k else tbl k j

/-- The first j lines of a table. -/
def cat (f : Nat → List UInt8) : Nat → List UInt8
  | 0 => []
  | j + 1 => cat f j ++ f j ++ [10]

theorem cat_congr {f g : Nat → List UInt8} : ∀ {j : Nat}, (∀ i, i < j → f i = g i) → cat f j = cat g j
  | 0, _ => rfl
  | j + 1, h => by simp only [cat]; rw [cat_congr (fun i hi => h i (by omega)), h j (by omega)]

theorem cat_empty {f : Nat → List UInt8} {l : Nat} (h : ∀ i, l ≤ i → f i = []) : ∀ d, cat f (l + d) = cat f l ++ List.replicate d 10
  | 0 => by simp
  | d + 1 => by
    rw [show l + (d + 1) = (l + d) + 1 from rfl]
    simp only [cat]
    rw [cat_empty h d, h (l + d) (by omega), List.replicate_succ']
    simp

theorem txt_cat : ∀ k l, lastTo id kp k = some l → txt id cm kp k = cat (tbl id cm kp k) l ∧ ∀ i, l ≤ i → tbl id cm kp k i = []
  | 0, l, h => by
    simp only [lastTo, Option.some.injEq] at h
    subst h
    exact ⟨rfl, fun i _ => rfl⟩
  | k + 1, l, h => by
    simp only [lastTo] at h
    cases hk : lastTo id kp k with
    | none => rw [hk] at h; cases h
    | some l0 =>
      rw [hk] at h
      dsimp only at h
      obtain ⟨ih1, ih2⟩ := txt_cat k l0 hk
      by_cases hp : kp k = true
      · rw [if_pos hp] at h
        by_cases hc : (num (id k)).2 = 1 ∧ l0 < (num (id k)).1
        · rw [if_pos hc, Option.some.injEq] at h
          obtain ⟨v, hv⟩ : ∃ v, (num (id k)).1 = v + 1 := ⟨(num (id k)).1 - 1, by omega⟩
          subst h
          simp only [txt]
          rw [if_pos hp, hk, hv]
          simp only [Option.getD_some, cat]
          have e1 : tbl id cm kp (k + 1) v = cm k := by simp only [tbl]; rw [if_pos ⟨hp, by omega⟩]
          have e2 : cat (tbl id cm kp (k + 1)) v = cat (tbl id cm kp k) v := cat_congr (fun i hi => by simp only [tbl]; rw [if_neg (by omega)])
          have e3 := cat_empty ih2 (v - l0)
          rw [show l0 + (v - l0) = v from by omega] at e3
          refine ⟨?_, fun i hi => ?_⟩
          · rw [e1, e2, e3, ih1, show v + 1 - 1 - l0 = v - l0 from by omega]
          · simp only [tbl]; rw [if_neg (by omega)]; exact ih2 i (by omega)
        · rw [if_neg hc] at h; cases h
      · rw [if_neg hp, Option.some.injEq] at h
        subst h
        simp only [txt]
        rw [if_neg hp]
        refine ⟨?_, fun i hi => ?_⟩
        · rw [ih1]; exact cat_congr (fun i _ => by simp only [tbl]; rw [if_neg (fun x => hp x.1)])
        · simp only [tbl]; rw [if_neg (fun x => hp x.1)]; exact ih2 i hi

end
end Go.Proofs.Qxb6629031aFmt
