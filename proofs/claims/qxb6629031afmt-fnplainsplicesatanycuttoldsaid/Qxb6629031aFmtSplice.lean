/-
  PLAIN: the text splices at any cut. No Go in sight.
-/
import Derived.Test.Qxb6629031aFmtModel
namespace Go.Proofs.Qxb6629031aFmt
open Go

/-- The kept tasks before the cut, and from it on. -/
def kA (kp : Nat → Bool) (c : Nat) (i : Nat) : Bool := kp i && decide (i < c)
def kB (kp : Nat → Bool) (c : Nat) (i : Nat) : Bool := kp i && decide (c ≤ i)

section
variable {id cm : Nat → List UInt8} {kp : Nat → Bool} {c : Nat}

theorem lastTo_some {n l : Nat} (h : lastTo id kp n = some l) {k : Nat} (hk : k ≤ n) : ∃ m, lastTo id kp k = some m := by
  cases e : lastTo id kp k with
  | some m => exact ⟨m, rfl⟩
  | none => rw [lastTo_none' e hk] at h; cases h

theorem step_of {k l : Nat} (h : lastTo id kp (k + 1) = some l) (hk : kp k = true) {m : Nat} (hm : lastTo id kp k = some m) : num (id k) = (l, 1) ∧ m < l := by
  simp only [lastTo] at h
  rw [hm] at h
  dsimp only at h
  rw [if_pos hk] at h
  by_cases hc : (num (id k)).2 = 1 ∧ m < (num (id k)).1
  · rw [if_pos hc, Option.some.injEq] at h
    exact ⟨by rw [← h, ← hc.1], by omega⟩
  · rw [if_neg hc] at h; cases h

theorem lowA : ∀ k, k ≤ c → lastTo id (kA kp c) k = lastTo id kp k ∧ txt id cm (kA kp c) k = txt id cm kp k
  | 0, _ => ⟨rfl, rfl⟩
  | k + 1, h => by
    obtain ⟨ih1, ih2⟩ := lowA k (by omega)
    have e : kA kp c k = kp k := by unfold kA; rw [decide_eq_true (by omega : k < c), Bool.and_true]
    simp only [lastTo, txt]
    rw [ih1, ih2, e]
    exact ⟨rfl, rfl⟩

theorem highA {L : Nat} (hL : lastTo id kp c = some L) : ∀ d, lastTo id (kA kp c) (c + d) = some L ∧ txt id cm (kA kp c) (c + d) = txt id cm kp c
  | 0 => by
    obtain ⟨h1, h2⟩ := lowA (id := id) (cm := cm) (kp := kp) (c := c) c (Nat.le_refl _)
    exact ⟨h1.trans hL, h2⟩
  | d + 1 => by
    obtain ⟨ih1, ih2⟩ := highA hL d
    have e : kA kp c (c + d) = false := by unfold kA; rw [decide_eq_false (by omega : ¬ c + d < c), Bool.and_false]
    rw [show c + (d + 1) = (c + d) + 1 from rfl]
    exact ⟨lastTo_skip ih1 e, by rw [txt_skip e]; exact ih2⟩

theorem lowB : ∀ k, k ≤ c → lastTo id (kB kp c) k = some 0 ∧ txt id cm (kB kp c) k = []
  | 0, _ => ⟨rfl, rfl⟩
  | k + 1, h => by
    obtain ⟨ih1, ih2⟩ := lowB k (by omega)
    have e : kB kp c k = false := by unfold kB; rw [decide_eq_false (by omega : ¬ c ≤ k), Bool.and_false]
    exact ⟨lastTo_skip ih1 e, by rw [txt_skip e]; exact ih2⟩

theorem highB {n l L : Nat} (hl : lastTo id kp n = some l) (hL : lastTo id kp c = some L) : ∀ d, c + d ≤ n →
    (lastTo id (kB kp c) (c + d) = some 0 ∧ txt id cm (kB kp c) (c + d) = [] ∧ txt id cm kp (c + d) = txt id cm kp c ∧ lastTo id kp (c + d) = some L) ∨
    (∃ m r, lastTo id (kB kp c) (c + d) = some m ∧ lastTo id kp (c + d) = some m ∧ txt id cm (kB kp c) (c + d) = List.replicate L 10 ++ r ∧ txt id cm kp (c + d) = txt id cm kp c ++ r ∧ r ≠ [])
  | 0, _ => by
    obtain ⟨h1, h2⟩ := lowB (id := id) (cm := cm) (kp := kp) (c := c) c (Nat.le_refl _)
    exact .inl ⟨h1, h2, rfl, hL⟩
  | d + 1, h => by
    have ih := highB hl hL d (by omega)
    obtain ⟨m1, hm1⟩ := lastTo_some hl (k := c + d + 1) (by omega)
    have e : kB kp c (c + d) = kp (c + d) := by unfold kB; rw [decide_eq_true (by omega : c ≤ c + d), Bool.and_true]
    rw [show c + (d + 1) = (c + d) + 1 from rfl]
    cases hk : kp (c + d) with
    | false =>
      rw [hk] at e
      rw [txt_skip e, txt_skip hk]
      rcases ih with ⟨i1, i2, i3, i4⟩ | ⟨m, r, i1, i2, i3, i4, i5⟩
      · exact .inl ⟨lastTo_skip i1 e, i2, i3, lastTo_skip i4 hk⟩
      · exact .inr ⟨m, r, lastTo_skip i1 e, lastTo_skip i2 hk, i3, i4, i5⟩
    | true =>
      rw [hk] at e
      rcases ih with ⟨i1, i2, i3, i4⟩ | ⟨m, r, i1, i2, i3, i4, i5⟩
      · obtain ⟨hnum, hlt⟩ := step_of hm1 hk i4
        refine .inr ⟨m1, List.replicate (m1 - 1 - L) 10 ++ cm (c + d) ++ [10], lastTo_take i1 e hnum (by omega), hm1, ?_, ?_, by simp⟩
        · rw [txt_take i1 e hnum, i2, show m1 - 1 - 0 = L + (m1 - 1 - L) from by omega, ← List.replicate_append_replicate]
          simp only [List.nil_append, List.append_assoc]
        · rw [txt_take i4 hk hnum, i3]
          simp
      · obtain ⟨hnum, hlt⟩ := step_of hm1 hk i2
        refine .inr ⟨m1, r ++ (List.replicate (m1 - 1 - m) 10 ++ cm (c + d) ++ [10]), lastTo_take i1 e hnum hlt, hm1, ?_, ?_, by simp⟩
        · rw [txt_take i1 e hnum, i3]
          simp
        · rw [txt_take i2 hk hnum, i4]
          simp

/-- The splice. -/
theorem splice {n l : Nat} (hl : lastTo id kp n = some l) (hc : c ≤ n) : ∃ L, lastTo id kp c = some L ∧ lastTo id (kA kp c) n = some L ∧ txt id cm (kA kp c) n = txt id cm kp c ∧
    ((txt id cm (kB kp c) n = [] ∧ lastTo id (kB kp c) n ≠ none ∧ txt id cm kp n = txt id cm kp c) ∨
     (∃ r, r ≠ [] ∧ lastTo id (kB kp c) n ≠ none ∧ txt id cm (kB kp c) n = List.replicate L 10 ++ r ∧ txt id cm kp n = txt id cm kp c ++ r)) := by
  obtain ⟨L, hL⟩ := lastTo_some hl hc
  have hA := highA (cm := cm) hL (n - c)
  have hB := highB (cm := cm) hl hL (n - c) (by omega)
  rw [show c + (n - c) = n from by omega] at hA hB
  refine ⟨L, hL, hA.1, hA.2, ?_⟩
  rcases hB with ⟨i1, i2, i3, i4⟩ | ⟨m, r, i1, i2, i3, i4, i5⟩
  · exact .inl ⟨i2, by rw [i1]; simp, i3⟩
  · exact .inr ⟨r, i5, by rw [i1]; simp, i3, i4⟩
end
end Go.Proofs.Qxb6629031aFmt
