/-
  PLAIN: the preferred head of a byte string, and that PreferredBytes accepts exactly what begins with the preferred head for the rest.
-/
import Derived.Test.Qxb6628474aFmtPlain
namespace Go.Proofs.Qxb6628474aFmt

/-- zzPrefByteStringHead, at lengths below 2^32. -/
def ph (n : Int) : List Int :=
  if n < 24 then [64 + n] else if n ≤ 255 then [88, n] else if n ≤ 65535 then [89, n / 256, n % 256]
  else [90, n / 16777216 % 256, n / 65536 % 256, n / 256 % 256, n % 256]

/-- zzHeadLen. -/
def hl : Nat → Nat
  | 0 => 1
  | 1 => 2
  | 2 => 3
  | 3 => 5
  | _ => 9

/-- The text begins with the preferred head, h numbers long, of what follows it. -/
def Good (zs : List Int) (h : Nat) : Prop :=
  h ≤ zs.length ∧ (ph ((zs.length : Int) - h)).length = h ∧ ∀ j, j < h → zs.getD j 0 = (ph ((zs.length : Int) - h)).getD j 0

theorem ph1 {n : Int} (h : n < 24) : ph n = [64 + n] := by unfold ph; rw [if_pos h]
theorem ph2 {n : Int} (h : 24 ≤ n) (h' : n ≤ 255) : ph n = [88, n] := by unfold ph; rw [if_neg (by omega), if_pos h']
theorem ph3 {n : Int} (h : 256 ≤ n) (h' : n ≤ 65535) : ph n = [89, n / 256, n % 256] := by unfold ph; rw [if_neg (by omega), if_neg (by omega), if_pos h']
theorem ph5 {n : Int} (h : 65536 ≤ n) : ph n = [90, n / 16777216 % 256, n / 65536 % 256, n / 256 % 256, n % 256] := by unfold ph; rw [if_neg (by omega), if_neg (by omega), if_neg (by omega)]

theorem good_pb {zs : List Int} (_hb : Bytes zs) (hN : zs.length ≤ 2000000) {h : Nat} (g : Good zs h) : pb zs = some h := by
  obtain ⟨g1, g2, g3⟩ := g
  by_cases c1 : (zs.length : Int) - h < 24
  · rw [ph1 c1] at g2 g3
    obtain rfl : h = 1 := by simpa using g2.symm
    have e0 := g3 0 (by omega)
    simp only [List.getD_cons_zero] at e0
    have e1 : hd zs = some (zs.getD 0 0 / 32, zs.getD 0 0 % 32, 1) := by
      unfold hd; rw [if_neg (by omega), if_pos (by omega)]
    unfold pb; rw [e1]; dsimp only
    rw [if_pos (by constructor <;> omega)]
  by_cases c2 : (zs.length : Int) - h ≤ 255
  · rw [ph2 (by omega) c2] at g2 g3
    obtain rfl : h = 2 := by simpa using g2.symm
    have e0 := g3 0 (by omega)
    have e1 := g3 1 (by omega)
    simp only [List.getD_cons_zero, List.getD_cons_succ] at e0 e1
    have eb : be zs 1 = zs.getD 1 0 := by simp [be]
    have e2 : hd zs = some (zs.getD 0 0 / 32, be zs 1, 1 + 1) := by
      unfold hd hdTail; rw [if_neg (by omega), if_neg (by omega), if_pos (by omega), if_neg (by omega), if_neg (by rw [if_neg (by omega)]; omega)]
    unfold pb; rw [e2]; dsimp only
    rw [if_pos (by constructor <;> omega)]
  by_cases c3 : (zs.length : Int) - h ≤ 65535
  · rw [ph3 (by omega) c3] at g2 g3
    obtain rfl : h = 3 := by simpa using g2.symm
    have e0 := g3 0 (by omega)
    have e1 := g3 1 (by omega)
    have e2 := g3 2 (by omega)
    simp only [List.getD_cons_zero, List.getD_cons_succ] at e0 e1 e2
    have eb : be zs 2 = zs.getD 1 0 * 256 + zs.getD 2 0 := by simp [be]
    have e3 : hd zs = some (zs.getD 0 0 / 32, be zs 2, 1 + 2) := by
      unfold hd hdTail; rw [if_neg (by omega), if_neg (by omega), if_neg (by omega), if_neg (by omega), if_pos (by omega), if_neg (by omega), if_neg (by rw [if_neg (by omega)]; omega)]
    unfold pb; rw [e3]; dsimp only
    rw [if_pos (by constructor <;> omega)]
  · rw [ph5 (by omega)] at g2 g3
    obtain rfl : h = 5 := by simpa using g2.symm
    have e0 := g3 0 (by omega)
    have e1 := g3 1 (by omega)
    have e2 := g3 2 (by omega)
    have e3 := g3 3 (by omega)
    have e4 := g3 4 (by omega)
    simp only [List.getD_cons_zero, List.getD_cons_succ] at e0 e1 e2 e3 e4
    have eb : be zs 4 = ((zs.getD 1 0 * 256 + zs.getD 2 0) * 256 + zs.getD 3 0) * 256 + zs.getD 4 0 := by simp [be]
    have e5 : hd zs = some (zs.getD 0 0 / 32, be zs 4, 1 + 4) := by
      unfold hd hdTail; rw [if_neg (by omega), if_neg (by omega), if_neg (by omega), if_neg (by omega), if_neg (by omega), if_pos (by omega), if_neg (by omega), if_neg (by rw [if_neg (by omega)]; omega)]
    unfold pb; rw [e5]; dsimp only
    rw [if_pos (by constructor <;> omega)]

theorem all1 {P : Nat → Prop} (h0 : P 0) : ∀ j, j < 1 → P j := fun j hj => by
  obtain rfl : j = 0 := by omega
  exact h0
theorem all2 {P : Nat → Prop} (h0 : P 0) (h1 : P 1) : ∀ j, j < 2 → P j := fun j hj => by
  rcases (by omega : j = 0 ∨ j = 1) with rfl | rfl
  · exact h0
  · exact h1
theorem all3 {P : Nat → Prop} (h0 : P 0) (h1 : P 1) (h2 : P 2) : ∀ j, j < 3 → P j := fun j hj => by
  rcases (by omega : j = 0 ∨ j = 1 ∨ j = 2) with rfl | rfl | rfl
  · exact h0
  · exact h1
  · exact h2
theorem all5 {P : Nat → Prop} (h0 : P 0) (h1 : P 1) (h2 : P 2) (h3 : P 3) (h4 : P 4) : ∀ j, j < 5 → P j := fun j hj => by
  rcases (by omega : j = 0 ∨ j = 1 ∨ j = 2 ∨ j = 3 ∨ j = 4) with rfl | rfl | rfl | rfl | rfl
  · exact h0
  · exact h1
  · exact h2
  · exact h3
  · exact h4

theorem pb_good {zs : List Int} (hb : Bytes zs) (hN : zs.length ≤ 2000000) {h : Nat} (e : pb zs = some h) : Good zs h := by
  have h0 := hb 0
  have b1 := hb 1
  have b2 := hb 2
  have b3 := hb 3
  have b4 := hb 4
  unfold pb at e
  cases hk : hd zs with
  | none => rw [hk] at e; cases e
  | some r =>
    obtain ⟨m, a, k⟩ := r
    rw [hk] at e
    dsimp only at e
    by_cases hc : m = 2 ∧ a = (zs.length : Int) - k
    · rw [if_pos hc] at e
      obtain ⟨hm, ha⟩ := hc
      simp only [Option.some.injEq] at e
      subst e
      unfold hd at hk
      by_cases c1 : zs.length = 0
      · rw [if_pos c1] at hk; cases hk
      rw [if_neg c1] at hk
      by_cases c2 : zs.getD 0 0 % 32 < 24
      · rw [if_pos c2] at hk
        simp only [Option.some.injEq, Prod.mk.injEq] at hk
        obtain ⟨k1, k2, rfl⟩ := hk
        unfold Good
        rw [ph1 (by omega)]
        exact ⟨by omega, rfl, all1 (by simp only [List.getD_cons_zero]; omega)⟩
      rw [if_neg c2] at hk
      by_cases c3 : zs.getD 0 0 % 32 = 24
      · rw [if_pos c3] at hk
        obtain ⟨k1, k2, k3, k4, rfl⟩ := hdTail_ok hk
        rw [if_neg (by omega)] at k2
        have eb : be zs 1 = zs.getD 1 0 := by simp [be]
        unfold Good
        rw [ph2 (by omega) (by omega)]
        exact ⟨by omega, rfl, all2 (by simp only [List.getD_cons_zero]; omega) (by simp only [List.getD_cons_succ, List.getD_cons_zero]; omega)⟩
      rw [if_neg c3] at hk
      by_cases c4 : zs.getD 0 0 / 32 = 7
      · rw [if_pos c4] at hk; cases hk
      rw [if_neg c4] at hk
      by_cases c5 : zs.getD 0 0 % 32 = 25
      · rw [if_pos c5] at hk
        obtain ⟨k1, k2, k3, k4, rfl⟩ := hdTail_ok hk
        rw [if_neg (by omega)] at k2
        have eb : be zs 2 = zs.getD 1 0 * 256 + zs.getD 2 0 := by simp [be]
        unfold Good
        rw [ph3 (by omega) (by omega)]
        exact ⟨by omega, rfl, all3 (by simp only [List.getD_cons_zero]; omega) (by simp only [List.getD_cons_succ, List.getD_cons_zero]; omega) (by simp only [List.getD_cons_succ, List.getD_cons_zero]; omega)⟩
      rw [if_neg c5] at hk
      by_cases c6 : zs.getD 0 0 % 32 = 26
      · rw [if_pos c6] at hk
        obtain ⟨k1, k2, k3, k4, rfl⟩ := hdTail_ok hk
        rw [if_neg (by omega)] at k2
        have eb : be zs 4 = ((zs.getD 1 0 * 256 + zs.getD 2 0) * 256 + zs.getD 3 0) * 256 + zs.getD 4 0 := by simp [be]
        unfold Good
        rw [ph5 (by omega)]
        exact ⟨by omega, rfl, all5 (by simp only [List.getD_cons_zero]; omega) (by simp only [List.getD_cons_succ, List.getD_cons_zero]; omega) (by simp only [List.getD_cons_succ, List.getD_cons_zero]; omega) (by simp only [List.getD_cons_succ, List.getD_cons_zero]; omega) (by simp only [List.getD_cons_succ, List.getD_cons_zero]; omega)⟩
      rw [if_neg c6] at hk
      by_cases c7 : zs.getD 0 0 % 32 = 27
      · rw [if_pos c7] at hk
        obtain ⟨k1, k2, k3, k4, rfl⟩ := hdTail_ok hk
        rw [if_neg (by omega)] at k2
        omega
      rw [if_neg c7] at hk; cases hk
    · rw [if_neg hc] at e; cases e

theorem pb_none {zs : List Int} (hb : Bytes zs) (hN : zs.length ≤ 2000000) (g : ∀ j, j < 5 → ¬ Good zs (hl j)) : pb zs = none := by
  cases e : pb zs with
  | none => rfl
  | some h =>
    have k := pb_good hb hN e
    obtain ⟨k1, k2, k3⟩ := pb_ok hb e
    unfold hsz at k3
    exfalso
    split at k3
    · exact g 0 (by omega) (by rw [show hl 0 = h from by show 1 = h; omega]; exact k)
    split at k3
    · exact g 1 (by omega) (by rw [show hl 1 = h from by show 2 = h; omega]; exact k)
    split at k3
    · exact g 2 (by omega) (by rw [show hl 2 = h from by show 3 = h; omega]; exact k)
    split at k3
    · exact g 3 (by omega) (by rw [show hl 3 = h from by show 5 = h; omega]; exact k)
    · exact g 4 (by omega) (by rw [show hl 4 = h from by show 9 = h; omega]; exact k)

theorem ph_length (n : Int) : (ph n).length ≤ 5 := by
  unfold ph; split
  · simp
  split
  · simp
  split <;> simp

end Go.Proofs.Qxb6628474aFmt
