/-
  PLAIN: what package strictcbor's head and PreferredBytes give, on lists of numbers. No Go in sight.
-/
namespace Go.Proofs.Qxb6628474aFmt

/-- The big-endian number of the k numbers behind the first. -/
def be (zs : List Int) : Nat → Int
  | 0 => 0
  | k + 1 => be zs k * 256 + zs.getD (k + 1) 0

def Bytes (zs : List Int) : Prop := ∀ j, 0 ≤ zs.getD j 0 ∧ zs.getD j 0 ≤ 255

def hdTail (zs : List Int) (m : Int) (s : Nat) (small : Int) : Option (Int × Int × Nat) :=
  if zs.length < 1 + s then none
  else if be zs s < (if m = 7 then 32 else small) then none
  else some (m, be zs s, 1 + s)

/-- What head gives at place 0: the major type, the argument, where the content begins. -/
def hd (zs : List Int) : Option (Int × Int × Nat) :=
  if zs.length = 0 then none
  else if zs.getD 0 0 % 32 < 24 then some (zs.getD 0 0 / 32, zs.getD 0 0 % 32, 1)
  else if zs.getD 0 0 % 32 = 24 then hdTail zs (zs.getD 0 0 / 32) 1 24
  else if zs.getD 0 0 / 32 = 7 then none
  else if zs.getD 0 0 % 32 = 25 then hdTail zs (zs.getD 0 0 / 32) 2 256
  else if zs.getD 0 0 % 32 = 26 then hdTail zs (zs.getD 0 0 / 32) 4 65536
  else if zs.getD 0 0 % 32 = 27 then hdTail zs (zs.getD 0 0 / 32) 8 4294967296
  else none

/-- What PreferredBytes gives: where the content begins, or nothing. -/
def pb (zs : List Int) : Option Nat :=
  match hd zs with
  | some (m, a, h) => if m = 2 ∧ a = (zs.length : Int) - h then some h else none
  | none => none

/-- HeadSize. -/
def hsz (a : Int) : Int := if a < 24 then 1 else if a ≤ 255 then 2 else if a ≤ 65535 then 3 else if a ≤ 4294967295 then 5 else 9

theorem be_bounds {zs : List Int} (hb : Bytes zs) (k : Nat) : 0 ≤ be zs k ∧ be zs k < 256 ^ k := by
  induction k with
  | zero => simp [be]
  | succ k ih =>
    have := hb (k + 1)
    simp only [be, Int.pow_succ]
    omega

theorem hdTail_ok {zs : List Int} {m m' a sm : Int} {s h : Nat} (e : hdTail zs m s sm = some (m', a, h)) :
    1 + s ≤ zs.length ∧ (if m = 7 then 32 else sm) ≤ be zs s ∧ m' = m ∧ a = be zs s ∧ h = 1 + s := by
  unfold hdTail at e
  by_cases h1 : zs.length < 1 + s
  · rw [if_pos h1] at e; cases e
  rw [if_neg h1] at e
  by_cases h2 : be zs s < (if m = 7 then 32 else sm)
  · rw [if_pos h2] at e; cases e
  rw [if_neg h2] at e
  simp only [Option.some.injEq, Prod.mk.injEq] at e
  obtain ⟨rfl, rfl, rfl⟩ := e
  exact ⟨by omega, by omega, rfl, rfl, rfl⟩

theorem hsz1 {a : Int} (h : a < 24) : hsz a = 1 := by unfold hsz; rw [if_pos h]
theorem hsz2 {a : Int} (h : 24 ≤ a) (h' : a ≤ 255) : hsz a = 2 := by unfold hsz; rw [if_neg (by omega), if_pos h']
theorem hsz3 {a : Int} (h : 256 ≤ a) (h' : a ≤ 65535) : hsz a = 3 := by unfold hsz; rw [if_neg (by omega), if_neg (by omega), if_pos h']
theorem hsz5 {a : Int} (h : 65536 ≤ a) (h' : a ≤ 4294967295) : hsz a = 5 := by unfold hsz; rw [if_neg (by omega), if_neg (by omega), if_neg (by omega), if_pos h']
theorem hsz9 {a : Int} (h : 4294967296 ≤ a) : hsz a = 9 := by unfold hsz; rw [if_neg (by omega), if_neg (by omega), if_neg (by omega), if_neg (by omega)]

theorem hd_ok {zs : List Int} (hb : Bytes zs) {m a : Int} {h : Nat} (e : hd zs = some (m, a, h)) :
    1 ≤ h ∧ h ≤ zs.length ∧ 0 ≤ a ∧ a < 18446744073709551616 ∧ 0 ≤ m ∧ m ≤ 7 ∧ (m ≠ 7 → (h : Int) = hsz a) := by
  have h0 := hb 0
  have b1 := be_bounds hb 1
  have b2 := be_bounds hb 2
  have b4 := be_bounds hb 4
  have b8 := be_bounds hb 8
  unfold hd at e
  by_cases c1 : zs.length = 0
  · rw [if_pos c1] at e; cases e
  rw [if_neg c1] at e
  by_cases c2 : zs.getD 0 0 % 32 < 24
  · rw [if_pos c2] at e
    simp only [Option.some.injEq, Prod.mk.injEq] at e
    obtain ⟨rfl, rfl, rfl⟩ := e
    exact ⟨by omega, by omega, by omega, by omega, by omega, by omega, fun _ => (hsz1 c2).symm⟩
  rw [if_neg c2] at e
  by_cases c3 : zs.getD 0 0 % 32 = 24
  · rw [if_pos c3] at e
    obtain ⟨k1, k2, rfl, rfl, rfl⟩ := hdTail_ok e
    refine ⟨by omega, by omega, by omega, by omega, by omega, by omega, fun h7 => ?_⟩
    rw [if_neg h7] at k2
    exact (hsz2 k2 (by omega)).symm
  rw [if_neg c3] at e
  by_cases c4 : zs.getD 0 0 / 32 = 7
  · rw [if_pos c4] at e; cases e
  rw [if_neg c4] at e
  by_cases c5 : zs.getD 0 0 % 32 = 25
  · rw [if_pos c5] at e
    obtain ⟨k1, k2, rfl, rfl, rfl⟩ := hdTail_ok e
    rw [if_neg c4] at k2
    exact ⟨by omega, by omega, by omega, by omega, by omega, by omega, fun _ => (hsz3 k2 (by omega)).symm⟩
  rw [if_neg c5] at e
  by_cases c6 : zs.getD 0 0 % 32 = 26
  · rw [if_pos c6] at e
    obtain ⟨k1, k2, rfl, rfl, rfl⟩ := hdTail_ok e
    rw [if_neg c4] at k2
    exact ⟨by omega, by omega, by omega, by omega, by omega, by omega, fun _ => (hsz5 k2 (by omega)).symm⟩
  rw [if_neg c6] at e
  by_cases c7 : zs.getD 0 0 % 32 = 27
  · rw [if_pos c7] at e
    obtain ⟨k1, k2, rfl, rfl, rfl⟩ := hdTail_ok e
    rw [if_neg c4] at k2
    exact ⟨by omega, by omega, by omega, by omega, by omega, by omega, fun _ => (hsz9 k2).symm⟩
  rw [if_neg c7] at e; cases e

theorem pb_ok {zs : List Int} (hb : Bytes zs) {h : Nat} (e : pb zs = some h) : 1 ≤ h ∧ h ≤ zs.length ∧ (h : Int) = hsz ((zs.length : Int) - h) := by
  unfold pb at e
  split at e
  · rename_i m a k hk
    split at e
    · rename_i hc
      obtain ⟨rfl, ha⟩ := hc
      simp only [Option.some.injEq] at e
      subst e
      have := hd_ok hb hk
      refine ⟨this.1, this.2.1, ?_⟩
      rw [← ha]
      exact this.2.2.2.2.2.2 (by omega)
    · cases e
  · cases e

theorem getD_snoc (zs : List Int) (x : Int) {j : Nat} (hj : j < zs.length) : (zs ++ [x]).getD j 0 = zs.getD j 0 := by
  simp [List.getD_eq_getElem?_getD, List.getElem?_append, hj]

theorem be_snoc (zs : List Int) (x : Int) (k : Nat) (hk : k < zs.length) : be (zs ++ [x]) k = be zs k := by
  induction k with
  | zero => rfl
  | succ k ih => simp only [be]; rw [ih (by omega), getD_snoc zs x hk]

theorem hdTail_snoc {zs : List Int} (x : Int) {m : Int} {s : Nat} {sm : Int} {r : Int × Int × Nat} (e : hdTail zs m s sm = some r) : hdTail (zs ++ [x]) m s sm = some r := by
  unfold hdTail at e ⊢
  split at e
  · cases e
  rename_i hl
  rw [be_snoc zs x s (by omega), if_neg (by simp; omega)]
  exact e

theorem hd_snoc {zs : List Int} (x : Int) {r : Int × Int × Nat} (e : hd zs = some r) : hd (zs ++ [x]) = some r := by
  unfold hd at e ⊢
  by_cases c1 : zs.length = 0
  · rw [if_pos c1] at e; cases e
  rw [if_neg c1] at e
  rw [if_neg (by simp), getD_snoc zs x (by omega)]
  by_cases c2 : zs.getD 0 0 % 32 < 24
  · rw [if_pos c2] at e ⊢; exact e
  rw [if_neg c2] at e ⊢
  by_cases c3 : zs.getD 0 0 % 32 = 24
  · rw [if_pos c3] at e ⊢; exact hdTail_snoc x e
  rw [if_neg c3] at e ⊢
  by_cases c4 : zs.getD 0 0 / 32 = 7
  · rw [if_pos c4] at e; cases e
  rw [if_neg c4] at e ⊢
  by_cases c5 : zs.getD 0 0 % 32 = 25
  · rw [if_pos c5] at e ⊢; exact hdTail_snoc x e
  rw [if_neg c5] at e ⊢
  by_cases c6 : zs.getD 0 0 % 32 = 26
  · rw [if_pos c6] at e ⊢; exact hdTail_snoc x e
  rw [if_neg c6] at e ⊢
  by_cases c7 : zs.getD 0 0 % 32 = 27
  · rw [if_pos c7] at e ⊢; exact hdTail_snoc x e
  rw [if_neg c7] at e; cases e

theorem pb_apart {zs : List Int} (x : Int) {h h' : Nat} (e : pb zs = some h) (e' : pb (zs ++ [x]) = some h') : False := by
  unfold pb at e
  split at e
  · rename_i m a k hk
    split at e
    · rename_i hc
      unfold pb at e'
      rw [hd_snoc x hk] at e'
      simp only [List.length_append, List.length_cons, List.length_nil] at e'
      rw [if_neg (by omega)] at e'
      cases e'
    · cases e
  · cases e

end Go.Proofs.Qxb6628474aFmt
