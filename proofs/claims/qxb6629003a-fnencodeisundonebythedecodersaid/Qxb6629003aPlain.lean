/-
  PLAIN: counts, ranks, the layout of an encoder's table, and one encoding step, on lists of numbers. No Go in sight.
-/
namespace Go.Proofs.Qxb6629003a

def Bytes (S : List Int) : Prop := ∀ j, 0 ≤ S.getD j 0 ∧ S.getD j 0 ≤ 255

/-- The symbol at place k. -/
def sy (S : List Int) (k : Nat) : Nat := (S.getD k 0).toNat

/-- How many of the first k places hold symbol s. -/
def cntTo (S : List Int) : Nat → Nat → Nat
  | 0, _ => 0
  | k + 1, s => cntTo S k s + if sy S k = s then 1 else 0

def cnt (S : List Int) (s : Nat) : Nat := cntTo S S.length s

/-- How many of the first k places hold a symbol below s. -/
def lowTo (S : List Int) : Nat → Nat → Nat
  | 0, _ => 0
  | k + 1, s => lowTo S k s + if sy S k < s then 1 else 0

/-- Where symbol s's states begin. -/
def fst (S : List Int) : Nat → Nat
  | 0 => 0
  | s + 1 => fst S s + cnt S s

theorem lowTo_succ (S : List Int) (k s : Nat) : lowTo S k (s + 1) = lowTo S k s + cntTo S k s := by
  induction k with
  | zero => rfl
  | succ k ih =>
    simp only [lowTo, cntTo, ih]
    by_cases h1 : sy S k < s
    · rw [if_pos h1, if_pos (by omega), if_neg (by omega)]; omega
    · by_cases h2 : sy S k = s
      · rw [if_neg h1, if_pos (by omega), if_pos h2]; omega
      · rw [if_neg h1, if_neg (by omega), if_neg h2]; omega

theorem lowTo_zero (S : List Int) (k : Nat) : lowTo S k 0 = 0 := by
  induction k with
  | zero => rfl
  | succ k ih => simp only [lowTo, ih]; rw [if_neg (by omega)]

theorem fst_low (S : List Int) (s : Nat) : fst S s = lowTo S S.length s := by
  induction s with
  | zero => rw [lowTo_zero]; rfl
  | succ s ih => rw [lowTo_succ, ← ih]; rfl

theorem lowTo_all {S : List Int} (hb : Bytes S) (k : Nat) : lowTo S k 256 = k := by
  induction k with
  | zero => rfl
  | succ k ih =>
    have := hb k
    simp only [lowTo, ih]
    rw [if_pos (by unfold sy; omega)]

theorem fst_all {S : List Int} (hb : Bytes S) : fst S 256 = S.length := by rw [fst_low, lowTo_all hb]

theorem fst_mono (S : List Int) {a b : Nat} (h : a ≤ b) : fst S a ≤ fst S b := by
  induction b with
  | zero => obtain rfl : a = 0 := by omega
            exact Nat.le_refl _
  | succ b ih =>
    by_cases e : a = b + 1
    · subst e; exact Nat.le_refl _
    · have := ih (by omega)
      simp only [fst]; omega

theorem cntTo_mono (S : List Int) (s : Nat) {a b : Nat} (h : a ≤ b) : cntTo S a s ≤ cntTo S b s := by
  induction b with
  | zero => obtain rfl : a = 0 := by omega
            exact Nat.le_refl _
  | succ b ih =>
    by_cases e : a = b + 1
    · subst e; exact Nat.le_refl _
    · have := ih (by omega)
      simp only [cntTo]; omega

theorem cntTo_le (S : List Int) (k s : Nat) : cntTo S k s ≤ k := by
  induction k with
  | zero => exact Nat.le_refl _
  | succ k ih => simp only [cntTo]; split <;> omega

theorem cntTo_step (S : List Int) (k : Nat) : cntTo S (k + 1) (sy S k) = cntTo S k (sy S k) + 1 := by
  simp [cntTo]
theorem cntTo_other (S : List Int) (k s : Nat) (h : sy S k ≠ s) : cntTo S (k + 1) s = cntTo S k s := by
  simp only [cntTo]; rw [if_neg h]; rfl

theorem cnt_le (S : List Int) (s : Nat) : cnt S s ≤ S.length := cntTo_le S _ s

theorem sy_lt {S : List Int} (hb : Bytes S) (k : Nat) : sy S k < 256 := by have := hb k; unfold sy; omega

/-- The place in the table of states of place x. -/
def ix (S : List Int) (x : Nat) : Nat := fst S (sy S x) + cntTo S x (sy S x)

theorem rank_lt (S : List Int) {x : Nat} (hx : x < S.length) : cntTo S x (sy S x) < cnt S (sy S x) := by
  have := cntTo_mono S (sy S x) (show x + 1 ≤ S.length from hx)
  rw [cntTo_step] at this
  unfold cnt; omega

theorem fst_cnt_le {S : List Int} (hb : Bytes S) {s : Nat} (hs : s < 256) : fst S s + cnt S s ≤ S.length := by
  have := fst_mono S (show s + 1 ≤ 256 from hs)
  rw [fst_all hb] at this
  exact this

theorem ix_lt {S : List Int} (hb : Bytes S) {x : Nat} (hx : x < S.length) : ix S x < S.length := by
  have h1 := rank_lt S hx
  have h2 := fst_cnt_le hb (sy_lt hb x)
  unfold ix; omega

theorem ix_ne (S : List Int) {x y : Nat} (hxy : x < y) (hy : y < S.length) : ix S x ≠ ix S y := by
  have hx := rank_lt S (show x < S.length by omega)
  have hy' := rank_lt S hy
  unfold ix
  by_cases e : sy S x = sy S y
  · have := cntTo_mono S (sy S y) (show x + 1 ≤ y from hxy)
    have h := cntTo_step S x
    rw [e] at h ⊢
    omega
  · rcases Nat.lt_or_gt_of_ne e with h | h
    · have := fst_mono S (show sy S x + 1 ≤ sy S y from h)
      simp only [fst] at this; omega
    · have := fst_mono S (show sy S y + 1 ≤ sy S x from h)
      simp only [fst] at this; omega

/-- The k-th place of symbol s. -/
theorem place {S : List Int} (n s k : Nat) (h : k < cntTo S n s) : ∃ x, x < n ∧ sy S x = s ∧ cntTo S x s = k := by
  induction n with
  | zero => exact absurd h (by simp [cntTo])
  | succ n ih =>
    by_cases hk : k < cntTo S n s
    · obtain ⟨x, h1, h2⟩ := ih hk
      exact ⟨x, by omega, h2⟩
    · simp only [cntTo] at h
      by_cases e : sy S n = s
      · rw [if_pos e] at h
        exact ⟨n, by omega, e, by omega⟩
      · rw [if_neg e] at h; omega

/-! ### One step of the encoder -/

/-- floor(log2 q), told by its two bounds. -/
def IsHb (q h : Nat) : Prop := 2 ^ h ≤ q ∧ q < 2 ^ (h + 1)

theorem pow_mono {a b : Nat} (h : a ≤ b) : 2 ^ a ≤ 2 ^ b := Nat.pow_le_pow_right (by decide) h

theorem isHb_le {lg q h : Nat} (hh : IsHb q h) (hq : q ≤ 2 ^ lg) : h ≤ lg := by
  rcases Nat.lt_or_ge lg h with hlt | hge
  · have := pow_mono (show lg + 1 ≤ h from hlt)
    have h1 := hh.1
    have : 2 ^ (lg + 1) = 2 ^ lg * 2 := Nat.pow_succ ..
    have := Nat.two_pow_pos lg
    omega
  · exact hge

theorem isHb_uniq {q a b : Nat} (ha : IsHb q a) (hb : IsHb q b) : a = b := by
  rcases Nat.lt_trichotomy a b with h | h | h
  · have := pow_mono (show a + 1 ≤ b from h)
    have := ha.2; have := hb.1; omega
  · exact h
  · have := pow_mono (show b + 1 ≤ a from h)
    have := hb.2; have := ha.1; omega

/-- How many bits the step writes. -/
def bitsOf (lg q h v : Nat) : Nat := if v < q * 2 ^ (lg - h) then lg - h - 1 else lg - h

theorem bits_ok {lg q h v : Nat} (hh : IsHb q h) (hq : q ≤ 2 ^ lg) (hv : 2 ^ lg ≤ v) (hv2 : v < 2 * 2 ^ lg) :
    q ≤ v / 2 ^ bitsOf lg q h v ∧ v / 2 ^ bitsOf lg q h v < 2 * q ∧ bitsOf lg q h v ≤ lg ∧ (v < q * 2 ^ (lg - h) → 1 ≤ lg - h) := by
  have hle := isHb_le hh hq
  have e : 2 ^ h * 2 ^ (lg - h) = 2 ^ lg := by rw [← Nat.pow_add]; congr 1; omega
  have e1 : 2 ^ h * 2 ^ (lg - h) ≤ q * 2 ^ (lg - h) := Nat.mul_le_mul_right _ hh.1
  have hpos := Nat.two_pow_pos (lg - h)
  unfold bitsOf
  by_cases c : v < q * 2 ^ (lg - h)
  · rw [if_pos c]
    have hn : 1 ≤ lg - h := by
      rcases Nat.eq_zero_or_pos (lg - h) with z | z
      · rw [z] at c; simp at c; omega
      · exact z
    obtain ⟨m, hm⟩ : ∃ m, lg - h = m + 1 := ⟨lg - h - 1, by omega⟩
    have e2 : lg - h - 1 = m := by omega
    rw [hm] at c e
    rw [e2]
    have hpm := Nat.two_pow_pos m
    refine ⟨?_, ?_, by omega, fun _ => hn⟩
    · rw [Nat.le_div_iff_mul_le hpm]
      have e3 : 2 ^ (h + 1) * 2 ^ m = 2 ^ lg := by rw [← Nat.pow_add]; congr 1; omega
      have : q * 2 ^ m ≤ 2 ^ (h + 1) * 2 ^ m := Nat.mul_le_mul_right _ (Nat.le_of_lt hh.2)
      omega
    · rw [Nat.div_lt_iff_lt_mul hpm]
      have : q * 2 ^ (m + 1) = 2 * q * 2 ^ m := by rw [Nat.pow_succ]; rw [Nat.mul_comm 2 q, Nat.mul_assoc, Nat.mul_comm 2 (2 ^ m)]
      omega
  · rw [if_neg c]
    refine ⟨?_, ?_, by omega, fun h' => absurd h' c⟩
    · rw [Nat.le_div_iff_mul_le hpos]; omega
    · rw [Nat.div_lt_iff_lt_mul hpos]
      have : 2 * q * 2 ^ (lg - h) = 2 * (q * 2 ^ (lg - h)) := Nat.mul_assoc ..
      omega

/-- Below that many bits the shifted value is still too great. -/
theorem bits_first {q v n k : Nat} (h : q ≤ v / 2 ^ n) (hk : k < n) : 2 * q ≤ v / 2 ^ k := by
  obtain ⟨m, rfl⟩ : ∃ m, n = k + 1 + m := ⟨n - (k + 1), by omega⟩
  rw [Nat.le_div_iff_mul_le (Nat.two_pow_pos _)] at h ⊢
  have e : 2 ^ (k + 1 + m) = 2 * 2 ^ k * 2 ^ m := by rw [Nat.pow_add, Nat.pow_succ, Nat.mul_comm (2 ^ k) 2]
  rw [e] at h
  have h1 : 1 ≤ 2 ^ m := Nat.two_pow_pos m
  have h2 : q * (2 * 2 ^ k) ≤ q * (2 * 2 ^ k * 2 ^ m) := Nat.mul_le_mul_left _ (Nat.le_mul_of_pos_right _ h1)
  have h3 : 2 * q * 2 ^ k = q * (2 * 2 ^ k) := by rw [Nat.mul_comm 2 q, Nat.mul_assoc]
  omega

/-- The shifted value's own floor(log2). -/
theorem bits_hb {lg v n : Nat} (hv : 2 ^ lg ≤ v) (hv2 : v < 2 * 2 ^ lg) (hn : n ≤ lg) : IsHb (v / 2 ^ n) (lg - n) := by
  have e : 2 ^ (lg - n) * 2 ^ n = 2 ^ lg := by rw [← Nat.pow_add]; congr 1; omega
  have e2 : 2 ^ (lg - n + 1) * 2 ^ n = 2 * 2 ^ lg := by rw [Nat.pow_succ, Nat.mul_comm (2 ^ (lg - n)) 2, Nat.mul_assoc, e]
  refine ⟨?_, ?_⟩
  · rw [Nat.le_div_iff_mul_le (Nat.two_pow_pos _), e]; exact hv
  · rw [Nat.div_lt_iff_lt_mul (Nat.two_pow_pos _), e2]; exact hv2

end Go.Proofs.Qxb6629003a
