/-
  What the two laws share: the guards on lengths; PreferredBytes and zzTailAgrees at a copy of the argument, nil or not; a row of bytes in a block that the call made.
-/
import Derived.Test.Qxb6628474aFmtSame
import Derived.Laws.CopyOwn
import Derived.Deep.OwnRows
namespace Go.Proofs.Qxb6628474aFmt
open Go.RowKit Go.Extern.Stop Go.Stop Go.Extern
set_option linter.unusedVariables false
set_option linter.unusedSimpArgs false

theorem info5 : (Tryf.prog.info? 5).map (fun i => (i.zero, i.size, i.bytes)) = some (some (.int .u8 0), 1, 1) := by kernel_rfl
theorem size5 : (Tryf.prog.info? 5).map (·.size) = some 1 := by kernel_rfl

theorem bytes11_in (a : Option Addr) (len cap : Nat) (x : Int) (nm : ByteArray) (w : World) (h : len + nm.size ≤ 1048576) :
    Calls Tryf.prog 11 #[.slice a len cap, .int .u8 x, .string nm] w fun e w' => e = .returned (.bool true) ∧ w = w' := by
  go_enter Tryf.func11, Tryf.ntmps11
  go_wp2
  go_ret
  exact ⟨rfl, rfl⟩
theorem bytes11_out (a : Option Addr) (len cap : Nat) (x : Int) (nm : ByteArray) (w : World) (h : 1048576 < len + nm.size) (hl : len ≤ maxLen) :
    Calls Tryf.prog 11 #[.slice a len cap, .int .u8 x, .string nm] w fun e w' => e = .returned (.bool false) ∧ w = w' := by
  unfold maxLen at hl
  by_cases h1 : 1048576 < len
  · go_enter Tryf.func11, Tryf.ntmps11
    go_wp2
    go_ret
    exact ⟨rfl, rfl⟩
  by_cases h2 : 1048576 < nm.size
  all_goals
    go_enter Tryf.func11, Tryf.ntmps11
    go_wp2
    go_ret
    exact ⟨rfl, rfl⟩
theorem bytes5_in (a : Option Addr) (len cap : Nat) (nm : ByteArray) (w : World) (h : len + nm.size ≤ 1048576) :
    Calls Tryf.prog 5 #[.slice a len cap, .string nm] w fun e w' => e = .returned (.bool true) ∧ w = w' := by
  go_enter Tryf.func5, Tryf.ntmps5
  go_wp2
  go_ret
  exact ⟨rfl, rfl⟩
theorem bytes5_out (a : Option Addr) (len cap : Nat) (nm : ByteArray) (w : World) (h : 1048576 < len + nm.size) (hl : len ≤ maxLen) :
    Calls Tryf.prog 5 #[.slice a len cap, .string nm] w fun e w' => e = .returned (.bool false) ∧ w = w' := by
  unfold maxLen at hl
  by_cases h1 : 1048576 < len
  · go_enter Tryf.func5, Tryf.ntmps5
    go_wp2
    go_ret
    exact ⟨rfl, rfl⟩
  by_cases h2 : 1048576 < nm.size
  all_goals
    go_enter Tryf.func5, Tryf.ntmps5
    go_wp2
    go_ret
    exact ⟨rfl, rfl⟩

/-- A slice value over the numbers zs: of no length, or at the head of a block whose cells hold them. -/
def Over (w : World) (a : Option Addr) (zs : List Int) : Prop := 0 < zs.length → ∃ g, a = some ⟨g, 0, none⟩ ∧ Row w g zs ∧ g < w.heap.size

def PrefAll (zs : List Int) (a : Option Addr) (w : World) (e : Ending) (w' : World) : Prop :=
  Below w.heap.size w w' ∧ ((∃ h off g, pb zs = some h ∧ a = some ⟨g, 0, none⟩ ∧ Row w g zs ∧ (h < zs.length → off = h) ∧ e = .returned (.tuple #[.slice (some ⟨g, off, none⟩) (zs.length - h) (zs.length - h), .nilIface])) ∨
    (pb zs = none ∧ ∃ ad : Addr, e = .returned (.tuple #[.slice none 0 0, .iface 45 (.pointer (some ad))])))

theorem pref_all (F : Interp) (zs : List Int) (a : Option Addr) (nm : ByteArray) (w : World) (hF : F.answers w.tape) (hb : Bytes zs) (hN : zs.length ≤ 2000000) (hc : Over w a zs) :
    Calls Tryf.prog 6 #[.slice a zs.length zs.length, .string nm] w fun e w' => PrefAll zs a w e w' := by
  by_cases h0 : zs.length = 0
  · rw [h0]
    refine (pref_empty F a 0 nm w hF).mono ?_
    rintro e w' ⟨hb1, ad, rfl⟩
    have : pb zs = none := by unfold pb hd; rw [if_pos h0]
    exact ⟨hb1, Or.inr ⟨this, ad, rfl⟩⟩
  · obtain ⟨g, rfl, hr, hg⟩ := hc (by omega)
    refine (pref_any F zs g nm w hF hb (by omega) hN hr).mono ?_
    rintro e w' ⟨hb1, ⟨h, off, k1, k2, rfl⟩ | ⟨k1, k2⟩⟩
    · exact ⟨hb1, Or.inl ⟨h, off, g, k1, rfl, hr, k2, rfl⟩⟩
    · exact ⟨hb1, Or.inr ⟨k1, k2⟩⟩

theorem tail_yes (zs : List Int) (g h off : Nat) (w : World) (hb : Bytes zs) (hN : zs.length ≤ 2000000) (e : pb zs = some h) (ho : h < zs.length → off = h) (hc : Row w g zs) :
    Calls Tryf.prog 12 #[.slice (some ⟨g, 0, none⟩) zs.length zs.length, .slice (some ⟨g, off, none⟩) (zs.length - h) (zs.length - h), .bool true] w fun e w' => e = .returned (.bool true) ∧ ∃ k, w' = w.drewN k := by
  obtain ⟨k1, k2, k3⟩ := pb_ok hb e
  by_cases hlt : h < zs.length
  · obtain rfl := ho hlt
    obtain ⟨n, hn⟩ : ∃ n, zs.length = off + n := ⟨zs.length - off, by omega⟩
    have e1 : zs.length - off = n := by omega
    have hc' : ∀ k, k < n → w.cell? ⟨g, off + k, none⟩ = some (.int .u8 (zs.getD (off + k) 0)) := fun k hk => hc (off + k) (by omega)
    have hz : Hid ((off : Int) = hsz n) := by show (off : Int) = hsz n; rw [k3]; congr 1; omega
    rw [e1, hn]
    exact tail_yes1 g off n (fun k => zs.getD (off + k) 0) w (by omega) (by omega) hz hc'
  · obtain rfl : h = zs.length := by omega
    rw [Nat.sub_self]
    refine tail_yes0 g zs.length off w hN ?_
    show (zs.length : Int) = hsz 0
    rw [k3]; congr 1; omega

/-- The cells of a list of bytes. -/
def u8s (zs : List Int) : List Value := zs.map (Value.int .u8)

theorem row_of_block {w : World} {g : Nat} {zs : List Int} {t : TypeId} (h : w.heap[g]? = some (.cells (u8s zs).toArray t (0, 0))) : Row w g zs := by
  intro k hk
  simp [World.cell?, h, u8s, List.getD_eq_getElem?_getD, List.getElem?_eq_getElem hk]

theorem u8s_one {zs : List Int} : ∀ v ∈ u8s zs, v.oneCell' = true := by
  intro v hv
  obtain ⟨n, _, rfl⟩ := List.mem_map.1 hv
  rfl

theorem row_below {w w' : World} {B g : Nat} {zs : List Int} (h : Row w g zs) (hb : Below B w w') (hg : g < B) : Row w' g zs := fun k hk => (hb.cell (p := ⟨g, k, none⟩) hg).trans (h k hk)

theorem splice_all {α : Type} (L X : List α) (h : X.length = L.length) : splice L 0 X = X := by
  unfold splice
  rw [List.take_zero, Nat.zero_add, h, List.drop_length]; simp

theorem splice_most {α : Type} (L X : List α) (z : α) (h : L = X.map (fun _ => z) ++ [z]) : splice L 0 X = X ++ [z] := by
  unfold splice
  subst h
  simp

theorem made_list (z : Value) (n : Nat) : (madeCells #[z] n).toList = List.replicate n z := by
  apply List.ext_getElem
  · simp [size_madeCells]
  · intro i h1 h2
    simp [madeCells, Nat.mod_one]

theorem made_one (z : Value) : madeCells #[z] 1 = #[z] := by
  rw [← Array.toArray_toList (xs := madeCells #[z] 1), made_list]; rfl

theorem made_new (w : World) (z : Value) (n : Nat) (t : TypeId) : (w.alloc (.cells (madeCells #[z] n) t)).heap[w.heap.size]? = some (.cells (madeCells #[z] n).toList.toArray t (0, 0)) := by
  rw [heap_alloc_new, Array.toArray_toList]

theorem u8s_get {zs : List Int} {j : Nat} {v : Value} (h : (u8s zs)[j]? = some v) : j < zs.length ∧ v = .int .u8 (zs.getD j 0) := by
  unfold u8s at h
  rw [List.getElem?_map] at h
  obtain ⟨y, h1, rfl⟩ := Option.map_eq_some_iff.1 h
  have := (List.getElem?_eq_some_iff.1 h1).1
  exact ⟨this, by simp [List.getD_eq_getElem?_getD, h1]⟩

theorem frozen_of_block {w : World} {g i : Nat} {cs : Array Value} {t : TypeId} (h : w.heap[g]? = some (.cells cs t (0, 0))) : w.frozen? ⟨g, i, none⟩ = false := by
  simp [World.frozen?, h]

theorem cell_of_block {w : World} {g i : Nat} {cs : Array Value} {t : TypeId} (h : w.heap[g]? = some (.cells cs t (0, 0))) : w.cell? ⟨g, i, none⟩ = cs[i]? := by
  simp [World.cell?, h]

/-- The row with one more number, stored behind the rest. -/
theorem row_stored {w : World} {g : Nat} {zs : List Int} {z : Value} {t : TypeId} {x : Int} (h : w.heap[g]? = some (.cells (u8s zs ++ [z]).toArray t (0, 0))) : Row (w.setCell ⟨g, zs.length, none⟩ (.int .u8 x)) g (zs ++ [x]) := by
  intro k hk
  simp only [List.length_append, List.length_cons, List.length_nil] at hk
  have hh : (w.setCell ⟨g, zs.length, none⟩ (.int .u8 x)).heap[g]? = some (.cells ((u8s zs ++ [z]).toArray.setIfInBounds zs.length (.int .u8 x)) t (0, 0)) := by
    simp [World.setCell, Array.getElem?_modify, h]
  rw [cell_of_block hh]
  by_cases hlt : k < zs.length
  · rw [getD_snoc zs x hlt]
    simp [u8s, Array.getElem?_setIfInBounds, List.getD_eq_getElem?_getD, List.getElem?_append, hlt, Nat.ne_of_gt hlt]
  · obtain rfl : k = zs.length := by omega
    simp [u8s, Array.getElem?_setIfInBounds]

/-- The two contracts at a length that is a letter. -/
theorem pref_at (F : Interp) (zs : List Int) (a : Option Addr) (n : Nat) (nm : ByteArray) (w : World) (hF : F.answers w.tape) (hb : Bytes zs) (hn : Hid (n = zs.length)) (hN : n ≤ 2000000) (hc : Over w a zs) :
    Calls Tryf.prog 6 #[.slice a n n, .string nm] w fun e w' => Below w.heap.size w w' ∧
      ((∃ h off g, pb zs = some h ∧ a = some ⟨g, 0, none⟩ ∧ Row w g zs ∧ (h < n → off = h) ∧ e = .returned (.tuple #[.slice (some ⟨g, off, none⟩) (n - h) (n - h), .nilIface])) ∨
       (pb zs = none ∧ ∃ ad : Addr, e = .returned (.tuple #[.slice none 0 0, .iface 45 (.pointer (some ad))]))) := by
  obtain rfl := hn.out
  exact pref_all F zs a nm w hF hb hN hc
theorem tail_at (zs : List Int) (n g h off : Nat) (w : World) (hb : Bytes zs) (hn : Hid (n = zs.length)) (hN : n ≤ 2000000) (e : pb zs = some h) (ho : h < n → off = h) (hc : Row w g zs) :
    Calls Tryf.prog 12 #[.slice (some ⟨g, 0, none⟩) n n, .slice (some ⟨g, off, none⟩) (n - h) (n - h), .bool true] w fun e w' => e = .returned (.bool true) ∧ ∃ k, w' = w.drewN k := by
  obtain rfl := hn.out
  exact tail_yes zs g h off w hb hN e ho hc

theorem bytes_snoc {zs : List Int} {x : Int} (hb : Bytes zs) (h0 : 0 ≤ x) (h1 : x ≤ 255) : Bytes (zs ++ [x]) := by
  intro j
  by_cases hj : j < zs.length
  · rw [getD_snoc zs x hj]; exact hb j
  · by_cases hj' : j = zs.length
    · subst hj'; simp [List.getD_eq_getElem?_getD]; omega
    · rw [List.getD_eq_getElem?_getD, List.getElem?_eq_none (by simp; omega)]; simp

theorem over_below {w w' : World} {a : Option Addr} {zs : List Int} (h : Over w a zs) (hb : Below w.heap.size w w') : Over w' a zs := fun h0 => by
  obtain ⟨g, e, r, hg⟩ := h h0
  exact ⟨g, e, row_below r hb hg, Nat.lt_of_lt_of_le hg hb.size⟩

theorem row_lt {w : World} {g : Nat} {zs : List Int} (h0 : 0 < zs.length) (h : Row w g zs) : g < w.heap.size := by
  have := h 0 h0
  rcases Nat.lt_or_ge g w.heap.size with h' | h'
  · exact h'
  · simp [World.cell?, Array.getElem?_eq_none h'] at this

end Go.Proofs.Qxb6628474aFmt
