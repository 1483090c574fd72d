/-
  strictcbor.head at place 0, whole; strictcbor.PreferredBytes, by its contract.
-/
import Derived.Test.Qxb6628474aFmtHead1
import Derived.Test.Qxb6628474aFmtHead2
import Derived.Test.Qxb6628474aFmtHead4
import Derived.Test.Qxb6628474aFmtHead8
namespace Go.Proofs.Qxb6628474aFmt
open Go.RowKit Go.Extern.Stop Go.Stop Go.Extern
set_option linter.unusedVariables false

/-- Cells from the head of block g on hold the numbers zs. -/
def Row (w : World) (g : Nat) (zs : List Int) : Prop := ∀ k, k < zs.length → w.cell? ⟨g, k, none⟩ = some (.int .u8 (zs.getD k 0))

def HeadPost (zs : List Int) (w : World) (e : Ending) (w' : World) : Prop :=
  (∃ m a h, hd zs = some (m, a, h) ∧ Gives w m a h e w') ∨ (hd zs = none ∧ Refuses w e w')

theorem hdTail_low {zs : List Int} {m : Int} {s : Nat} {sm : Int} (h : be zs s < (if m = 7 then 32 else sm)) : hdTail zs m s sm = none := by
  unfold hdTail; rw [if_pos h]; split <;> rfl
theorem hdTail_short {zs : List Int} {m : Int} {s : Nat} {sm : Int} (h : zs.length < 1 + s) : hdTail zs m s sm = none := by
  unfold hdTail; rw [if_pos h]
theorem hdTail_some {zs : List Int} {m : Int} {s : Nat} {sm : Int} (h : 1 + s ≤ zs.length) (h' : (if m = 7 then 32 else sm) ≤ be zs s) : hdTail zs m s sm = some (m, be zs s, 1 + s) := by
  unfold hdTail; rw [if_neg (by omega), if_neg (by omega)]

theorem head_any (F : Interp) (zs : List Int) (cap g : Nat) (nm : ByteArray) (w : World) (hF : F.answers w.tape) (hb : Bytes zs) (hn : 0 < zs.length) (hN : zs.length ≤ 2000000) (hcap : zs.length ≤ cap) (hc : Row w g zs) :
    Calls Tryf.prog 13 #[.slice (some ⟨g, 0, none⟩) zs.length cap, .int .i64 0, .string nm] w fun e w' => HeadPost zs w e w' := by
  obtain ⟨b0, hb0⟩ : ∃ b0, b0 = zs.getD 0 0 := ⟨_, rfl⟩
  have h0 := hb 0
  rw [← hb0] at h0
  have hc0 : w.cell? ⟨g, 0, none⟩ = some (.int .u8 b0) := by rw [hb0]; exact hc 0 hn
  have e1 : hd zs = if b0 % 32 < 24 then some (b0 / 32, b0 % 32, 1)
    else if b0 % 32 = 24 then hdTail zs (b0 / 32) 1 24
    else if b0 / 32 = 7 then none
    else if b0 % 32 = 25 then hdTail zs (b0 / 32) 2 256
    else if b0 % 32 = 26 then hdTail zs (b0 / 32) 4 65536
    else if b0 % 32 = 27 then hdTail zs (b0 / 32) 8 4294967296
    else none := by unfold hd; rw [if_neg (by omega), ← hb0]
  have no : hd zs = none → Calls Tryf.prog 13 #[.slice (some ⟨g, 0, none⟩) zs.length cap, .int .i64 0, .string nm] w (fun e w' => Refuses w e w') →
      Calls Tryf.prog 13 #[.slice (some ⟨g, 0, none⟩) zs.length cap, .int .i64 0, .string nm] w fun e w' => HeadPost zs w e w' := fun h k => k.mono fun e w' q => Or.inr ⟨h, q⟩
  have yes : ∀ (m a : Int) (h : Nat), hd zs = some (m, a, h) → Calls Tryf.prog 13 #[.slice (some ⟨g, 0, none⟩) zs.length cap, .int .i64 0, .string nm] w (fun e w' => Gives w m a h e w') →
      Calls Tryf.prog 13 #[.slice (some ⟨g, 0, none⟩) zs.length cap, .int .i64 0, .string nm] w fun e w' => HeadPost zs w e w' := fun m a h h' k => k.mono fun e w' q => Or.inl ⟨m, a, h, h', q⟩
  by_cases c1 : b0 % 32 < 24
  · rw [if_pos c1] at e1
    exact yes _ _ _ e1 (head_small F b0 _ cap g nm w hF h0.1 h0.2 hn hN hcap hc0 c1)
  rw [if_neg c1] at e1
  by_cases c2 : b0 % 32 = 24
  · rw [if_pos c2] at e1
    by_cases s1 : zs.length < 2
    · rw [hdTail_short (by omega)] at e1
      exact no e1 (h24_short F b0 _ cap g nm w hF h0.1 h0.2 hn hN hcap hc0 c2 s1)
    by_cases m7 : b0 / 32 = 7
    · by_cases lo : be zs 1 < 32
      · rw [hdTail_low (by rw [if_pos m7]; exact lo)] at e1
        exact no e1 (h24_low7 F b0 _ cap g nm w hF h0.1 h0.2 hn hN hcap hc0 zs hb c2 (by omega) m7 lo hc)
      · rw [hdTail_some (by omega) (by rw [if_pos m7]; omega), m7] at e1
        exact yes _ _ _ e1 (h24_ok7 F b0 _ cap g nm w hF h0.1 h0.2 hn hN hcap hc0 zs hb c2 (by omega) m7 (by omega) hc)
    · have m7' : (b0 / 32 == 7) = false := by simpa using m7
      by_cases lo : be zs 1 < 24
      · rw [hdTail_low (by rw [if_neg m7]; exact lo)] at e1
        exact no e1 (h24_low F b0 _ cap g nm w hF h0.1 h0.2 hn hN hcap hc0 zs hb c2 (by omega) m7' lo hc)
      · rw [hdTail_some (by omega) (by rw [if_neg m7]; omega)] at e1
        exact yes _ _ _ e1 (h24_ok F b0 _ cap g nm w hF h0.1 h0.2 hn hN hcap hc0 zs hb c2 (by omega) m7' (by omega) hc)
  rw [if_neg c2] at e1
  by_cases big : 27 < b0 % 32
  · have e2 : hd zs = none := by
      rw [e1]; split
      · rfl
      · rw [if_neg (by omega), if_neg (by omega), if_neg (by omega)]
    by_cases hx : b0 % 32 = 31 ∧ 2 ≤ b0 / 32 ∧ b0 / 32 ≤ 5
    · exact no e2 (head_indef F b0 _ cap g nm w hF h0.1 h0.2 hn hN hcap hc0 hx.1 hx.2.1 hx.2.2)
    · exact no e2 (head_big F b0 _ cap g nm w hF h0.1 h0.2 hn hN hcap hc0 big hx)
  by_cases m7 : b0 / 32 = 7
  · rw [if_pos m7] at e1
    exact no e1 (head_float F b0 _ cap g nm w hF h0.1 h0.2 hn hN hcap hc0 (by omega) (by omega) m7)
  rw [if_neg m7] at e1
  have m7' : (b0 / 32 == 7) = false := by simpa using m7
  by_cases c3 : b0 % 32 = 25
  · rw [if_pos c3] at e1
    by_cases s1 : zs.length < 3
    · rw [hdTail_short (by omega)] at e1
      exact no e1 (h25_short F b0 _ cap g nm w hF h0.1 h0.2 hn hN hcap hc0 c3 m7' s1)
    by_cases lo : be zs 2 < 256
    · rw [hdTail_low (by rw [if_neg m7]; exact lo)] at e1
      exact no e1 (h25_low F b0 _ cap g nm w hF h0.1 h0.2 hn hN hcap hc0 zs hb c3 (by omega) m7' lo hc)
    · rw [hdTail_some (by omega) (by rw [if_neg m7]; omega)] at e1
      exact yes _ _ _ e1 (h25_ok F b0 _ cap g nm w hF h0.1 h0.2 hn hN hcap hc0 zs hb c3 (by omega) m7' (by omega) hc)
  rw [if_neg c3] at e1
  by_cases c4 : b0 % 32 = 26
  · rw [if_pos c4] at e1
    by_cases s1 : zs.length < 5
    · rw [hdTail_short (by omega)] at e1
      exact no e1 (h26_short F b0 _ cap g nm w hF h0.1 h0.2 hn hN hcap hc0 c4 m7' s1)
    by_cases lo : be zs 4 < 65536
    · rw [hdTail_low (by rw [if_neg m7]; exact lo)] at e1
      exact no e1 (h26_low F b0 _ cap g nm w hF h0.1 h0.2 hn hN hcap hc0 zs hb c4 (by omega) m7' lo hc)
    · rw [hdTail_some (by omega) (by rw [if_neg m7]; omega)] at e1
      exact yes _ _ _ e1 (h26_ok F b0 _ cap g nm w hF h0.1 h0.2 hn hN hcap hc0 zs hb c4 (by omega) m7' (by omega) hc)
  rw [if_neg c4] at e1
  have c5 : b0 % 32 = 27 := by omega
  rw [if_pos c5] at e1
  by_cases s1 : zs.length < 9
  · rw [hdTail_short (by omega)] at e1
    exact no e1 (h27_short F b0 _ cap g nm w hF h0.1 h0.2 hn hN hcap hc0 c5 m7' s1)
  by_cases lo : be zs 8 < 4294967296
  · rw [hdTail_low (by rw [if_neg m7]; exact lo)] at e1
    exact no e1 (h27_low F b0 _ cap g nm w hF h0.1 h0.2 hn hN hcap hc0 zs hb c5 (by omega) m7' lo hc)
  · rw [hdTail_some (by omega) (by rw [if_neg m7]; omega)] at e1
    exact yes _ _ _ e1 (h27_ok F b0 _ cap g nm w hF h0.1 h0.2 hn hN hcap hc0 zs hb c5 (by omega) m7' (by omega) hc)

def PrefPost (zs : List Int) (g : Nat) (w : World) (e : Ending) (w' : World) : Prop :=
  Below w.heap.size w w' ∧ ((∃ h off, pb zs = some h ∧ (h < zs.length → off = h) ∧ e = .returned (.tuple #[.slice (some ⟨g, off, none⟩) (zs.length - h) (zs.length - h), .nilIface])) ∨
    (pb zs = none ∧ ∃ ad : Addr, e = .returned (.tuple #[.slice none 0 0, .iface 45 (.pointer (some ad))])))

theorem pref_empty (F : Interp) (a : Option Addr) (cap : Nat) (nm : ByteArray) (w : World) (hF : F.answers w.tape) :
    Calls Tryf.prog 6 #[.slice a 0 cap, .string nm] w fun e w' => Below w.heap.size w w' ∧ ∃ ad : Addr, e = .returned (.tuple #[.slice none 0 0, .iface 45 (.pointer (some ad))]) := by
  go_enter Tryf.func6, Tryf.ntmps6
  go_wp2_with fail
  refine (head_empty F a cap nm _ hF).mono ?_
  rintro e w' ⟨⟨ad, rfl⟩, hb⟩
  go_wp2
  go_ret2
  exact ⟨hb, _, rfl⟩

set_option maxHeartbeats 400000 in
theorem pref_any (F : Interp) (zs : List Int) (g : Nat) (nm : ByteArray) (w : World) (hF : F.answers w.tape) (hb : Bytes zs) (hn : 0 < zs.length) (hN : zs.length ≤ 2000000) (hc : Row w g zs) :
    Calls Tryf.prog 6 #[.slice (some ⟨g, 0, none⟩) zs.length zs.length, .string nm] w fun e w' => PrefPost zs g w e w' := by
  go_enter Tryf.func6, Tryf.ntmps6
  go_wp2_with fail
  refine (head_any F zs zs.length g nm _ hF hb hn hN (Nat.le_refl _) hc).mono ?_
  rintro e w1 (⟨m, a, h, e1, rfl, hb1⟩ | ⟨e1, ⟨ad, rfl⟩, hb1⟩)
  · obtain ⟨k1, k2, k3, k4, k5, k6, k7⟩ := hd_ok hb e1
    have hF1 : F.answers w1.tape := by rw [hb1.tape]; exact hF
    have e2 : pb zs = if m = 2 ∧ a = (zs.length : Int) - h then some h else none := by unfold pb; rw [e1]
    have E2 : Hid (pb zs = if m = 2 ∧ a = (zs.length : Int) - h then some h else none) := e2
    clear e1 e2 k7 hc
    by_cases m2 : m = 2
    · subst m2
      by_cases ha : a = (zs.length : Int) - h
      · subst ha
        have E3 : Hid (pb zs = some h) := by show pb zs = some h; rw [E2.out, if_pos ⟨rfl, rfl⟩]
        clear E2
        by_cases hlt : h < zs.length
        · go_wp2
          go_ret2
          exact ⟨hb1, Or.inl ⟨h, h, E3.out, fun _ => rfl, rfl⟩⟩
        · obtain rfl : h = zs.length := by omega
          go_wp2
          go_ret2
          refine ⟨hb1, Or.inl ⟨zs.length, 0, E3.out, fun h => absurd h (Nat.lt_irrefl _), ?_⟩⟩
          simp
      · have ha' : (a != (zs.length : Int) - h) = true := by simpa using ha
        have E3 : Hid (pb zs = none) := by show pb zs = none; rw [E2.out, if_neg (fun q => ha q.2)]
        clear ha E2
        go_wp2_with fail
        refine (errorf3 F _ nm ((zs.length : Int) - h) a _ _ (by exact hF1) fmt6 ?c0 ?c1 ?c2).mono ?_
        case c0 => exact World.cell?_alloc_at _ _ _ _ rfl
        case c1 => exact World.cell?_alloc_at _ _ _ _ rfl
        case c2 => exact World.cell?_alloc_at _ _ _ _ rfl
        rintro e w2 ⟨⟨ad, rfl⟩, hb2⟩
        go_wp2
        go_ret2
        exact ⟨(hb1.alloc hb1.size _).trans (hb2.mono (by have := hb1.size; simp; omega)), Or.inr ⟨E3.out, _, rfl⟩⟩
    · have m2' : (m != 2) = true := by simpa using m2
      have E3 : Hid (pb zs = none) := by show pb zs = none; rw [E2.out, if_neg (fun q => m2 q.1)]
      clear m2 E2
      go_wp2_with (go_at_call 14; refine (wrongMajor_any F _ _ _ _ (by exact hF1)).mono ?_; rintro e w2 ⟨⟨ad, rfl⟩, hb2⟩)
      go_ret2
      exact ⟨hb1.trans (hb2.mono hb1.size), Or.inr ⟨E3.out, _, rfl⟩⟩
  · have e2 : Hid (pb zs = none) := by show pb zs = none; unfold pb; rw [e1]
    clear e1 hc
    go_wp2
    go_ret2
    exact ⟨hb1, Or.inr ⟨e2.out, _, rfl⟩⟩

end Go.Proofs.Qxb6628474aFmt
