/-
  FileKinds, zzb1Count, zzb1Equal, zzb1Concat, zzb1InsertAt, zzb1KindName.
-/
import Derived.Test.Qxb6629077aRun2
namespace Go.Proofs.Qxb6629077a
open Go.RowKit
set_option linter.unusedVariables false

set_option maxHeartbeats 4000000 in
theorem kinds_any (b0 b1 b2 b3 : Bool) (g : Nat) (w : World) (h0 : Ptr w ⟨g, 1, none⟩ b0) (h1 : Ptr w ⟨g, 3, none⟩ b1) (h2 : Ptr w ⟨g, 2, none⟩ b2) (h3 : Ptr w ⟨g, 4, none⟩ b3) :
    Calls Try.prog 6 #[.pointer (some ⟨g, 0, none⟩)] w fun e w' => RowPost (names b0 b1 b2 b3) w e w' := by
  obtain ⟨p0, c0, rfl⟩ := ptr_open h0
  obtain ⟨p1, c1, rfl⟩ := ptr_open h1
  obtain ⟨p2, c2, rfl⟩ := ptr_open h2
  obtain ⟨p3, c3, rfl⟩ := ptr_open h3
  clear h0 h1 h2 h3
  have hr0 := HidC (row_nil w w (Below.refl _ _))
  cases p0 <;> cases p1 <;> cases p2 <;> cases p3
  all_goals
    go_enter Try.func6, Try.ntmps6
    go_wp2_with (first
      | (at_builtin; refine wp_name _ rfl _ (.tmp 10) rfl w _ _ (row_alloc (by assumption) _) rfl (by decide) _ nSec rfl (by simp [nSec]) ?_; intro va wa hra; have ca := keep_cell hra.1 c1; have cb := keep_cell hra.1 c2; have cc := keep_cell hra.1 c3)
      | (at_builtin; refine wp_name _ rfl _ (.tmp 18) rfl w _ _ (row_alloc (by assumption) _) rfl (by simp) _ nCfg rfl (by simp [nCfg]) ?_; intro vb wb hrb; have cd := keep_cell hrb.1 c2; have ce := keep_cell hrb.1 c3)
      | (at_builtin; refine wp_name _ rfl _ (.tmp 26) rfl w _ _ (row_alloc (by assumption) _) rfl (by simp) _ nDow rfl (by simp [nDow]) ?_; intro vc wc hrc; have cf := keep_cell hrc.1 c3)
      | (at_builtin; refine wp_name _ rfl _ (.tmp 34) rfl w _ _ (row_alloc (by assumption) _) rfl (by simp) _ nPro rfl (by simp [nPro]) ?_; intro vd wd hrd))
    go_ret
    exact ⟨_, rfl, by assumption⟩
end Go.Proofs.Qxb6629077a
