/-
  zzPartSpec, walked.
-/
import Derived.Test.Qxb6613960aBs
set_option linter.unusedVariables false
set_option linter.unusedSimpArgs false
namespace Go.Proofs.Qxb6613960a
open Go.RowKit

set_option maxRecDepth 100000 in
set_option maxHeartbeats 4000000 in
theorem partSpec (p : Pt) (t : Tc) (rp bp : Option Addr) (w : World) (ht : p.tc = some t) (hr : ResIn w rp p.c.res) (hb : BlAt w bp t.blk) :
    Calls Try.prog 17 #[.agg (p.cells rp).toArray, .agg (t.cells bp).toArray] w fun e w' => e = .returned (.bool true) ∧ Kp [] w w' := by
  obtain ⟨ty, c, path, old, new, term⟩ := p
  dsimp only at hr
  have e22 := eql22
  by_cases h1 : (ty.toList == lContent) = true
  · have m1 : ty.toList = lContent := by simpa using h1
    by_cases h2 : (c.ty.toList == lText) = true
    · have m2 : c.ty.toList = lText := by simpa using h2
      have e : some t = some ⟨sContent, c.text, none, em, none, em, em⟩ := by rw [← ht]; unfold Pt.tc; rw [if_pos h1, if_pos h2]
      cases e
      have e2 : bp = none := hb
      subst e2
      simp only [Pt.cells, Tc.cells, sContent, em]
      simp only [lContent, lText] at h1 m1 h2 m2
      go_enter Try.func17, Try.ntmps17
      go_wp2_with fail
      go_ret
      exact ⟨rfl, ((Kp.refl _ _).alloc _).alloc _⟩
    · have n2 : (c.ty.toList == lText) = false := by simpa using h2
      have m2 : ¬ c.ty.toList = lText := by simpa using n2
      have e : some t = some ⟨sContent, em, some c.blk, em, none, em, em⟩ := by rw [← ht]; unfold Pt.tc; rw [if_pos h1, if_neg h2]
      cases e
      have B := hid (fun wx (k : Kp [] w wx) => blockSpec c rp bp wx (hr.kp k) (BlAt.kp hb k))
      simp only [Pt.cells, Tc.cells, sContent, em]
      clear h2 hr hb
      simp only [lContent, lText] at h1 m1 n2 m2
      go_enter Try.func17, Try.ntmps17
      go_wp2_with fail
      refine (B.out _ (((Kp.refl _ _).alloc _).alloc _)).mono ?_
      rintro e w1 ⟨rfl, k1⟩
      have K1 := hid ((((Kp.refl _ w).alloc _).alloc _).trans k1)
      clear k1
      go_wp2_with fail
      go_ret
      exact ⟨rfl, K1.out⟩
  · have n1 : (ty.toList == lContent) = false := by simpa using h1
    have m1 : ¬ ty.toList = lContent := by simpa using n1
    by_cases h2 : (ty.toList == lDiff) = true
    · have m2 : ty.toList = lDiff := by simpa using h2
      have e : some t = some ⟨sDiff, em, none, path, old, new, em⟩ := by rw [← ht]; unfold Pt.tc; rw [if_neg h1, if_pos h2]
      cases e
      have e2 : bp = none := hb
      subst e2
      simp only [Pt.cells, Tc.cells, sDiff, em]
      clear h1
      simp only [lContent, lDiff] at n1 m1 h2 m2
      go_enter Try.func17, Try.ntmps17
      go_wp2_with fail
      go_ret
      exact ⟨rfl, ((Kp.refl _ _).alloc _).alloc _⟩
    · have n2 : (ty.toList == lDiff) = false := by simpa using h2
      have m2 : ¬ ty.toList = lDiff := by simpa using n2
      by_cases h3 : (ty.toList == lTerm) = true
      · have m3 : ty.toList = lTerm := by simpa using h3
        have e : some t = some ⟨sTerm, em, none, em, none, em, term⟩ := by rw [← ht]; unfold Pt.tc; rw [if_neg h1, if_neg h2, if_pos h3]
        cases e
        have e2 : bp = none := hb
        subst e2
        simp only [Pt.cells, Tc.cells, sTerm, em]
        clear h1 h2
        simp only [lContent, lDiff, lTerm] at n1 m1 n2 m2 h3 m3
        go_enter Try.func17, Try.ntmps17
        go_wp2_with fail
        go_ret
        exact ⟨rfl, ((Kp.refl _ _).alloc _).alloc _⟩
      · unfold Pt.tc at ht
        rw [if_neg h1, if_neg h2, if_neg h3] at ht
        cases ht

end Go.Proofs.Qxb6613960a
