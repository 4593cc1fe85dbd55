/-
  zzSamePart, walked.
-/
import Derived.Test.Qxb6613960aSa
set_option linter.unusedVariables false
set_option linter.unusedSimpArgs false
namespace Go.Proofs.Qxb6613960a
open Go.RowKit

set_option maxRecDepth 100000 in
set_option maxHeartbeats 2000000 in
theorem samePart (t : Tc) (bp bp' : Option Addr) (w : World) (h : BlAt w bp t.blk) (h' : BlAt w bp' t.blk) :
    Calls Try.prog 13 #[.agg (t.cells bp).toArray, .agg (t.cells bp').toArray] w fun e w' => e = .returned (.bool true) ∧ Kp [] w w' := by
  obtain ⟨ty, text, blk, path, old, new, term⟩ := t
  simp only [Tc.cells]
  have e22 := neq22
  cases blk with
  | none =>
    have e : bp = none := h
    have e' : bp' = none := h'
    subst e e'
    go_enter Try.func13, Try.ntmps13
    go_wp2_with fail
    go_quiet (fail)
    all_goals
      go_wp2_with fail
      go_ret
      exact ⟨rfl, (((Kp.refl _ _).alloc _).alloc _).drewN _⟩
  | some b =>
    obtain ⟨g, rfl, hg⟩ := h
    obtain ⟨g', rfl, hg'⟩ := h'
    obtain ⟨b0, b1, b2, b3, b4⟩ := b
    simp only [Bl.obj] at hg hg'
    have l := lt_of_at hg
    have l' := lt_of_at hg'
    have c0 : w.cell? ⟨g, 0, none⟩ = some (.string b0) := by rw [cell_at hg]; rfl
    have c1 : w.cell? ⟨g, 1, none⟩ = some (.string b1) := by rw [cell_at hg]; rfl
    have c2 : w.cell? ⟨g, 2, none⟩ = some (.string b2) := by rw [cell_at hg]; rfl
    have c3 : w.cell? ⟨g, 3, none⟩ = some (.string b3) := by rw [cell_at hg]; rfl
    have c4 : w.cell? ⟨g, 4, none⟩ = some (.string b4) := by rw [cell_at hg]; rfl
    have d0 : w.cell? ⟨g', 0, none⟩ = some (.string b0) := by rw [cell_at hg']; rfl
    have d1 : w.cell? ⟨g', 1, none⟩ = some (.string b1) := by rw [cell_at hg']; rfl
    have d2 : w.cell? ⟨g', 2, none⟩ = some (.string b2) := by rw [cell_at hg']; rfl
    have d3 : w.cell? ⟨g', 3, none⟩ = some (.string b3) := by rw [cell_at hg']; rfl
    have d4 : w.cell? ⟨g', 4, none⟩ = some (.string b4) := by rw [cell_at hg']; rfl
    clear hg hg'
    have l1 : g < w.heap.size + 1 := by omega
    have l2 : g' < w.heap.size + 1 := by omega
    go_enter Try.func13, Try.ntmps13
    go_wp2_with fail
    go_quiet (fail)
    all_goals
      go_wp2_with fail
      go_ret
      exact ⟨rfl, (((Kp.refl _ _).alloc _).alloc _).drewN _⟩

end Go.Proofs.Qxb6613960a
