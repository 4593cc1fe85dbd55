/-
  zzBlockSpec, walked.
-/
import Derived.Test.Qxb6613960aLp
set_option linter.unusedVariables false
set_option linter.unusedSimpArgs false
namespace Go.Proofs.Qxb6613960a
open Go.RowKit

set_option maxRecDepth 100000 in
set_option maxHeartbeats 4000000 in
theorem blockSpec (c : Cb) (rp bp : Option Addr) (w : World) (hr : ResIn w rp c.res) (hb : BlAt w bp (some c.blk)) :
    Calls Try.prog 28 #[.agg #[.string c.ty, .string c.text, .string c.mime, .string c.uri, .string c.name, .pointer rp], .pointer bp] w fun e w' => e = .returned (.bool true) ∧ Kp [] w w' := by
  obtain ⟨g, rfl, hg⟩ := hb
  obtain ⟨ty, text, mime, uri, name, res⟩ := c
  dsimp only at hr ⊢
  have lg := lt_of_at hg
  have lg1 : g < w.heap.size + 1 := by omega
  by_cases h1 : (ty.toList == lImage) = true
  · have e : Cb.blk ⟨ty, text, mime, uri, name, res⟩ = ⟨ty, mime, uri, em, em⟩ := by unfold Cb.blk; rw [if_pos h1]
    rw [e] at hg
    have m1 : ty.toList = lImage := by simpa using h1
    simp only [lImage] at h1 m1
    have c0 : w.cell? ⟨g, 0, none⟩ = some (.string ty) := by rw [cell_at hg]; rfl
    have c1 : w.cell? ⟨g, 1, none⟩ = some (.string mime) := by rw [cell_at hg]; rfl
    have c2 : w.cell? ⟨g, 2, none⟩ = some (.string uri) := by rw [cell_at hg]; rfl
    have c3 : w.cell? ⟨g, 3, none⟩ = some (.string ⟨#[]⟩) := by rw [cell_at hg]; rfl
    have c4 : w.cell? ⟨g, 4, none⟩ = some (.string ⟨#[]⟩) := by rw [cell_at hg]; rfl
    clear hg
    go_enter Try.func28, Try.ntmps28
    go_wp2_with fail
    go_quiet (fail)
    all_goals
      go_wp2_with fail
      go_ret
      exact ⟨rfl, ((Kp.refl _ _).alloc _).drewN _⟩
  by_cases h2 : (ty.toList == lAudio) = true
  · have e : Cb.blk ⟨ty, text, mime, uri, name, res⟩ = ⟨ty, mime, em, em, em⟩ := by unfold Cb.blk; rw [if_neg h1]; rw [if_pos h2]
    rw [e] at hg
    have m2 : ty.toList = lAudio := by simpa using h2
    have n1 : (ty.toList == lImage) = false := by simpa using h1
    have m1 : ¬ ty.toList = lImage := by simpa using n1
    clear h1
    simp only [lImage, lAudio] at m1 n1 h2 m2
    have c0 : w.cell? ⟨g, 0, none⟩ = some (.string ty) := by rw [cell_at hg]; rfl
    have c1 : w.cell? ⟨g, 1, none⟩ = some (.string mime) := by rw [cell_at hg]; rfl
    have c2 : w.cell? ⟨g, 2, none⟩ = some (.string ⟨#[]⟩) := by rw [cell_at hg]; rfl
    have c3 : w.cell? ⟨g, 3, none⟩ = some (.string ⟨#[]⟩) := by rw [cell_at hg]; rfl
    have c4 : w.cell? ⟨g, 4, none⟩ = some (.string ⟨#[]⟩) := by rw [cell_at hg]; rfl
    clear hg
    go_enter Try.func28, Try.ntmps28
    go_wp2_with fail
    go_quiet (fail)
    all_goals
      go_wp2_with fail
      go_ret
      exact ⟨rfl, ((Kp.refl _ _).alloc _).drewN _⟩
  by_cases h3 : (ty.toList == lLink) = true
  · have e : Cb.blk ⟨ty, text, mime, uri, name, res⟩ = ⟨ty, mime, uri, name, em⟩ := by unfold Cb.blk; rw [if_neg h1]; rw [if_neg h2]; rw [if_pos h3]
    rw [e] at hg
    have m3 : ty.toList = lLink := by simpa using h3
    have n1 : (ty.toList == lImage) = false := by simpa using h1
    have m1 : ¬ ty.toList = lImage := by simpa using n1
    have n2 : (ty.toList == lAudio) = false := by simpa using h2
    have m2 : ¬ ty.toList = lAudio := by simpa using n2
    clear h1 h2
    simp only [lImage, lAudio, lLink] at m1 n1 m2 n2 h3 m3
    have c0 : w.cell? ⟨g, 0, none⟩ = some (.string ty) := by rw [cell_at hg]; rfl
    have c1 : w.cell? ⟨g, 1, none⟩ = some (.string mime) := by rw [cell_at hg]; rfl
    have c2 : w.cell? ⟨g, 2, none⟩ = some (.string uri) := by rw [cell_at hg]; rfl
    have c3 : w.cell? ⟨g, 3, none⟩ = some (.string name) := by rw [cell_at hg]; rfl
    have c4 : w.cell? ⟨g, 4, none⟩ = some (.string ⟨#[]⟩) := by rw [cell_at hg]; rfl
    clear hg
    go_enter Try.func28, Try.ntmps28
    go_wp2_with fail
    go_quiet (fail)
    all_goals
      go_wp2_with fail
      go_ret
      exact ⟨rfl, ((Kp.refl _ _).alloc _).drewN _⟩
  by_cases h4 : (ty.toList == lRes) = true
  · have m4 : ty.toList = lRes := by simpa using h4
    have n1 : (ty.toList == lImage) = false := by simpa using h1
    have m1 : ¬ ty.toList = lImage := by simpa using n1
    have n2 : (ty.toList == lAudio) = false := by simpa using h2
    have m2 : ¬ ty.toList = lAudio := by simpa using n2
    have n3 : (ty.toList == lLink) = false := by simpa using h3
    have m3 : ¬ ty.toList = lLink := by simpa using n3
    cases res with
    | none =>
      have e : Cb.blk ⟨ty, text, mime, uri, name, none⟩ = ⟨ty, em, em, em, em⟩ := by unfold Cb.blk; rw [if_neg h1, if_neg h2, if_neg h3, if_pos h4]
      rw [e] at hg
      have e2 : rp = none := hr
      subst e2
      clear h1 h2 h3
      simp only [lImage, lAudio, lLink, lRes] at m1 n1 m2 n2 m3 n3 m4 h4
      have c0 : w.cell? ⟨g, 0, none⟩ = some (.string ty) := by rw [cell_at hg]; rfl
      have c1 : w.cell? ⟨g, 1, none⟩ = some (.string ⟨#[]⟩) := by rw [cell_at hg]; rfl
      have c2 : w.cell? ⟨g, 2, none⟩ = some (.string ⟨#[]⟩) := by rw [cell_at hg]; rfl
      have c3 : w.cell? ⟨g, 3, none⟩ = some (.string ⟨#[]⟩) := by rw [cell_at hg]; rfl
      have c4 : w.cell? ⟨g, 4, none⟩ = some (.string ⟨#[]⟩) := by rw [cell_at hg]; rfl
      clear hg
      go_enter Try.func28, Try.ntmps28
      go_wp2_with fail
      go_quiet (fail)
      all_goals
        go_wp2_with fail
        go_ret
        exact ⟨rfl, ((Kp.refl _ _).alloc _).drewN _⟩
    | some r =>
      have e : Cb.blk ⟨ty, text, mime, uri, name, some r⟩ = ⟨ty, r.mime, r.uri, em, r.text⟩ := by unfold Cb.blk; rw [if_neg h1, if_neg h2, if_neg h3, if_pos h4]
      rw [e] at hg
      obtain ⟨b2, o2, rfl, r0, r1, r2⟩ := hr
      have lb := lt_of_cell r0
      clear h1 h2 h3
      simp only [lImage, lAudio, lLink, lRes] at m1 n1 m2 n2 m3 n3 m4 h4
      have c0 : w.cell? ⟨g, 0, none⟩ = some (.string ty) := by rw [cell_at hg]; rfl
      have c1 : w.cell? ⟨g, 1, none⟩ = some (.string r.mime) := by rw [cell_at hg]; rfl
      have c2 : w.cell? ⟨g, 2, none⟩ = some (.string r.uri) := by rw [cell_at hg]; rfl
      have c3 : w.cell? ⟨g, 3, none⟩ = some (.string ⟨#[]⟩) := by rw [cell_at hg]; rfl
      have c4 : w.cell? ⟨g, 4, none⟩ = some (.string r.text) := by rw [cell_at hg]; rfl
      clear hg
      go_enter Try.func28, Try.ntmps28
      go_wp2_with fail
      go_quiet (fail)
      all_goals
        go_wp2_with fail
        go_ret
        exact ⟨rfl, ((Kp.refl _ _).alloc _).drewN _⟩
  · have e : Cb.blk ⟨ty, text, mime, uri, name, res⟩ = ⟨ty, em, em, em, em⟩ := by unfold Cb.blk; rw [if_neg h1, if_neg h2, if_neg h3, if_neg h4]
    rw [e] at hg
    have n1 : (ty.toList == lImage) = false := by simpa using h1
    have m1 : ¬ ty.toList = lImage := by simpa using n1
    have n2 : (ty.toList == lAudio) = false := by simpa using h2
    have m2 : ¬ ty.toList = lAudio := by simpa using n2
    have n3 : (ty.toList == lLink) = false := by simpa using h3
    have m3 : ¬ ty.toList = lLink := by simpa using n3
    have n4 : (ty.toList == lRes) = false := by simpa using h4
    have m4 : ¬ ty.toList = lRes := by simpa using n4
    clear h1 h2 h3 h4
    simp only [lImage, lAudio, lLink, lRes] at m1 n1 m2 n2 m3 n3 m4 n4
    have c0 : w.cell? ⟨g, 0, none⟩ = some (.string ty) := by rw [cell_at hg]; rfl
    have c1 : w.cell? ⟨g, 1, none⟩ = some (.string ⟨#[]⟩) := by rw [cell_at hg]; rfl
    have c2 : w.cell? ⟨g, 2, none⟩ = some (.string ⟨#[]⟩) := by rw [cell_at hg]; rfl
    have c3 : w.cell? ⟨g, 3, none⟩ = some (.string ⟨#[]⟩) := by rw [cell_at hg]; rfl
    have c4 : w.cell? ⟨g, 4, none⟩ = some (.string ⟨#[]⟩) := by rw [cell_at hg]; rfl
    clear hg
    go_enter Try.func28, Try.ntmps28
    go_wp2_with fail
    go_quiet (fail)
    all_goals
      go_wp2_with fail
      go_ret
      exact ⟨rfl, ((Kp.refl _ _).alloc _).drewN _⟩

end Go.Proofs.Qxb6613960a
