/-
  zzToolCall and toolCallOf, walked.
-/
import Derived.Test.Qxb6613960aAt
set_option linter.unusedVariables false
set_option linter.unusedSimpArgs false
namespace Go.Proofs.Qxb6613960a
open Go.RowKit

set_option maxRecDepth 100000 in
set_option maxHeartbeats 2000000 in
theorem toolCall_all (id : ByteArray) (title kind status : Option Addr) (ls : List Lc) (la : Option Addr) (lc : Nat) (ps : List Pt) (pa : Option Addr) (pc : Nat) (w : World)
    (hll : ls.length ≤ 65537) (hL : LSl w la ls) (hln : la = none → ls = [] ∧ lc = 0) (hpl : ps.length ≤ 65537) (hP : PSl w pa ps) (hpn : pa = none → ps = [] ∧ pc = 0) :
    Calls Try.prog 9 #[.string id, .pointer title, .pointer kind, .pointer status, .slice la ls.length lc, .slice pa ps.length pc] w fun e w' =>
      ∃ vl vp, e = .returned (.agg #[.string id, .pointer title, .pointer kind, .pointer status, vl, vp]) ∧ LV w' 110 la vl ls ∧ PV w' pa vp ps ∧ Kp [] w w' := by
  have HL := hid hL
  have HP := hid hP
  clear hL hP
  go_enter Try.func9, Try.ntmps9
  go_wp2_with fail
  refine (acpLocs_all _ ls la lc hll (HL.out.kp ((Kp.refl _ _).alloc _)) hln _ (Kp.refl _ _)).mono ?_
  rintro e w1 ⟨vl, rfl, hvl, k1⟩
  go_wp2_with fail
  refine (acpParts_all _ ps pa pc hpl ((HP.out.kp ((Kp.refl _ _).alloc _)).kp k1) hpn _ (Kp.refl _ _)).mono ?_
  rintro e w2 ⟨vp, rfl, hvp, k12⟩
  have hvl := hvl.kp k12
  have k2 := k1.trans k12
  obtain ⟨xl, nl, cl, rfl⟩ := hvl.slice
  obtain ⟨xp, np, cp, rfl⟩ := hvp.slice
  have hb := k2.at (heap_push _ _) (by simp)
  have hlt := lt_of_at hb
  have d0 := cell_at hb 0
  have d1 := cell_at hb 1
  have d2 := cell_at hb 2
  have d3 := cell_at hb 3
  have d4 := cell_at hb 4
  have d5 := cell_at hb 5
  have f0 := frozen_at hb 0
  have f1 := frozen_at hb 1
  have f2 := frozen_at hb 2
  have f3 := frozen_at hb 3
  have f4 := frozen_at hb 4
  have f5 := frozen_at hb 5
  have HB := hid hb
  clear hb
  simp at d0 d1 d2 d3 d4 d5
  go_wp2_with fail
  have hk := fun v0 v1 v2 v3 v4 v5 => setRow_kp [v0, v1, v2, v3, v4, v5] w2 w [] w.heap.size 0 (((Kp.refl [] w).alloc _).trans k2) (Or.inr (Nat.le_refl _))
  have hk2 := fun v0 v1 v2 v3 v4 v5 => setRow_kp [v0, v1, v2, v3, v4, v5] w2 w2 [w.heap.size] w.heap.size 0 (Kp.refl _ _) (Or.inl (by simp))
  simp only [setRow, Nat.add_assoc, Nat.reduceAdd, Nat.zero_add] at hk hk2
  exact bodyPost_ret (v := .agg #[.string id, .pointer title, .pointer kind, .pointer status, .slice xl nl cl, .slice xp np cp]) (by simp [results, Try.results9, go_sem, d0, d1, d2, d3, d4, d5]) rfl ⟨_, _, rfl, hvl.put HB.out (hk2 _ _ _ _ _ _) (by decide), hvp.put HB.out (hk2 _ _ _ _ _ _) (by decide) (by decide), hk _ _ _ _ _ _⟩

end Go.Proofs.Qxb6613960a
