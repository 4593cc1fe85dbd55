/-
  ZZtoolCallOf, walked.
-/
import Derived.Test.Qxb6613960aAw
set_option linter.unusedVariables false
set_option linter.unusedSimpArgs false
namespace Go.Proofs.Qxb6613960a
open Go.RowKit

theorem info46 : (Try.prog.info? 46).map (·.size) = some 6 := by kernel_rfl
theorem load46 {wx : World} {g : Nat} {cs : Array Value} (h : wx.heap[g]? = some (.cells cs 46 (0, 0))) (hz : cs.size = 6) :
    (loadVar 46 ⟨g, 0, none⟩).run Try.prog wx = .ok (.agg cs) wx := by
  have := run_loadVar_mid (P := Try.prog) wx g 0 46 cs.toList _ (fun j v hv => by rw [cell_at h]; simpa using hv) Try.underlying46 rfl (by rw [Array.length_toList, hz]; exact info46)
  simpa using this

attribute [-go_sem] storeVar loadVar

set_option maxRecDepth 100000 in
set_option maxHeartbeats 2000000 in
theorem zzToolCallOf_all (typ id : ByteArray) (title kind status : Option Addr) (ls : List Lc) (la : Option Addr) (ps : List Pt) (pa : Option Addr) (vl vp : Value) (w : World)
    (hll : ls.length ≤ 65537) (hL : LV w 110 la vl ls) (hpl : ps.length ≤ 65537) (hP : PV w pa vp ps) (ti ki st : ByteArray) (hti : SP w title ti) (hki : SP w kind ki) (hsta : SP w status st) :
    Calls Try.prog 8 #[.string typ, .agg #[.string id, .pointer title, .pointer kind, .pointer status, vl, vp]] w fun e w' =>
      ∃ x n c x' n' c', e = .returned (.agg (evArr typ id ti ki st (.slice x n c) (.slice x' n' c'))) ∧ LV w' 51 la (.slice x n c) ls ∧ EV w' pa (.slice x' n' c') (ps.filterMap Pt.tc) ∧ Kp [] w w' := by
  obtain ⟨xl, nl, cl, rfl⟩ := hL.slice
  obtain ⟨xp, np, cp, rfl⟩ := hP.slice
  have HL := hid hL
  have HP := hid hP
  have HTI := hid hti
  have HKI := hid hki
  have HST := hid hsta
  clear hL hP hti hki hsta
  have hl46 := fun o => load46 (heap_old _ o (heap_push w (.cells #[.string id, .pointer title, .pointer kind, .pointer status, .slice xl nl cl, .slice xp np cp] 46))) rfl
  go_enter Try.func8, Try.ntmps8
  go_wp2_with fail
  have k0 := ((Kp.refl [] w).alloc (.cells #[.string id, .pointer title, .pointer kind, .pointer status, .slice xl nl cl, .slice xp np cp] 46)).alloc (.cells #[.int .i64 0, .string em, .int .u64 0, .int .i64 0, .pointer none, .string em, .string em, .string em, .pointer none, .string em, .string em, .string em, .string em, .string em, .string em, .slice none 0 0, .string em, .string em, .string em, .string em, .string em, .string em, .bool false, .string em, .slice none 0 0, .slice none 0 0, .slice none 0 0, .slice none 0 0, .slice none 0 0, .slice none 0 0, .int .i64 0, .string em, .string em, .slice none 0 0] 41)
  refine (toolCallOf_all typ id title kind status ls la ps pa xl nl cl xp np cp _ hll (HL.out.kp k0) hpl (HP.out.kp k0) ti ki st (HTI.out.kp k0) (HKI.out.kp k0) (HST.out.kp k0)).mono ?_
  rintro e w1 ⟨x, n, c, x', n', c', rfl, hvl, hvp, k1⟩
  have hR3 := k1.at (heap_push2 _ _ _) (by simp)
  have hsr := store41 _ (w.heap.size + 1) typ id ti ki st x n c x' n' c' (there_at hR3 rfl)
  have hRe := setCells_all hR3 (evArr typ id ti ki st (.slice x n c) (.slice x' n' c')).toList rfl
  have hlr := load41 hRe rfl
  have k5 := setRow_kp (evArr typ id ti ki st (.slice x n c) (.slice x' n' c')).toList _ _ [w.heap.size + 1] (w.heap.size + 1) 0 (Kp.refl _ w1) (Or.inl (by simp))
  have k6 := setRow_kp (evArr typ id ti ki st (.slice x n c) (.slice x' n' c')).toList _ _ [] (w.heap.size + 1) 0 (k0.trans k1) (Or.inr (by omega))
  rw [← setCells_row] at k5 k6
  have hvl4 := hid (hvl.put hR3 k5 (by decide))
  have hvp4 := hid (hvp.put hR3 k5 (by decide) (by decide))
  have K6 := hid k6
  clear hR3 hRe k5 k6 k0 k1 hl46 hvl hvp
  go_wp2_with fail
  refine bodyPost_ret (v := .agg (evArr typ id ti ki st (.slice x n c) (.slice x' n' c'))) ?_ rfl ⟨x, n, c, x', n', c', rfl, hvl4.out, hvp4.out, K6.out⟩
  simp [results, Try.results8, go_sem, hlr]

end Go.Proofs.Qxb6613960a
