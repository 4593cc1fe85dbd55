/-
  readBlock, walked: case S2
-/
import Derived.Test.Qxb6613256aFmtBk
set_option linter.unusedVariables false
set_option linter.unusedSimpArgs false
namespace Go.Proofs.Qxb6613256aFmt
open Go.RowKit Go.Extern.Stop Go.Stop Go.Extern

set_option maxRecDepth 100000 in
set_option maxHeartbeats 1000000 in
theorem readBlock_S2 (F : Interp) (rb bb : Nat) (zs : List Int) (off : Nat) (w : World) (z0 : Int) (z1 : Int)
    (hF : F.answers w.tape) (hr : w.heap[rb]? = some (rdObj bb zs.length off .nilIface)) (hb : w.heap[bb]? = some (.cells (bs zs) 5 (0, 0))) (hl : zs.length ≤ 1048576)
    (y0 : zs[off]? = some z0) (p0 : 0 ≤ z0) (q0 : z0 < 256) (y1 : zs[off + 1]? = some z1) (p1 : 0 ≤ z1) (q1 : z1 < 256)
    (hm : off + 2 ≤ zs.length) (hn : zs.length < off + 4) (hev : (bits BinOp.and IntKind.i64 z1 1 == 0) = false) :
    Calls Tryf.prog 41 #[.pointer (some ⟨rb, 0, none⟩)] w fun e w' =>
      e = .returned (.agg #[.int .i64 z0, .int .i64 0, .bool false, .slice none 0 0]) ∧ (∃ T x, w'.heap[rb]? = some (rdObj bb zs.length (off + 2) (.iface T x))) ∧ w'.heap[bb]? = some (.cells (bs zs) 5 (0, 0)) ∧ Kp [rb] w w' := by
  have e1 : wrap64 (bits BinOp.and IntKind.u8 0 127) = 0 := by decide +kernel
  have e2 : (bits BinOp.and IntKind.u8 0 128 != 0) = false := by decide +kernel
  have lr := lt_of_at hr
  have nrR : w.heap.size ≠ rb := by omega
  have W0 : ∀ o : Obj, Kp [rb] w (w.alloc o) := fun o => (Kp.refl _ _).alloc o
  have hr0 := fun o => heap_old w o hr
  have HR := (show Hid _ from hr0)
  have nbr : bb ≠ rb := by rintro rfl; rw [hb] at hr; simp [rdObj] at hr
  have nbR : bb ≠ w.heap.size := by have := lt_of_at hb; omega
  have hb0 := fun o => heap_old w o hb
  have HB := (show Hid _ from hb0)
  clear hb hb0
  have hR0 := fun o => heap_push w o
  have HQ := (show Hid _ from hR0)
  clear hr hr0 hR0
  go_enter Tryf.func41, Tryf.ntmps41
  go_wp2_with fail
  refine (uint_ok1 rb bb zs off z0 _ _ (HR.out _) (HB.out _) hl (by omega) y0 p0 q0).mono ?_
  rintro e w1 ⟨rfl, hr1, -, hk1⟩
  have hq1 := hk1.at (HQ.out _) (by simp [nrR])
  have K1 : Kp [rb] w w1 := (W0 _).trans hk1
  have hb1 := hk1.at (HB.out _) (by simp [nbr])
  have HB1 := (show Hid _ from hb1)
  clear hb1
  have HR1 := (show Hid _ from hr1)
  have HQ1 := (show Hid _ from hq1)
  clear hr1 hq1 hk1
  go_wp2_with fail
  refine (uint_ok1 rb bb zs (off + 1) z1 _ _ (HR1.out) (HB1.out) hl (by omega) y1 p1 q1).mono ?_
  rintro e w2 ⟨rfl, hr2, -, hk2⟩
  have hq2 := hk2.at (HQ1.out) (by simp [nrR])
  have K2 : Kp [rb] w w2 := K1.trans hk2
  have hb2 := hk2.at (HB1.out) (by simp [nbr])
  have HB2 := (show Hid _ from hb2)
  clear hb2
  have HR2 := (show Hid _ from hr2)
  have HQ2 := (show Hid _ from hq2)
  clear hr2 hq2 hk2
  go_wp2_with fail
  have us := uint_short F rb (some ⟨bb, 0, none⟩) zs.length zs.length (off + 2) 2
  simp only [Int.cast_ofNat_Int] at us
  refine (us _ _ (K2.answers hF) (HR2.out) (by omega) hl (by omega) (by omega)).mono ?_
  rintro e w3 ⟨rfl, T, x, hr3, hk3⟩
  clear us
  have hq3 := hk3.at (HQ2.out) (by simp [nrR])
  have K3 : Kp [rb] w w3 := K2.trans hk3
  have hb3 := hk3.at (HB2.out) (by simp [nbr])
  have HB3 := (show Hid _ from hb3)
  clear hb3
  have HR3 := (show Hid _ from hr3)
  have HQ3 := (show Hid _ from hq3)
  clear hr3 hq3 hk3
  go_wp2_with fail
  refine (uint_failed rb _ _ T x _ _ _ (HR3.out)).mono ?_
  rintro e w4 ⟨rfl, q4', hw4⟩
  have hk4 := kp_drewN [rb] hw4
  have hr4 := at_drewN hw4 (HR3.out)
  clear hw4
  have hq4 := hk4.at (HQ3.out) (by simp [nrR])
  have K4 : Kp [rb] w w4 := K3.trans hk4
  have hb4 := hk4.at (HB3.out) (by simp [nbr])
  have HB4 := (show Hid _ from hb4)
  clear hb4
  have HR4 := (show Hid _ from hr4)
  have HQ4 := (show Hid _ from hq4)
  clear hr4 hq4 hk4
  go_wp2_with fail
  refine (uint_failed rb _ _ T x _ _ _ (HR4.out)).mono ?_
  rintro e w5 ⟨rfl, q5', hw5⟩
  have hk5 := kp_drewN [rb] hw5
  have hr5 := at_drewN hw5 (HR4.out)
  clear hw5
  have hq5 := hk5.at (HQ4.out) (by simp [nrR])
  have K5 : Kp [rb] w w5 := K4.trans hk5
  have hb5 := hk5.at (HB4.out) (by simp [nbr])
  have HB5 := (show Hid _ from hb5)
  clear hb5
  have HR5 := (show Hid _ from hr5)
  have HQ5 := (show Hid _ from hq5)
  clear hr5 hq5 hk5
  go_wp2_with fail
  refine (next_failed rb _ _ T x _ _ _ (HR5.out)).mono ?_
  rintro e w6 ⟨rfl, q6', hw6⟩
  have hk6 := kp_drewN [rb] hw6
  have hr6 := at_drewN hw6 (HR5.out)
  clear hw6
  have hq6 := hk6.at (HQ5.out) (by simp [nrR])
  have K6 : Kp [rb] w w6 := K5.trans hk6
  have hb6 := hk6.at (HB5.out) (by simp [nbr])
  have HB6 := (show Hid _ from hb6)
  clear hb6
  have HR6 := (show Hid _ from hr6)
  have HQ6 := (show Hid _ from hq6)
  clear hr6 hq6 hk6
  go_wp2_with fail
  refine (fail_failed rb _ _ T x _ _ _ _ (heap_old _ _ (HR6.out))).mono ?_
  rintro e w7 ⟨rfl, hw7⟩
  have hk7 := kp_alloc [rb] hw7
  have hr7 := at_alloc hw7 (HR6.out)
  clear hw7
  have hq7 := hk7.at (HQ6.out) (by simp [nrR])
  have K7 : Kp [rb] w w7 := K6.trans hk7
  have hb7 := hk7.at (HB6.out) (by simp [nbr])
  have HB7 := (show Hid _ from hb7)
  clear hb7
  have t0 := fun v0 => cell_set_at (v := v0) hq7 0 (by decide)
  have t1 := fun v0 v1 => cell_set_at (v := v1) (heap_setCell_at hq7 0 v0) 1 (by simp)
  have t2 := fun v0 v1 v2 => cell_set_at (v := v2) (heap_setCell_at (heap_setCell_at hq7 0 v0) 1 v1) 2 (by simp)
  have t3 := fun v0 v1 v2 v3 => cell_set_at (v := v3) (heap_setCell_at (heap_setCell_at (heap_setCell_at hq7 0 v0) 1 v1) 2 v2) 3 (by simp)
  have c0 : w7.cell? ⟨w.heap.size, 0, none⟩ = some (.int .i64 0) := by rw [cell_at hq7]; rfl
  have f0 := frozen_at hq7 0
  have c1 : w7.cell? ⟨w.heap.size, 1, none⟩ = some (.int .i64 0) := by rw [cell_at hq7]; rfl
  have f1 := frozen_at hq7 1
  have c2 : w7.cell? ⟨w.heap.size, 2, none⟩ = some (.bool false) := by rw [cell_at hq7]; rfl
  have f2 := frozen_at hq7 2
  have c3 : w7.cell? ⟨w.heap.size, 3, none⟩ = some (.slice none 0 0) := by rw [cell_at hq7]; rfl
  have f3 := frozen_at hq7 3
  have HR7 := (show Hid _ from hr7)
  have HQ7 := (show Hid _ from hq7)
  clear hr7 hq7 hk7
  go_wp2_with fail
  exact bodyPost_ret (v := .agg #[.int .i64 z0, .int .i64 0, .bool false, .slice none 0 0]) (by simp [results, Tryf.results41, go_sem, t0, t1, t2, t3]) rfl ⟨rfl, ⟨T, x, (at_setCell (at_setCell (at_setCell (at_setCell (HR7.out) _ _ nrR.symm) _ _ nrR.symm) _ _ nrR.symm) _ _ nrR.symm)⟩, (at_setCell (at_setCell (at_setCell (at_setCell (HB7.out) _ _ nbR) _ _ nbR) _ _ nbR) _ _ nbR), ((((K7.setCell (Or.inr (Nat.le_refl _)) _).setCell (Or.inr (Nat.le_refl _)) _).setCell (Or.inr (Nat.le_refl _)) _).setCell (Or.inr (Nat.le_refl _)) _)⟩

end Go.Proofs.Qxb6613256aFmt
