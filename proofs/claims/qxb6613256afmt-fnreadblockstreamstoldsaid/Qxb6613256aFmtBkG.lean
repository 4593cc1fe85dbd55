/-
  readBlock, walked: case G
-/
import Derived.Test.Qxb6613256aFmtBk
set_option linter.unusedVariables false
set_option linter.unusedSimpArgs false
namespace Go.Proofs.Qxb6613256aFmt
open Go.RowKit Go.Extern.Stop Go.Stop Go.Extern

set_option maxRecDepth 100000 in
set_option maxHeartbeats 1000000 in
theorem readBlock_G (F : Interp) (rb bb : Nat) (zs : List Int) (off : Nat) (w : World) (z0 : Int) (z1 : Int) (z2 : Int) (z3 : Int) (z4 : Int) (z5 : Int) (z6 : Int)
    (hF : F.answers w.tape) (hr : w.heap[rb]? = some (rdObj bb zs.length off .nilIface)) (hb : w.heap[bb]? = some (.cells (bs zs) 5 (0, 0))) (hl : zs.length ≤ 1048576)
    (y0 : zs[off]? = some z0) (p0 : 0 ≤ z0) (q0 : z0 < 256) (y1 : zs[off + 1]? = some z1) (p1 : 0 ≤ z1) (q1 : z1 < 256) (y2 : zs[off + 2]? = some z2) (p2 : 0 ≤ z2) (q2 : z2 < 256) (y3 : zs[off + 3]? = some z3) (p3 : 0 ≤ z3) (q3 : z3 < 256) (y4 : zs[off + 4]? = some z4) (p4 : 0 ≤ z4) (q4 : z4 < 256) (y5 : zs[off + 5]? = some z5) (p5 : 0 ≤ z5) (q5 : z5 < 256) (y6 : zs[off + 6]? = some z6) (p6 : 0 ≤ z6) (q6 : z6 < 256)
    (vs : Nat) (hvs : (vs : Int) = z5 + z6 * 256) (hm : off + 7 + vs ≤ zs.length) (hev : (bits BinOp.and IntKind.i64 z1 1 == 0) = false) (hsz : (z2 + z3 * 256 != 3 + (vs : Int)) = true) :
    Calls Tryf.prog 41 #[.pointer (some ⟨rb, 0, none⟩)] w fun e w' =>
      ∃ p, e = .returned (.agg #[.int .i64 z0, .int .i64 (wrap64 (bits BinOp.and IntKind.u8 z4 127)), .bool (bits BinOp.and IntKind.u8 z4 128 != 0), .slice (some ⟨bb, p, none⟩) vs (zs.length - (off + 7))]) ∧ (0 < vs → p = off + 7) ∧ (∃ T x, w'.heap[rb]? = some (rdObj bb zs.length (off + 7 + vs) (.iface T x))) ∧ w'.heap[bb]? = some (.cells (bs zs) 5 (0, 0)) ∧ Kp [rb] w w' := by
  have e1 : wrap64 (bits BinOp.and IntKind.u8 0 127) = 0 := by decide +kernel
  have e2 : (bits BinOp.and IntKind.u8 0 128 != 0) = false := by decide +kernel
  have lr := lt_of_at hr
  have nrR : w.heap.size ≠ rb := by omega
  have W0 : ∀ o : Obj, Kp [rb] w (w.alloc o) := fun o => (Kp.refl _ _).alloc o
  have hr0 := fun o => heap_old w o hr
  have HR := (show Hid _ from hr0)
  have nbr : bb ≠ rb := by rintro rfl; rw [hb] at hr; simp [rdObj] at hr
  have nbR : bb ≠ w.heap.size := by have := lt_of_at hb; omega
  have hb0 := fun o => heap_old w o hb
  have HB := (show Hid _ from hb0)
  clear hb hb0
  have hR0 := fun o => heap_push w o
  have HQ := (show Hid _ from hR0)
  clear hr hr0 hR0
  go_enter Tryf.func41, Tryf.ntmps41
  go_wp2_with fail
  refine (uint_ok1 rb bb zs off z0 _ _ (HR.out _) (HB.out _) hl (by omega) y0 p0 q0).mono ?_
  rintro e w1 ⟨rfl, hr1, -, hk1⟩
  have hq1 := hk1.at (HQ.out _) (by simp [nrR])
  have K1 : Kp [rb] w w1 := (W0 _).trans hk1
  have hb1 := hk1.at (HB.out _) (by simp [nbr])
  have HB1 := (show Hid _ from hb1)
  clear hb1
  have HR1 := (show Hid _ from hr1)
  have HQ1 := (show Hid _ from hq1)
  clear hr1 hq1 hk1
  go_wp2_with fail
  refine (uint_ok1 rb bb zs (off + 1) z1 _ _ (HR1.out) (HB1.out) hl (by omega) y1 p1 q1).mono ?_
  rintro e w2 ⟨rfl, hr2, -, hk2⟩
  have hq2 := hk2.at (HQ1.out) (by simp [nrR])
  have K2 : Kp [rb] w w2 := K1.trans hk2
  have hb2 := hk2.at (HB1.out) (by simp [nbr])
  have HB2 := (show Hid _ from hb2)
  clear hb2
  have HR2 := (show Hid _ from hr2)
  have HQ2 := (show Hid _ from hq2)
  clear hr2 hq2 hk2
  go_wp2_with fail
  refine (uint_ok2 rb bb zs (off + 2) z2 z3 _ _ (HR2.out) (HB2.out) hl (by omega) y2 y3 p2 q2 p3 q3).mono ?_
  rintro e w3 ⟨rfl, hr3, -, hk3⟩
  have hq3 := hk3.at (HQ2.out) (by simp [nrR])
  have K3 : Kp [rb] w w3 := K2.trans hk3
  have hb3 := hk3.at (HB2.out) (by simp [nbr])
  have HB3 := (show Hid _ from hb3)
  clear hb3
  have HR3 := (show Hid _ from hr3)
  have HQ3 := (show Hid _ from hq3)
  clear hr3 hq3 hk3
  go_wp2_with fail
  refine (uint_ok1 rb bb zs (off + 4) z4 _ _ (HR3.out) (HB3.out) hl (by omega) y4 p4 q4).mono ?_
  rintro e w4 ⟨rfl, hr4, -, hk4⟩
  have hq4 := hk4.at (HQ3.out) (by simp [nrR])
  have K4 : Kp [rb] w w4 := K3.trans hk4
  have hb4 := hk4.at (HB3.out) (by simp [nbr])
  have HB4 := (show Hid _ from hb4)
  clear hb4
  have HR4 := (show Hid _ from hr4)
  have HQ4 := (show Hid _ from hq4)
  clear hr4 hq4 hk4
  go_wp2_with fail
  refine (uint_ok2 rb bb zs (off + 5) z5 z6 _ _ (HR4.out) (HB4.out) hl (by omega) y5 y6 p5 q5 p6 q6).mono ?_
  rintro e w5 ⟨rfl, hr5, -, hk5⟩
  have hq5 := hk5.at (HQ4.out) (by simp [nrR])
  have K5 : Kp [rb] w w5 := K4.trans hk5
  have hb5 := hk5.at (HB4.out) (by simp [nbr])
  have HB5 := (show Hid _ from hb5)
  clear hb5
  have HR5 := (show Hid _ from hr5)
  have HQ5 := (show Hid _ from hq5)
  clear hr5 hq5 hk5
  go_wp2_with fail
  rw [← hvs]
  refine (next_ok rb bb zs.length (off + 7) vs _ _ (HR5.out) hl (by omega)).mono ?_
  rintro e w6 ⟨p, rfl, hp, hr6, hk6⟩
  have hq6 := hk6.at (HQ5.out) (by simp [nrR])
  have K6 : Kp [rb] w w6 := K5.trans hk6
  have hb6 := hk6.at (HB5.out) (by simp [nbr])
  have HB6 := (show Hid _ from hb6)
  clear hb6
  have HR6 := (show Hid _ from hr6)
  have HQ6 := (show Hid _ from hq6)
  clear hr6 hq6 hk6
  go_wp2_with fail
  refine (fail_new F rb (.slice (some ⟨bb, 0, none⟩) zs.length zs.length) ((off + 7 + vs : Nat) : Int) _ _ _ _ ?_ ?_ ?_).mono ?_
  · exact K6.answers hF
  · exact heap_old _ _ (HR6.out)
  · exact sprintf_size F _ _ _ _ _ _ (K6.answers hF) pSize (heap_push _ _)
  rintro e w7 ⟨rfl, T, x, hr7, hj7⟩
  have hk7 : Kp [rb] w6 w7 := ((Kp.refl _ _).alloc _).trans hj7
  clear hj7
  have hq7 := hk7.at (HQ6.out) (by simp [nrR])
  have K7 : Kp [rb] w w7 := K6.trans hk7
  have hb7 := hk7.at (HB6.out) (by simp [nbr])
  have HB7 := (show Hid _ from hb7)
  clear hb7
  have t0 := fun v0 => cell_set_at (v := v0) hq7 0 (by decide)
  have t1 := fun v0 v1 => cell_set_at (v := v1) (heap_setCell_at hq7 0 v0) 1 (by simp)
  have t2 := fun v0 v1 v2 => cell_set_at (v := v2) (heap_setCell_at (heap_setCell_at hq7 0 v0) 1 v1) 2 (by simp)
  have t3 := fun v0 v1 v2 v3 => cell_set_at (v := v3) (heap_setCell_at (heap_setCell_at (heap_setCell_at hq7 0 v0) 1 v1) 2 v2) 3 (by simp)
  have c0 : w7.cell? ⟨w.heap.size, 0, none⟩ = some (.int .i64 0) := by rw [cell_at hq7]; rfl
  have f0 := frozen_at hq7 0
  have c1 : w7.cell? ⟨w.heap.size, 1, none⟩ = some (.int .i64 0) := by rw [cell_at hq7]; rfl
  have f1 := frozen_at hq7 1
  have c2 : w7.cell? ⟨w.heap.size, 2, none⟩ = some (.bool false) := by rw [cell_at hq7]; rfl
  have f2 := frozen_at hq7 2
  have c3 : w7.cell? ⟨w.heap.size, 3, none⟩ = some (.slice none 0 0) := by rw [cell_at hq7]; rfl
  have f3 := frozen_at hq7 3
  have HR7 := (show Hid _ from hr7)
  have HQ7 := (show Hid _ from hq7)
  clear hr7 hq7 hk7
  go_wp2_with fail
  exact bodyPost_ret (v := .agg #[.int .i64 z0, .int .i64 (wrap64 (bits BinOp.and IntKind.u8 z4 127)), .bool (bits BinOp.and IntKind.u8 z4 128 != 0), .slice (some ⟨bb, p, none⟩) vs (zs.length - (off + 7))]) (by simp [results, Tryf.results41, go_sem, t0, t1, t2, t3]) rfl ⟨p, rfl, hp, ⟨T, x, (at_setCell (at_setCell (at_setCell (at_setCell (HR7.out) _ _ nrR.symm) _ _ nrR.symm) _ _ nrR.symm) _ _ nrR.symm)⟩, (at_setCell (at_setCell (at_setCell (at_setCell (HB7.out) _ _ nbR) _ _ nbR) _ _ nbR) _ _ nbR), ((((K7.setCell (Or.inr (Nat.le_refl _)) _).setCell (Or.inr (Nat.le_refl _)) _).setCell (Or.inr (Nat.le_refl _)) _).setCell (Or.inr (Nat.le_refl _)) _)⟩

end Go.Proofs.Qxb6613256aFmt
