/-
  The law FnReadBlockStreams, walked: the first block is well
-/
import Derived.Test.Qxb6613256aFmtLwR
set_option linter.unusedVariables false
set_option linter.unusedSimpArgs false
namespace Go.Proofs.Qxb6613256aFmt
open Go.RowKit Go.Extern.Stop Go.Stop Go.Extern

set_option maxRecDepth 100000 in
set_option maxHeartbeats 2000000 in
theorem fn8_h (F : Interp) (a0 : Option Addr) (len cap : Nat) (zs : List Int) (o : Nat) (w : World) (hF : F.answers w.tape)
    (hz : zs.length = len) (hcap : a0 = none → cap = 0) (hsrc : Src w a0 zs) (hl : len ≤ 1048576) (ho : o ≤ len) (hzs : ∀ z ∈ zs, 0 ≤ z ∧ z < 256) (hbad : (blkOf zs o).bad = false) (hbadC : (blkOf zs (blkOf zs o).nd).bad = true) :
    Calls Tryf.prog 8 #[.slice a0 len cap, .int .i64 (o : Int)] w fun e w' => e = .returned (.bool true) ∧ Below w.heap.size w w' := by
  have ho1 : ¬ ((o : Int) < 0) := by omega
  have ho2 : ¬ ((len : Int) < (o : Int)) := by omega
  have HS := hid hsrc
  have HZ := hid hzs
  clear hsrc hzs
  have hnd := blkOf_nd zs o (by omega)
  obtain ⟨B, hB⟩ : ∃ B, B = blkOf zs o := ⟨_, rfl⟩
  rw [← hB] at hnd hbad
  have hndC := blkOf_nd zs B.nd (by omega)
  obtain ⟨C, hC⟩ : ∃ C, C = blkOf zs B.nd := ⟨_, rfl⟩
  rw [← hB] at hbadC
  rw [← hC] at hndC hbadC
  have HCk := hid hC
  have HCB := hid hbadC
  clear hC hbadC
  have HBk := hid hB
  have HBad := hid hbad
  clear hB hbad
  go_enter Tryf.func8, Tryf.ntmps8
  go_wp2_with fail
  refine (bytes30_any a0 len cap _ _ (by omega)).mono ?_
  rintro e w1 ⟨b, rfl, hb, hw⟩
  subst w1
  cases b
  · go_wp2_with fail
    go_ret
    exact ⟨rfl, Below.refl _ _⟩
  clear hb
  go_wp2_with fail
  refine (clone_any a0 len cap zs _ hz hcap hl HS.out).mono ?_
  rintro e w1 ⟨a1, rfl, hb1, hf1, K1⟩
  have cap1 : a1 = none → len = 0 := fun e => by
    subst e
    rcases hb1 with ⟨_, h⟩ | ⟨b, h, _⟩
    · subst h; simpa using hz.symm
    · cases h
  have CAP1 := hid cap1
  have HB1 := hid hb1
  clear hb1 cap1
  have zb := zzBlock_any a1 zs o w1 HB1.out (by omega) (by omega) HZ.out
  rw [hz, ← HBk.out] at zb
  unfold ZPost at zb
  rw [HBad.out] at zb
  have ZB := hid zb
  clear zb
  go_wp2_with fail
  refine Calls.mono ZB.out ?_
  rintro e w2 ⟨vw, rfl, hvw, k2⟩
  clear ZB
  obtain ⟨xw, nw, cw, hx⟩ := hvw.form
  subst hx
  have hb1 := HB1.out.kp k2 (by simp)
  replace HB1 := hid hb1
  have K2 := K1.trans k2
  have HVW := hid hvw
  clear hb1 k2 K1 hvw
  go_wp2_with fail
  refine (clone_any a1 len len zs _ hz CAP1.out hl (BySl.src (BySl.kp HB1.out ((Kp.refl [] _).alloc _) (by simp)))).mono ?_
  rintro e w3 ⟨a2, rfl, hb2, hf2, k3⟩
  have hq3 := k3.at (heap_push _ _) (by simp)
  have hb1 := HB1.out.kp (((Kp.refl [] _).alloc _).trans k3) (by simp)
  have K3 := K2.trans (((Kp.refl [] _).alloc _).trans k3)
  replace HB1 := hid hb1
  have HB2 := hid hb2
  have HQ := hid hq3
  clear hb1 hb2 hq3 k3 K2 hf1 hf2
  go_wp2_with fail
  refine (newReader_any a2 len len _ _).mono ?_
  rintro e w4 ⟨rfl, hw4⟩
  have hr4 : RdSt w4 w3.heap.size a2 zs o true := ⟨_, by rw [hw4, hz]; exact heap_push _ _, Or.inl ⟨rfl, rfl⟩⟩
  have k4 : Kp [] w3 w4 := by rw [hw4]; exact (Kp.refl _ _).alloc _
  have hrb : w.heap.size ≤ w3.heap.size := K3.size
  have hwr : w2.heap.size < w3.heap.size := lt_of_at HQ.out
  have hb1 := HB1.out.kp k4 (by simp)
  have hb2 := HB2.out.kp k4 (by simp)
  have hq4 := k4.at HQ.out (by simp)
  have K4 := K3.trans k4
  clear hw4 k4 K3 HB1 HB2 HQ
  generalize w3.heap.size = rb at *
  have rk := zzReadBlock_any F rb a2 zs o w4 (K4.answers hF) hr4 hb2 (by omega) (by omega) HZ.out
  rw [← HBk.out] at rk
  unfold RPost at rk
  rw [HBad.out] at rk
  have RK := hid rk
  have n1 := hb1.ne_rd hr4
  have n2 := hb2.ne_rd hr4
  have HB1 := hid hb1
  have HB2 := hid hb2
  have HQ := hid hq4
  clear hb1 hb2 hq4 hr4 rk
  go_wp2_with fail
  refine Calls.mono RK.out ?_
  rintro e w5 ⟨v1, rfl, hv1, hr5, k5⟩
  obtain ⟨x1, m1, c1, hx⟩ := hv1.form
  subst hx
  have hb1 := HB1.out.kp k5 (fun b hb => by simp [n1 b hb])
  have hb2 := HB2.out.kp k5 (fun b hb => by simp [n2 b hb])
  have hq5 := k5.at HQ.out (by simp; omega)
  have K5 : Kp [rb] w w5 := (K4.mono (by simp)).trans k5
  replace HB1 := hid hb1
  replace HB2 := hid hb2
  replace HQ := hid hq5
  have HV1 := hid hv1
  clear RK k5 K4
  obtain ⟨ev1, hr5', hev1⟩ := hr5
  rw [hz] at hr5'
  have h1 : ev1 = .nilIface := by rcases hev1 with h | h; exact h.2; cases h.1
  subst h1
  have RO1 := hid (rdOff_any rb _ _ _ w5 hr5')
  have RE1 := hid (rdErr_any rb _ _ _ w5 (Or.inl rfl) hr5')
  have rk := zzReadBlock_any F rb a2 zs B.nd w5 (K5.answers hF) ⟨_, by rw [hz]; exact hr5', Or.inl ⟨rfl, rfl⟩⟩ hb2 (by omega) (by omega) HZ.out
  rw [← HCk.out] at rk
  unfold RPost at rk
  rw [HCB.out] at rk
  have RK := hid rk
  clear hb1 hb2 hq5 hv1 rk hr5' hev1
  go_wp2_with fail
  refine Calls.mono RO1.out ?_
  rintro e wx ⟨rfl, hwx⟩
  subst wx
  go_wp2_with fail
  refine Calls.mono RE1.out ?_
  rintro e wx ⟨rfl, hwx⟩
  subst wx
  clear RO1 RE1
  go_wp2_with fail
  refine Calls.mono RK.out ?_
  rintro e w6 ⟨v2, rfl, hv2, ⟨ev2, hr6, hev2⟩, k6⟩
  obtain ⟨x2, m2, c2, hx⟩ := hv2.form
  subst hx
  have hb1 := HB1.out.kp k6 (fun b hb => by simp [n1 b hb])
  have hb2 := HB2.out.kp k6 (fun b hb => by simp [n2 b hb])
  have hq6 := k6.at HQ.out (by simp; omega)
  have K6 : Kp [rb] w w6 := K5.trans k6
  rw [hz] at hr6
  have RO2 := hid (rdOff_any rb _ _ _ w6 hr6)
  have RE2 := hid (rdErr_any rb _ _ _ w6 (by rcases hev2 with h | h; exact Or.inl h.2; exact Or.inr h.2) hr6)
  have hvw : VSh _ B.val _ := HVW.out
  have hv1 : VSh _ B.val _ := HV1.out
  rw [HBk.out] at hvw hv1
  have A1 := hid (alk_same o (by omega) hv1 hb2 hvw hb1)
  have q0 : w6.cell? ⟨w2.heap.size, 0, none⟩ = some (.int .i64 B.idx) := by rw [cell_at hq6]; rfl
  have q1 : w6.cell? ⟨w2.heap.size, 1, none⟩ = some (.int .i64 B.ct) := by rw [cell_at hq6]; rfl
  have q2 : w6.cell? ⟨w2.heap.size, 2, none⟩ = some (.bool B.raw) := by rw [cell_at hq6]; rfl
  have q3 : w6.cell? ⟨w2.heap.size, 3, none⟩ = some (.slice xw nw cw) := by rw [cell_at hq6]; rfl
  replace HB1 := hid hb1
  replace HB2 := hid hb2
  have HR6 := hid hr6
  have HV2 := hid hv2
  clear hb1 hb2 hq6 hvw hv1 hv2 HVW HV1 HQ RK k6 K5 hr6
  obtain ⟨T2, y2, h2⟩ : ∃ T x, ev2 = .iface T x := by rcases hev2 with h | h; cases h.1; exact h.2
  subst h2
  clear hev2
  go_wp2_with fail
  refine Calls.mono RO2.out ?_
  rintro e wx ⟨rfl, hwx⟩
  subst wx
  go_wp2_with fail
  refine Calls.mono RE2.out ?_
  rintro e wx ⟨rfl, hwx⟩
  subst wx
  clear RO2 RE2
  go_wp2_with fail
  refine (blkEq_any _ _ _ _ _ _ A1.out).mono ?_
  rintro e w7 ⟨rfl, k7⟩
  have K7 := K6.trans k7.nil
  have hb1 := HB1.out.kp k7 (by simp)
  have hb2 := HB2.out.kp k7 (by simp)
  have hr7 := k7.at HR6.out (by simp)
  replace HB1 := hid hb1
  replace HB2 := hid hb2
  replace HR6 := hid hr7
  clear A1 k7 K6 q0 q1 q2 q3 hb1 hb2 hr7
  go_wp2_with fail
  refine (clone_any a1 len len zs _ hz CAP1.out hl HB1.out.src).mono ?_
  rintro e w8 ⟨a3, rfl, hb3, hf3, k8⟩
  have hb1 := HB1.out.kp k8 (by simp)
  have hb2 := HB2.out.kp k8 (by simp)
  have hr8 := k8.at HR6.out (by simp)
  have K8 := K7.trans k8.nil
  replace HB1 := hid hb1
  replace HB2 := hid hb2
  have HB3 := hid hb3
  replace HR6 := hid hr8
  clear hb1 hb2 hb3 hr8 k8 K7 hf3
  go_wp2_with fail
  refine (newReader_any a3 len len _ _).mono ?_
  rintro e w9 ⟨rfl, hw9⟩
  have hr9 : RdSt w9 w8.heap.size a3 zs B.nd true := ⟨_, by rw [hw9, hz]; exact heap_push _ _, Or.inl ⟨rfl, rfl⟩⟩
  have k9 : Kp [] w8 w9 := by rw [hw9]; exact (Kp.refl _ _).alloc _
  have hrb2 : w.heap.size ≤ w8.heap.size := K8.size
  have hrr : rb < w8.heap.size := lt_of_at HR6.out
  have hb1 := HB1.out.kp k9 (by simp)
  have hb2 := HB2.out.kp k9 (by simp)
  have hb3 := HB3.out.kp k9 (by simp)
  have K9 := K8.trans k9.nil
  clear hw9 k9 K8 HB1 HB2 HB3 HR6
  generalize w8.heap.size = rb2 at *
  have rk := zzReadBlock_any F rb2 a3 zs B.nd w9 (K9.answers hF) hr9 hb3 (by omega) (by omega) HZ.out
  rw [← HCk.out] at rk
  unfold RPost at rk
  rw [HCB.out] at rk
  have RK := hid rk
  have n1 := hb1.ne_rd hr9
  have n2 := hb2.ne_rd hr9
  have n3 := hb3.ne_rd hr9
  have HB1 := hid hb1
  have HB2 := hid hb2
  have HB3 := hid hb3
  clear hb1 hb2 hb3 hr9 rk
  go_wp2_with fail
  refine Calls.mono RK.out ?_
  rintro e w10 ⟨v3, rfl, hv3, ⟨ev3, hr10, hev3⟩, k10⟩
  obtain ⟨x3, m3, c3, hx⟩ := hv3.form
  subst hx
  have hb1 := HB1.out.kp k10 (fun b hb => by simp [n1 b hb])
  have hb2 := HB2.out.kp k10 (fun b hb => by simp [n2 b hb])
  have hb3 := HB3.out.kp k10 (fun b hb => by simp [n3 b hb])
  have K10 : Kp [rb, rb2] w w10 := (K9.mono (by simp)).trans (k10.mono (by simp))
  rw [hz] at hr10
  obtain ⟨T3, y3, h3⟩ : ∃ T x, ev3 = .iface T x := by rcases hev3 with h | h; cases h.1; exact h.2
  subst h3
  clear hev3
  have zb := zzBlock_any a1 zs B.nd w10 hb1 (by omega) (by omega) HZ.out
  rw [hz, ← HCk.out] at zb
  unfold ZPost at zb
  rw [HCB.out] at zb
  have ZB := hid zb
  replace HB1 := hid hb1
  replace HB2 := hid hb2
  replace HB3 := hid hb3
  have HR10 := hid hr10
  have HV3 := hid hv3
  clear hb1 hb2 hb3 hr10 hv3 RK k10 K9 zb
  go_wp2_with fail
  refine Calls.mono ZB.out ?_
  rintro e w11 ⟨vs, rfl, hvs, k11⟩
  obtain ⟨x4, m4, c4, hx⟩ := hvs.form
  subst hx
  have hb1 := HB1.out.kp k11 (by simp)
  have hb2 := HB2.out.kp k11 (by simp)
  have hb3 := HB3.out.kp k11 (by simp)
  have hr11 := k11.at HR10.out (by simp)
  have K11 := K10.trans k11.nil
  have hv2 : VSh _ C.val _ := HV2.out
  have hv3 : VSh _ C.val _ := HV3.out
  rw [HCk.out] at hv2 hv3 hvs
  have A2 := hid (Alk.kp (alk_same B.nd (by omega) hv2 hb2 hv3 hb3) ((Kp.refl [] _).alloc (.cells #[.int .i64 C.idx, .int .i64 C.ct, .bool C.raw, .slice x4 m4 c4] 48)))
  have A3 := hid (Alk.kp (alk_same B.nd (by omega) hv2 hb2 hvs hb1) ((Kp.refl [] _).alloc (.cells #[.int .i64 C.idx, .int .i64 C.ct, .bool C.raw, .slice x4 m4 c4] 48)))
  have hr12 := heap_old w11 (.cells #[.int .i64 C.idx, .int .i64 C.ct, .bool C.raw, .slice x4 m4 c4] 48) hr11
  have HR12 := hid hr12
  clear hb1 hb2 hb3 hr11 hr12 hv2 hv3 hvs k11 K10 HB1 HB2 HB3 HR10 HV2 HV3 ZB
  go_wp2_with fail
  refine (same_any _ _ _ A2.out).mono ?_
  rintro e w12 ⟨rfl, q12, hw12⟩
  have k12 : Kp [] _ w12 := kp_drewN [] hw12
  have hr13 := k12.at HR12.out (by simp)
  have q0 : w12.cell? ⟨w11.heap.size, 0, none⟩ = some (.int .i64 C.idx) := by rw [cell_at (k12.at (heap_push _ _) (by simp))]; rfl
  have q1 : w12.cell? ⟨w11.heap.size, 1, none⟩ = some (.int .i64 C.ct) := by rw [cell_at (k12.at (heap_push _ _) (by simp))]; rfl
  have q2 : w12.cell? ⟨w11.heap.size, 2, none⟩ = some (.bool C.raw) := by rw [cell_at (k12.at (heap_push _ _) (by simp))]; rfl
  have q3 : w12.cell? ⟨w11.heap.size, 3, none⟩ = some (.slice x4 m4 c4) := by rw [cell_at (k12.at (heap_push _ _) (by simp))]; rfl
  have A4 := hid (A3.out.kp k12)
  have K12 := (K11.alloc _).trans k12.nil
  have RO3 := hid (rdOff_any rb2 _ _ _ w12 hr13)
  have RE3 := hid (rdErr_any rb2 _ _ _ w12 (by first | exact Or.inl rfl | exact Or.inr ⟨_, _, rfl⟩) hr13)
  clear hw12 k12 hr13 A2 A3 HR12
  go_wp2_with fail
  refine Calls.mono RO3.out ?_
  rintro e wx ⟨rfl, hwx⟩
  subst wx
  go_wp2_with fail
  refine Calls.mono RE3.out ?_
  rintro e wx ⟨rfl, hwx⟩
  subst wx
  clear RO3 RE3
  go_wp2_with fail
  refine (blkEq_any _ _ _ _ _ _ A4.out).mono ?_
  rintro e w13 ⟨rfl, k13⟩
  have K13 := K12.trans k13.nil
  go_wp2_with fail
  go_ret
  exact ⟨rfl, K13.below w.heap.size (Nat.le_refl _) (by simp; omega)⟩

end Go.Proofs.Qxb6613256aFmt
