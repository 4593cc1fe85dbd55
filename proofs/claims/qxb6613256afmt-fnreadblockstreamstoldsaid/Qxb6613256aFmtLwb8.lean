/-
  The law FnReadBlockStreams, walked: the first block is at fault
-/
import Derived.Test.Qxb6613256aFmtLwR
set_option linter.unusedVariables false
set_option linter.unusedSimpArgs false
namespace Go.Proofs.Qxb6613256aFmt
open Go.RowKit Go.Extern.Stop Go.Stop Go.Extern

set_option maxRecDepth 100000 in
set_option maxHeartbeats 2000000 in
theorem fn8_b (F : Interp) (a0 : Option Addr) (len cap : Nat) (zs : List Int) (o : Nat) (w : World) (hF : F.answers w.tape)
    (hz : zs.length = len) (hcap : a0 = none → cap = 0) (hsrc : Src w a0 zs) (hl : len ≤ 1048576) (ho : o ≤ len) (hzs : ∀ z ∈ zs, 0 ≤ z ∧ z < 256) (hbad : (blkOf zs o).bad = true) :
    Calls Tryf.prog 8 #[.slice a0 len cap, .int .i64 (o : Int)] w fun e w' => e = .returned (.bool true) ∧ Below w.heap.size w w' := by
  have ho1 : ¬ ((o : Int) < 0) := by omega
  have ho2 : ¬ ((len : Int) < (o : Int)) := by omega
  have HS := hid hsrc
  have HZ := hid hzs
  clear hsrc hzs
  have hnd := blkOf_nd zs o (by omega)
  obtain ⟨B, hB⟩ : ∃ B, B = blkOf zs o := ⟨_, rfl⟩
  rw [← hB] at hnd hbad
  have HBk := hid hB
  have HBad := hid hbad
  clear hB hbad
  go_enter Tryf.func8, Tryf.ntmps8
  go_wp2_with fail
  refine (bytes30_any a0 len cap _ _ (by omega)).mono ?_
  rintro e w1 ⟨b, rfl, hb, hw⟩
  subst w1
  cases b
  · go_wp2_with fail
    go_ret
    exact ⟨rfl, Below.refl _ _⟩
  clear hb
  go_wp2_with fail
  refine (clone_any a0 len cap zs _ hz hcap hl HS.out).mono ?_
  rintro e w1 ⟨a1, rfl, hb1, hf1, K1⟩
  have cap1 : a1 = none → len = 0 := fun e => by
    subst e
    rcases hb1 with ⟨_, h⟩ | ⟨b, h, _⟩
    · subst h; simpa using hz.symm
    · cases h
  have CAP1 := hid cap1
  have HB1 := hid hb1
  clear hb1 cap1
  have zb := zzBlock_any a1 zs o w1 HB1.out (by omega) (by omega) HZ.out
  rw [hz, ← HBk.out] at zb
  unfold ZPost at zb
  rw [HBad.out] at zb
  have ZB := hid zb
  clear zb
  go_wp2_with fail
  refine Calls.mono ZB.out ?_
  rintro e w2 ⟨vw, rfl, hvw, k2⟩
  clear ZB
  obtain ⟨xw, nw, cw, hx⟩ := hvw.form
  subst hx
  have hb1 := HB1.out.kp k2 (by simp)
  replace HB1 := hid hb1
  have K2 := K1.trans k2
  have HVW := hid hvw
  clear hb1 k2 K1 hvw
  go_wp2_with fail
  refine (clone_any a1 len len zs _ hz CAP1.out hl (BySl.src (BySl.kp HB1.out ((Kp.refl [] _).alloc _) (by simp)))).mono ?_
  rintro e w3 ⟨a2, rfl, hb2, hf2, k3⟩
  have hq3 := k3.at (heap_push _ _) (by simp)
  have hb1 := HB1.out.kp (((Kp.refl [] _).alloc _).trans k3) (by simp)
  have K3 := K2.trans (((Kp.refl [] _).alloc _).trans k3)
  replace HB1 := hid hb1
  have HB2 := hid hb2
  have HQ := hid hq3
  clear hb1 hb2 hq3 k3 K2 hf1 hf2
  go_wp2_with fail
  refine (newReader_any a2 len len _ _).mono ?_
  rintro e w4 ⟨rfl, hw4⟩
  have hr4 : RdSt w4 w3.heap.size a2 zs o true := ⟨_, by rw [hw4, hz]; exact heap_push _ _, Or.inl ⟨rfl, rfl⟩⟩
  have k4 : Kp [] w3 w4 := by rw [hw4]; exact (Kp.refl _ _).alloc _
  have hrb : w.heap.size ≤ w3.heap.size := K3.size
  have hwr : w2.heap.size < w3.heap.size := lt_of_at HQ.out
  have hb1 := HB1.out.kp k4 (by simp)
  have hb2 := HB2.out.kp k4 (by simp)
  have hq4 := k4.at HQ.out (by simp)
  have K4 := K3.trans k4
  clear hw4 k4 K3 HB1 HB2 HQ
  generalize w3.heap.size = rb at *
  have rk := zzReadBlock_any F rb a2 zs o w4 (K4.answers hF) hr4 hb2 (by omega) (by omega) HZ.out
  rw [← HBk.out] at rk
  unfold RPost at rk
  rw [HBad.out] at rk
  have RK := hid rk
  have n1 := hb1.ne_rd hr4
  have n2 := hb2.ne_rd hr4
  have HB1 := hid hb1
  have HB2 := hid hb2
  have HQ := hid hq4
  clear hb1 hb2 hq4 hr4 rk
  go_wp2_with fail
  refine Calls.mono RK.out ?_
  rintro e w5 ⟨v1, rfl, hv1, hr5, k5⟩
  obtain ⟨x1, m1, c1, hx⟩ := hv1.form
  subst hx
  have hb1 := HB1.out.kp k5 (fun b hb => by simp [n1 b hb])
  have hb2 := HB2.out.kp k5 (fun b hb => by simp [n2 b hb])
  have hq5 := k5.at HQ.out (by simp; omega)
  have K5 : Kp [rb] w w5 := (K4.mono (by simp)).trans k5
  replace HB1 := hid hb1
  replace HB2 := hid hb2
  replace HQ := hid hq5
  have HV1 := hid hv1
  clear RK k5 K4
  obtain ⟨ev1, hr5', hev1⟩ := hr5
  rw [hz] at hr5'
  obtain ⟨T1, y1, h1⟩ : ∃ T x, ev1 = .iface T x := by rcases hev1 with h | h; cases h.1; exact h.2
  subst h1
  have RO1 := hid (rdOff_any rb _ _ _ w5 hr5')
  have RE1 := hid (rdErr_any rb _ _ _ w5 (Or.inr ⟨T1, y1, rfl⟩) hr5')
  have rk := zzReadBlock_dead rb a2 zs B.nd w5 ⟨_, by rw [hz]; exact hr5', Or.inr ⟨rfl, T1, y1, rfl⟩⟩
  have RK := hid rk
  clear hb1 hb2 hq5 hv1 rk hr5' hev1
  go_wp2_with fail
  refine Calls.mono RO1.out ?_
  rintro e wx ⟨rfl, hwx⟩
  subst wx
  go_wp2_with fail
  refine Calls.mono RE1.out ?_
  rintro e wx ⟨rfl, hwx⟩
  subst wx
  clear RO1 RE1
  go_wp2_with fail
  refine Calls.mono RK.out ?_
  rintro e w6 ⟨v2, rfl, hv2, ⟨ev2, hr6, hev2⟩, k6⟩
  obtain ⟨x2, m2, c2, hx⟩ := hv2.form
  subst hx
  have hb1 := HB1.out.kp k6 (fun b hb => by simp [n1 b hb])
  have hb2 := HB2.out.kp k6 (fun b hb => by simp [n2 b hb])
  have hq6 := k6.at HQ.out (by simp; omega)
  have K6 : Kp [rb] w w6 := K5.trans k6
  rw [hz] at hr6
  have RO2 := hid (rdOff_any rb _ _ _ w6 hr6)
  have RE2 := hid (rdErr_any rb _ _ _ w6 (by rcases hev2 with h | h; exact Or.inl h.2; exact Or.inr h.2) hr6)
  have hvw : VSh _ B.val _ := HVW.out
  have hv1 : VSh _ B.val _ := HV1.out
  rw [HBk.out] at hvw hv1
  have A1 := hid (alk_same o (by omega) hv1 hb2 hvw hb1)
  have q0 : w6.cell? ⟨w2.heap.size, 0, none⟩ = some (.int .i64 B.idx) := by rw [cell_at hq6]; rfl
  have q1 : w6.cell? ⟨w2.heap.size, 1, none⟩ = some (.int .i64 B.ct) := by rw [cell_at hq6]; rfl
  have q2 : w6.cell? ⟨w2.heap.size, 2, none⟩ = some (.bool B.raw) := by rw [cell_at hq6]; rfl
  have q3 : w6.cell? ⟨w2.heap.size, 3, none⟩ = some (.slice xw nw cw) := by rw [cell_at hq6]; rfl
  replace HB1 := hid hb1
  replace HB2 := hid hb2
  have HR6 := hid hr6
  have HV2 := hid hv2
  clear hb1 hb2 hq6 hvw hv1 hv2 HVW HV1 HQ RK k6 K5 hr6
  obtain ⟨T2, y2, h2⟩ : ∃ T x, ev2 = .iface T x := by rcases hev2 with h | h; cases h.1; exact h.2
  subst h2
  clear hev2
  have hnil : Value.slice x2 m2 c2 = .slice none 0 0 := HV2.out
  injection hnil with e1 e2 e3
  subst e1 e2 e3
  go_wp2_with fail
  refine Calls.mono RO2.out ?_
  rintro e wx ⟨rfl, hwx⟩
  subst wx
  go_wp2_with fail
  refine Calls.mono RE2.out ?_
  rintro e wx ⟨rfl, hwx⟩
  subst wx
  clear RO2 RE2
  go_wp2_with fail
  refine (blkEq_any _ _ _ _ _ _ A1.out).mono ?_
  rintro e w7 ⟨rfl, k7⟩
  have K7 := K6.trans k7.nil
  clear A1 k7 K6 q0 q1 q2 q3
  go_wp2_with fail
  refine (blkEq_any _ _ _ _ _ _ (Or.inl ⟨rfl, rfl⟩)).mono ?_
  rintro e w8 ⟨rfl, k8⟩
  have K8 := K7.trans k8.nil
  go_wp2_with fail
  go_ret
  exact ⟨rfl, K8.below w.heap.size (Nat.le_refl _) (by simp; omega)⟩

end Go.Proofs.Qxb6613256aFmt
