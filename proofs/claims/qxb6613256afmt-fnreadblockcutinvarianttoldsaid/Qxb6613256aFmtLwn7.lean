/-
  The law FnReadBlockCutInvariant, walked: no bytes: nil
-/
import Derived.Test.Qxb6613256aFmtLwR
set_option linter.unusedVariables false
set_option linter.unusedSimpArgs false
namespace Go.Proofs.Qxb6613256aFmt
open Go.RowKit Go.Extern.Stop Go.Stop Go.Extern

set_option maxRecDepth 100000 in
set_option maxHeartbeats 2000000 in
theorem fn7_n (F : Interp) (w : World) (hF : F.answers w.tape) :
    Calls Tryf.prog 7 #[.slice none 0 0, .int .i64 0] w fun e w' => e = .returned (.bool true) ∧ Below w.heap.size w w' := by
  have hz : ([] : List Int).length = 0 := rfl
  have hzs : ∀ z ∈ ([] : List Int), 0 ≤ z ∧ z < 256 := by simp
  have HZ := hid hzs
  clear hzs
  obtain ⟨B, hB⟩ : ∃ B, B = blkOf ([] : List Int) 0 := ⟨_, rfl⟩
  obtain ⟨C, hC⟩ : ∃ C, C = blkOf (([] : List Int).drop 0) 0 := ⟨_, rfl⟩
  obtain ⟨d1, d2, d3, d4, d5, d6⟩ := blk_drop ([] : List Int) 0 (by omega)
  rw [← hB, ← hC] at d1 d2 d3 d4 d5 d6
  have hnd := blkOf_nd ([] : List Int) 0 (by omega)
  rw [← hB] at hnd
  have HBk := hid hB
  have HCk := hid hC
  have D1 := hid d1
  have D2 := hid d2
  have D3 := hid d3
  have D4 := hid d4
  have D5 := hid d5
  clear hB hC d1 d2 d3 d4 d5 d6
  go_enter Tryf.func7, Tryf.ntmps7
  go_wp2_with fail
  refine (bytes26_any none 0 0 _ _ (by omega)).mono ?_
  rintro e w1 ⟨b, rfl, hb, hw⟩
  subst w1
  cases b
  · go_wp2_with fail
    go_ret
    exact ⟨rfl, Below.refl _ _⟩
  clear hb
  go_wp2_with fail
  refine (clone_nil _).mono ?_
  rintro e w1 ⟨rfl, hw1⟩
  have K1 : Kp [] w w1 := by rw [hw1]; exact Kp.refl _ _
  have hb1 : BySl w1 none [] := Or.inl ⟨rfl, rfl⟩
  clear hw1
  have HB1 := hid hb1
  clear hb1
  have zb := zzBlock_any none ([] : List Int) 0 w1 HB1.out (by omega) (by omega) HZ.out
  rw [hz, ← HBk.out] at zb
  have ZB := hid zb
  clear zb
  go_wp2_with fail
  refine Calls.mono ZB.out ?_
  rintro e w2 ⟨vw, rfl, hvw, k2⟩
  clear ZB
  obtain ⟨xw, nw, cw, hx⟩ := hvw.form
  subst hx
  have hb1 := HB1.out.kp k2 (by simp)
  replace HB1 := hid hb1
  have K2 := K1.trans k2
  have HVW := hid hvw
  clear hb1 k2 K1 hvw
  go_wp2_with fail
  obtain ⟨wb, hwb⟩ : ∃ wb, wb = w2.heap.size := ⟨_, rfl⟩
  refine (clone_any none 0 0 ([] : List Int) _ hz (fun e => rfl) (by omega) (BySl.src (BySl.kp HB1.out ((Kp.refl [] _).alloc _) (by simp)))).mono ?_
  rintro e w3 ⟨a2, rfl, hb2, hf2, k3⟩
  have hq3 := k3.at (heap_push _ _) (by simp)
  have hb1 := HB1.out.kp (((Kp.refl [] _).alloc _).trans k3) (by simp)
  have K3 := K2.trans (((Kp.refl [] _).alloc _).trans k3)
  replace HB1 := hid hb1
  have HB2 := hid hb2
  have HQ := hid hq3
  clear hb1 hb2 hq3 k3 K2 hf2
  go_wp2_with fail
  refine (newReader_any a2 0 0 _ _).mono ?_
  rintro e w4 ⟨rfl, hw4⟩
  have hr4 : RdSt w4 w3.heap.size a2 ([] : List Int) 0 true := ⟨_, by rw [hw4, hz]; exact heap_push _ _, Or.inl ⟨rfl, rfl⟩⟩
  have k4 : Kp [] w3 w4 := by rw [hw4]; exact (Kp.refl _ _).alloc _
  have hrb : w.heap.size ≤ w3.heap.size := K3.size
  have hwr : w2.heap.size < w3.heap.size := lt_of_at HQ.out
  have hb1 := HB1.out.kp k4 (by simp)
  have hb2 := HB2.out.kp k4 (by simp)
  have hq4 := k4.at HQ.out (by simp)
  have K4 := K3.trans k4
  clear hw4 k4 K3 HB1 HB2 HQ
  generalize w3.heap.size = rb at *
  have rk := zzReadBlock_any F rb a2 ([] : List Int) 0 w4 (K4.answers hF) hr4 hb2 (by omega) (by omega) HZ.out
  rw [← HBk.out] at rk
  have RK := hid rk
  have n1 := hb1.ne_rd hr4
  have n2 := hb2.ne_rd hr4
  have HB1 := hid hb1
  have HB2 := hid hb2
  have HQ := hid hq4
  clear hb1 hb2 hq4 hr4 rk
  go_wp2_with fail
  refine Calls.mono RK.out ?_
  rintro e w5 ⟨v1, rfl, hv1, hr5, k5⟩
  obtain ⟨x1, m1, c1, hx⟩ := hv1.form
  subst hx
  have hb1 := HB1.out.kp k5 (fun b hb => by simp [n1 b hb])
  have hb2 := HB2.out.kp k5 (fun b hb => by simp [n2 b hb])
  have hq5 := k5.at HQ.out (by simp; omega)
  have K5 : Kp [rb] w w5 := (K4.mono (by simp)).trans k5
  replace HB1 := hid hb1
  replace HB2 := hid hb2
  replace HQ := hid hq5
  have HR1 := hid hr5
  have HV1 := hid hv1
  clear hb1 hb2 hq5 hr5 hv1 RK k5 K4
  go_wp2_with fail
  refine (clone_any none 0 0 (([] : List Int).drop 0) _ (by simp [hz]) (fun e => rfl) (by omega) (Or.inl ⟨rfl, rfl⟩)).mono ?_
  rintro e w6 ⟨a3, rfl, hb3, hf3, k6⟩
  have hb1 := HB1.out.kp k6 (by simp)
  have hb2 := HB2.out.kp k6 (by simp)
  have hq6 := k6.at HQ.out (by simp)
  obtain ⟨ev1, hr6, hev1⟩ := HR1.out
  have hr6 := k6.at hr6 (by simp)
  have K6 : Kp [rb] w w6 := K5.trans k6.nil
  replace HB1 := hid hb1
  replace HB2 := hid hb2
  replace HQ := hid hq6
  replace HR1 := hid hr6
  have HB3 := hid hb3
  clear hb1 hb2 hb3 hq6 hr6 k6 K5 hf3
  go_wp2_with fail
  refine (newReader_any a3 _ _ _ _).mono ?_
  rintro e w7 ⟨rfl, hw7⟩
  have hr7 : RdSt w7 w6.heap.size a3 (([] : List Int).drop 0) 0 true := ⟨_, by rw [hw7]; exact heap_push _ _, Or.inl ⟨rfl, rfl⟩⟩
  have k7 : Kp [] w6 w7 := by rw [hw7]; exact (Kp.refl _ _).alloc _
  have hrb2 : w.heap.size ≤ w6.heap.size := K6.size
  have hwr2 : w2.heap.size < w6.heap.size := lt_of_at HQ.out
  have hrr : rb < w6.heap.size := lt_of_at HR1.out
  have hb1 := HB1.out.kp k7 (by simp)
  have hb2 := HB2.out.kp k7 (by simp)
  have hb3 := HB3.out.kp k7 (by simp)
  have hq7 := k7.at HQ.out (by simp)
  have hp7 := k7.at HR1.out (by simp)
  have K7 := K6.trans k7.nil
  clear hw7 k7 K6 HB1 HB2 HB3 HQ HR1
  generalize w6.heap.size = rb2 at *
  have rk := zzReadBlock_any F rb2 a3 (([] : List Int).drop 0) 0 w7 (K7.answers hF) hr7 hb3 (by simp) (by omega) (fun z hz => HZ.out z (List.mem_of_mem_drop hz))
  rw [← HCk.out] at rk
  have RK := hid rk
  have n1 := hb1.ne_rd hr7
  have n2 := hb2.ne_rd hr7
  have n3 := hb3.ne_rd hr7
  have HB1 := hid hb1
  have HB2 := hid hb2
  have HB3 := hid hb3
  have HQ := hid hq7
  have HR1 := hid hp7
  clear hb1 hb2 hb3 hq7 hp7 hr7 rk
  go_wp2_with fail
  refine Calls.mono RK.out ?_
  rintro e w8 ⟨v2, rfl, hv2, ⟨ev2, hr8, hev2⟩, k8⟩
  obtain ⟨x2, m2, c2, hx⟩ := hv2.form
  subst hx
  have hb1 := HB1.out.kp k8 (fun b hb => by simp [n1 b hb])
  have hb2 := HB2.out.kp k8 (fun b hb => by simp [n2 b hb])
  have hb3 := HB3.out.kp k8 (fun b hb => by simp [n3 b hb])
  have hq8 := k8.at HQ.out (by simp; omega)
  have hp8 := k8.at HR1.out (by simp; omega)
  have K8 : Kp [rb, rb2] w w8 := (K7.mono (by simp)).trans (k8.mono (by simp))
  have hvw : VSh _ B.val _ := HVW.out
  have hv1 : VSh _ B.val _ := HV1.out
  rw [HBk.out] at hvw hv1
  rw [HCk.out] at hv2
  have A1 := hid (alk_same 0 (by omega) hv1 hb2 hvw hb1)
  have A2 := hid (alk_drop 0 (by omega) (by omega) hv2 hb3 hvw hb1)
  have q0 : w8.cell? ⟨w2.heap.size, 0, none⟩ = some (.int .i64 B.idx) := by rw [cell_at hq8]; rfl
  have q1 : w8.cell? ⟨w2.heap.size, 1, none⟩ = some (.int .i64 B.ct) := by rw [cell_at hq8]; rfl
  have q2 : w8.cell? ⟨w2.heap.size, 2, none⟩ = some (.bool B.raw) := by rw [cell_at hq8]; rfl
  have q3 : w8.cell? ⟨w2.heap.size, 3, none⟩ = some (.slice xw nw cw) := by rw [cell_at hq8]; rfl
  have HQ8 := hid hq8
  have HP8 := hid hp8
  have HR8 := hid hr8
  have KB := K8.below w.heap.size (Nat.le_refl _) (by simp; omega)
  clear hb1 hb2 hb3 hq8 hp8 hr8 hvw hv1 hv2 HVW HV1 HB1 HB2 HB3 HQ HR1 RK k8 K7 K8
  rw [D1.out, D2.out, D3.out]
  have hd4 := D4.out
  have hd5 := D5.out
  have hC1 : ((C.nd : Int) == (B.nd : Int)) = true := by simp; omega
  obtain ⟨bd, hbd⟩ : ∃ bd, bd = B.bad := ⟨_, rfl⟩
  rw [hd4] at hev2
  rw [← hbd] at hev1 hev2 ⊢
  clear hd4 hbd hd5
  go_wp2_with fail
  refine (blkEq_any _ _ _ _ _ _ A1.out).mono ?_
  rintro e w9 ⟨rfl, k9⟩
  have hp9 := k9.at HP8.out (by simp)
  have hr9 := k9.at HR8.out (by simp)
  have hq9 := k9.at HQ8.out (by simp)
  have A3 := hid (A2.out.kp k9)
  have KB9 : Below w.heap.size w w9 := KB.trans (k9.below _ (by have := KB.size; omega) (by simp))
  have r0 : w9.cell? ⟨w2.heap.size, 0, none⟩ = some (.int .i64 B.idx) := by rw [cell_at hq9]; rfl
  have r1 : w9.cell? ⟨w2.heap.size, 1, none⟩ = some (.int .i64 B.ct) := by rw [cell_at hq9]; rfl
  have r2 : w9.cell? ⟨w2.heap.size, 2, none⟩ = some (.bool B.raw) := by rw [cell_at hq9]; rfl
  have r3 : w9.cell? ⟨w2.heap.size, 3, none⟩ = some (.slice xw nw cw) := by rw [cell_at hq9]; rfl
  have RO1 := hid (rdOff_any rb _ _ _ w9 hp9)
  have RE1 := hid (rdErr_any rb _ _ _ w9 (by rcases hev1 with h | h; exact Or.inl h.2; exact Or.inr h.2) hp9)
  have HR9 := hid hr9
  clear hp9 hr9 hq9 k9 A1 A2 HP8 HR8 HQ8 KB q0 q1 q2 q3
  go_wp2_with fail
  refine Calls.mono RO1.out ?_
  rintro e wx ⟨rfl, hwx⟩
  subst wx
  clear RO1
  go_wp2_with fail
  refine Calls.mono RE1.out ?_
  rintro e wx ⟨rfl, hwx⟩
  subst wx
  clear RE1
  cases bd
  · have h1 : ev1 = .nilIface := by rcases hev1 with h | h; exact h.2; cases h.1
    have h2 : ev2 = .nilIface := by rcases hev2 with h | h; exact h.2; cases h.1
    subst h1 h2
    clear hev1 hev2
    go_wp2_with fail
    refine (blkEq_any _ _ _ _ _ _ A3.out).mono ?_
    rintro e w10 ⟨rfl, k10⟩
    have hr10 := k10.at HR9.out (by simp)
    have KB10 : Below w.heap.size w w10 := KB9.trans (k10.below _ (by have := KB9.size; omega) (by simp))
    have RO2 := hid (rdOff_any rb2 _ _ _ w10 hr10)
    clear A3 HR9 k10
    go_wp2_with fail
    refine Calls.mono RO2.out ?_
    rintro e wx ⟨rfl, hwx⟩
    subst wx
    have RE2 := hid (rdErr_any rb2 _ _ _ w10 (by first | exact Or.inl rfl | exact Or.inr ⟨_, _, rfl⟩) hr10)
    clear RO2 hr10
    go_wp2_with fail
    refine Calls.mono RE2.out ?_
    rintro e wx ⟨rfl, hwx⟩
    subst wx
    clear RE2
    go_wp2_with fail
    go_ret
    exact ⟨rfl, KB10⟩
  · obtain ⟨T1, y1, h1⟩ : ∃ T x, ev1 = .iface T x := by rcases hev1 with h | h; cases h.1; exact h.2
    obtain ⟨T2, y2, h2⟩ : ∃ T x, ev2 = .iface T x := by rcases hev2 with h | h; cases h.1; exact h.2
    subst h1 h2
    clear hev1 hev2
    go_wp2_with fail
    refine (blkEq_any _ _ _ _ _ _ A3.out).mono ?_
    rintro e w10 ⟨rfl, k10⟩
    have hr10 := k10.at HR9.out (by simp)
    have KB10 : Below w.heap.size w w10 := KB9.trans (k10.below _ (by have := KB9.size; omega) (by simp))
    have RO2 := hid (rdOff_any rb2 _ _ _ w10 hr10)
    clear A3 HR9 k10
    go_wp2_with fail
    refine Calls.mono RO2.out ?_
    rintro e wx ⟨rfl, hwx⟩
    subst wx
    have RE2 := hid (rdErr_any rb2 _ _ _ w10 (by first | exact Or.inl rfl | exact Or.inr ⟨_, _, rfl⟩) hr10)
    clear RO2 hr10
    go_wp2_with fail
    refine Calls.mono RE2.out ?_
    rintro e wx ⟨rfl, hwx⟩
    subst wx
    clear RE2
    go_wp2_with fail
    go_ret
    exact ⟨rfl, KB10⟩

end Go.Proofs.Qxb6613256aFmt
