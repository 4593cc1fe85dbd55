/-
  The law FnHeaderVersionHeldAcrossMessages, walked: case A
-/
import Derived.Test.Qxb6613256aFmtLwA
set_option linter.unusedVariables false
set_option linter.unusedSimpArgs false
namespace Go.Proofs.Qxb6613256aFmt
open Go.RowKit Go.Extern.Stop Go.Stop Go.Extern

set_option maxRecDepth 100000 in
set_option maxHeartbeats 2000000 in
theorem fn6_A (F : Interp) (a0 : Option Addr) (len cap : Nat) (zs : List Int) (o : Nat) (v slot c : Int) (name : ByteArray) (w : World) (hF : F.answers w.tape)
    (hz : zs.length = len) (hcap : a0 = none → cap = 0) (hsrc : Src w a0 zs) (hl : len + name.size ≤ 1048576) (ho : o ≤ len) (hn : o + 4 ≤ len) (hk : hok (zs.getD o 0) (zs.getD (o + 1) 0) v c = false) :
    Calls Tryf.prog 6 #[.slice a0 len cap, .int .i64 (o : Int), .int .u8 v, .int .i64 slot, .int .u8 c, .string name] w fun e w' => e = .returned (.bool true) ∧ Below w.heap.size w w' := by
  have s1 : hstep zs o true v c = ((zs.getD (o + 2) 0, zs.getD (o + 3) 0), o + 4, false, hver (zs.getD o 0) v) := by unfold hstep; rw [if_pos ⟨rfl, by omega⟩, hk]
  have s2 : hstep zs (o + 4) false (hver (zs.getD o 0) v) c = ((0, 0), o + 4, false, hver (zs.getD o 0) v) := by simp [hstep]
  have z0 := getD_of (zs := zs) (i := o) (by omega)
  have z1 := getD_of (zs := zs) (i := o + 1) (by omega)
  have z2 := getD_of (zs := zs) (i := o + 2) (by omega)
  have z3 := getD_of (zs := zs) (i := o + 3) (by omega)
  generalize zs.getD o 0 = h0 at *
  generalize zs.getD (o + 1) 0 = h1 at *
  generalize zs.getD (o + 2) 0 = h2 at *
  generalize zs.getD (o + 3) 0 = h3 at *
  have S1 := hid (s1)
  have S2 := hid (s2)
  clear s1 s2
  have hl2 : len ≤ 1048576 := by omega
  have hs2 : name.size ≤ 1048576 := by omega
  have ho1 : ¬ ((o : Int) < 0) := by omega
  have ho2 : ¬ ((len : Int) < (o : Int)) := by omega
  have HS := hid (hsrc)
  clear hsrc
  go_enter Tryf.func6, Tryf.ntmps6
  go_wp2_with fail
  refine (bytes24_any a0 len cap _ _ _ _ name _ (by omega) (by omega)).mono ?_
  rintro e w1 ⟨b, rfl, hb, hw⟩
  subst w1
  cases b
  · go_wp2_with fail
    go_ret
    exact ⟨rfl, Below.refl _ _⟩
  clear hb
  go_wp2_with fail
  refine (clone_any a0 len cap zs _ hz hcap hl2 HS.out).mono ?_
  rintro e w1 ⟨a1, rfl, hb1, hf1, kk1⟩
  obtain ⟨bb1, ha1⟩ : ∃ bb, a1 = some ⟨bb, 0, none⟩ := by
    rcases hb1 with ⟨_, h⟩ | ⟨bb, h, _⟩
    · subst h; simp at hz; omega
    · exact ⟨bb, h⟩
  subst ha1
  have HB1 := hid (hb1)
  clear hb1
  go_wp2_with fail
  refine (clone_any (some ⟨bb1, 0, none⟩) len len zs _ hz (fun e => by cases e) hl2 HB1.out.src).mono ?_
  rintro e w2 ⟨a2, rfl, hb2, hf2, kk2⟩
  have hb1 := HB1.out.kp kk2 (by simp)
  replace HB1 := hid (hb1)
  have HB2 := hid (hb2)
  clear hb1 hb2
  go_wp2_with fail
  refine (newReader_any a2 len len _ _).mono ?_
  rintro e w3 ⟨rfl, hw3⟩
  have hr3 : w3.heap[w2.heap.size]? = some (.cells #[.slice a2 len len, .int .i64 (o : Int), .nilIface] 66 (0, 0)) := by rw [hw3]; exact heap_push _ _
  have kk3 : Kp [] w2 w3 := by rw [hw3]; exact (Kp.refl _ _).alloc _
  clear hw3
  have hrb : w.heap.size ≤ w2.heap.size := (kk1.trans kk2).size
  have K3 : Kp [] w w3 := (kk1.trans kk2).trans kk3
  have hb1 := HB1.out.kp kk3 (by simp)
  have hb2 := HB2.out.kp kk3 (by simp)
  replace HB1 := hid (hb1)
  replace HB2 := hid (hb2)
  clear hb1 hb2 kk1 kk2 kk3 hf1 hf2
  generalize w2.heap.size = rb at *
  have HR := hid (hr3)
  clear hr3
  go_wp2_with fail
  refine (newEx_any v slot _).mono ?_
  rintro e w4 ⟨rfl, hw4⟩
  have hx4 : ExSt w4 w3.heap.size v slot := by unfold ExSt; rw [hw4]; exact heap_push _ _
  have kk4 : Kp [] w3 w4 := by rw [hw4]; exact (Kp.refl _ _).alloc _
  have hxb : w.heap.size ≤ w3.heap.size := K3.size
  have K4 := K3.trans kk4
  have hb1 := HB1.out.kp kk4 (by simp)
  have hb2 := HB2.out.kp kk4 (by simp)
  have hr4 : RdSt w4 rb a2 zs o true := ⟨_, by rw [hz]; exact kk4.at HR.out (by simp), Or.inl ⟨rfl, rfl⟩⟩
  clear hw4 HR HB1 HB2 K3 kk4
  generalize w3.heap.size = xb at *
  have hF4 := K4.answers hF
  have ZH := hid (zzheader_any F rb xb a2 zs o true v slot c name w4 hF4 hr4 hb2 hx4 (by omega) (by omega) hs2)
  have n1r := hb1.ne_rd hr4
  have n1x := hb1.ne_ex hx4
  have n2r := hb2.ne_rd hr4
  have n2x := hb2.ne_ex hx4
  have HB1 := hid (hb1)
  have HB2 := hid (hb2)
  clear hb1 hb2 hr4 hx4
  go_wp2_with fail
  refine Calls.mono ZH.out ?_
  rw [S1.out]
  rintro e w5 ⟨rfl, ⟨ev5, hr5, hev5⟩, hx5, kk5⟩
  dsimp only at hr5 hev5 hx5 ⊢
  have K5 : Kp [rb, xb] w w5 := (K4.mono (by simp)).trans kk5
  have hb1 := HB1.out.kp kk5 (fun b hb => by simp [n1r b hb, n1x b hb])
  have hb2 := HB2.out.kp kk5 (fun b hb => by simp [n2r b hb, n2x b hb])
  clear HB1 HB2 ZH S1 kk5
  rw [hz] at hr5
  obtain ⟨T5, x5, hevx⟩ : ∃ T x, ev5 = .iface T x := by rcases hev5 with h | h; cases h.1; exact h.2
  subst hevx
  have RE5 := hid (rdErr_any rb _ _ _ w5 (Or.inr ⟨T5, x5, rfl⟩) hr5)
  have RO5 := hid (rdOff_any rb _ _ _ w5 hr5)
  have XV5 := hid (exVer_any xb _ _ w5 hx5)
  have ZH := hid (zzheader_any F rb xb a2 zs (o + 4) false (hver h0 v) slot c name w5 (K5.answers hF) ⟨_, by rw [hz]; exact hr5, Or.inr ⟨rfl, T5, x5, rfl⟩⟩ hb2 hx5 (by omega) (by omega) hs2)
  have HB1 := hid (hb1)
  clear hb1 hb2 hr5 hx5
  go_wp2_with fail
  refine Calls.mono RO5.out ?_
  rintro e w6 ⟨rfl, hw6⟩
  subst w6
  go_wp2_with fail
  refine Calls.mono RE5.out ?_
  rintro e w6 ⟨rfl, hw6⟩
  subst w6
  go_wp2_with fail
  refine Calls.mono XV5.out ?_
  rintro e w6 ⟨rfl, hw6⟩
  subst w6
  clear RE5 RO5 XV5
  go_wp2_with fail
  refine Calls.mono ZH.out ?_
  rw [S2.out]
  rintro e w7 ⟨rfl, ⟨ev7, hr7, hev7⟩, hx7, kk7⟩
  dsimp only at hr7 hev7 hx7 ⊢
  have K7 : Kp [rb, xb] w w7 := K5.trans kk7
  have hb1 := HB1.out.kp kk7 (fun b hb => by simp [n1r b hb, n1x b hb])
  clear HB1 ZH S2 kk7
  rw [hz] at hr7
  obtain ⟨T7, x7, hevx⟩ : ∃ T x, ev7 = .iface T x := by rcases hev7 with h | h; cases h.1; exact h.2
  subst hevx
  have RE7 := hid (rdErr_any rb _ _ _ w7 (Or.inr ⟨T7, x7, rfl⟩) hr7)
  have RO7 := hid (rdOff_any rb _ _ _ w7 hr7)
  have XV7 := hid (exVer_any xb _ _ w7 hx7)
  have HB1 := hid (hb1)
  clear hb1 hr7 hx7
  go_wp2_with fail
  refine Calls.mono RO7.out ?_
  rintro e w6 ⟨rfl, hw6⟩
  subst w6
  go_wp2_with fail
  refine Calls.mono RE7.out ?_
  rintro e w6 ⟨rfl, hw6⟩
  subst w6
  go_wp2_with fail
  refine Calls.mono XV7.out ?_
  rintro e w6 ⟨rfl, hw6⟩
  subst w6
  clear RE7 RO7 XV7
  have KB : Below w.heap.size w w7 := K7.below _ (Nat.le_refl _) (by simp; omega)
  have hbk : w7.heap[bb1]? = some (.cells (bs zs) 5 (0, 0)) := by
    rcases HB1.out with ⟨h, _⟩ | ⟨b, h, hb⟩
    · cases h
    · cases h; exact hb
  have g0 := bs_at hbk z0
  clear z0
  have g1 := bs_at hbk z1
  clear z1
  have g2 := bs_at hbk z2
  clear z2
  have g3 := bs_at hbk z3
  clear z3
  clear hbk HB1
  have hne : ¬ len = o := by omega
  go_wp2_with fail
  go_quiet ((go_at_call 25; exact Calls.quiet_of_same (headerOK_any _ _ _ _ _)))
  go_wp2_with fail
  go_ret
  exact ⟨rfl, below_drewN KB _⟩

end Go.Proofs.Qxb6613256aFmt
