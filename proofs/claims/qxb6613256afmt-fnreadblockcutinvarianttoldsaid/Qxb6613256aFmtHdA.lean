/-
  'header', the exchange's version stands
-/
import Derived.Test.Qxb6613256aFmtHd
set_option linter.unusedVariables false
set_option linter.unusedSimpArgs false
namespace Go.Proofs.Qxb6613256aFmt
open Go.RowKit Go.Extern.Stop Go.Stop Go.Extern

set_option maxRecDepth 100000 in
set_option maxHeartbeats 1000000 in
theorem header_d_eq (F : Interp) (rb bb xb : Nat) (zs : List Int) (off : Nat) (v : Int) (s c : Int) (name : ByteArray) (w : World) (h0 : Int) (h1 h2 h3 : Int) (hF : F.answers w.tape)
    (hr : w.heap[rb]? = some (rdObj bb zs.length off .nilIface)) (hb : w.heap[bb]? = some (.cells (bs zs) 5 (0, 0))) (hx : w.heap[xb]? = some (exObj v s))
    (hl : zs.length ≤ 1048576) (hn : off + 4 ≤ zs.length) (z0 : zs[off]? = some h0) (z1 : zs[off + 1]? = some h1) (z2 : zs[off + 2]? = some h2) (z3 : zs[off + 3]? = some h3)
    (hnm : name.size ≤ 1048576) (hv : (v == 0) = false) (hhv : (h0 != v) = false) (hc : (h1 != c) = false) :
    Calls Tryf.prog 39 #[.pointer (some ⟨rb, 0, none⟩), .pointer (some ⟨xb, 0, none⟩), .int .u8 c, .string name] w fun e w' =>
      e = .returned (.tuple #[.int .u8 h2, .int .u8 h3]) ∧ w'.heap[rb]? = some (rdObj bb zs.length (off + 4) .nilIface) ∧ w'.heap[xb]? = some (exObj v s) ∧ Kp [rb, xb] w w' := by
  have hnx := next_ok rb bb zs.length off 4
  simp only [Int.cast_ofNat_Int] at hnx
  have NX := (show Hid _ from hnx)
  clear hnx
  have heq := fun wx a n c n' c' => Lib.run_eql_slice_nil (P := Tryf.prog) wx 26 5 a n c n' c' Tryf.underlying26
  have nbr : bb ≠ rb := by rintro rfl; rw [hb] at hr; simp [rdObj] at hr
  have nxr : xb ≠ rb := by rintro rfl; rw [hx] at hr; simp [rdObj, exObj] at hr
  have nbx : bb ≠ xb := by rintro rfl; rw [hb] at hx; simp [exObj] at hx
  have HR := (show Hid _ from hr)
  have HB := (show Hid _ from hb)
  have HX := (show Hid _ from hx)
  clear hr hb hx
  go_enter Tryf.func39, Tryf.ntmps39
  go_wp2_with fail
  refine (NX.out _ _ HR.out hl hn).mono ?_
  rintro e w1 ⟨p, rfl, hp, hr1, hk1⟩
  have hp' := hp (by omega)
  clear hp
  subst hp'
  have hb1 := hk1.at HB.out (by simp [nbr])
  have hx1 := hk1.at HX.out (by simp [nxr])
  have hk1 : Kp [rb, xb] w w1 := hk1.mono (by simp)
  have g0 := bs_at hb1 z0
  have g1 := bs_at hb1 z1
  have g2 := bs_at hb1 z2
  have g3 := bs_at hb1 z3
  have gx : w1.cell? ⟨xb, 0, none⟩ = some (.int .u8 v) := by rw [cell_at hx1]; rfl
  have gf : w1.frozen? ⟨xb, 0, none⟩ = false := frozen_at hx1 0
  have lb1 := lt_of_at hb1
  have lx1 := lt_of_at hx1
  have HR1 := (show Hid _ from hr1)
  have HB1 := (show Hid _ from hb1)
  have HX1 := (show Hid _ from hx1)
  clear hr1 hb1 hx1
  go_wp2_with fail
  go_quiet (fail)
  go_wp2_with fail
  go_quiet (fail)
  go_wp2_with fail
  go_ret2
  exact ⟨rfl, HR1.out, HX1.out, (hk1.drewN _).drewN _⟩

set_option maxRecDepth 100000 in
set_option maxHeartbeats 1000000 in
theorem header_d_ne (F : Interp) (rb bb xb : Nat) (zs : List Int) (off : Nat) (v : Int) (s c : Int) (name : ByteArray) (w : World) (h0 : Int) (h1 h2 h3 : Int) (hF : F.answers w.tape)
    (hr : w.heap[rb]? = some (rdObj bb zs.length off .nilIface)) (hb : w.heap[bb]? = some (.cells (bs zs) 5 (0, 0))) (hx : w.heap[xb]? = some (exObj v s))
    (hl : zs.length ≤ 1048576) (hn : off + 4 ≤ zs.length) (z0 : zs[off]? = some h0) (z1 : zs[off + 1]? = some h1) (z2 : zs[off + 2]? = some h2) (z3 : zs[off + 3]? = some h3)
    (hnm : name.size ≤ 1048576) (hv : (v == 0) = false) (hhv : (h0 != v) = false) (hc : (h1 != c) = true) :
    Calls Tryf.prog 39 #[.pointer (some ⟨rb, 0, none⟩), .pointer (some ⟨xb, 0, none⟩), .int .u8 c, .string name] w fun e w' =>
      e = .returned (.tuple #[.int .u8 h2, .int .u8 h3]) ∧ (∃ T x, w'.heap[rb]? = some (rdObj bb zs.length (off + 4) (.iface T x))) ∧ w'.heap[xb]? = some (exObj v s) ∧ Kp [rb, xb] w w' := by
  have hnx := next_ok rb bb zs.length off 4
  simp only [Int.cast_ofNat_Int] at hnx
  have NX := (show Hid _ from hnx)
  clear hnx
  have heq := fun wx a n c n' c' => Lib.run_eql_slice_nil (P := Tryf.prog) wx 26 5 a n c n' c' Tryf.underlying26
  have nbr : bb ≠ rb := by rintro rfl; rw [hb] at hr; simp [rdObj] at hr
  have nxr : xb ≠ rb := by rintro rfl; rw [hx] at hr; simp [rdObj, exObj] at hr
  have nbx : bb ≠ xb := by rintro rfl; rw [hb] at hx; simp [exObj] at hx
  have HR := (show Hid _ from hr)
  have HB := (show Hid _ from hb)
  have HX := (show Hid _ from hx)
  clear hr hb hx
  go_enter Tryf.func39, Tryf.ntmps39
  go_wp2_with fail
  refine (NX.out _ _ HR.out hl hn).mono ?_
  rintro e w1 ⟨p, rfl, hp, hr1, hk1⟩
  have hp' := hp (by omega)
  clear hp
  subst hp'
  have hb1 := hk1.at HB.out (by simp [nbr])
  have hx1 := hk1.at HX.out (by simp [nxr])
  have hk1 : Kp [rb, xb] w w1 := hk1.mono (by simp)
  have g0 := bs_at hb1 z0
  have g1 := bs_at hb1 z1
  have g2 := bs_at hb1 z2
  have g3 := bs_at hb1 z3
  have gx : w1.cell? ⟨xb, 0, none⟩ = some (.int .u8 v) := by rw [cell_at hx1]; rfl
  have gf : w1.frozen? ⟨xb, 0, none⟩ = false := frozen_at hx1 0
  have lb1 := lt_of_at hb1
  have lx1 := lt_of_at hx1
  have HR1 := (show Hid _ from hr1)
  have HB1 := (show Hid _ from hb1)
  have HX1 := (show Hid _ from hx1)
  clear hr1 hb1 hx1
  go_wp2_with fail
  go_quiet (fail)
  go_wp2_with fail
  refine (fail_new F rb (.slice (some ⟨bb, 0, none⟩) zs.length zs.length) ((p + 4 : Nat) : Int) _ _ _ _ ?_ ?_ ?_).mono ?_
  · exact hk1.answers hF
  · exact heap_old _ _ HR1.out
  · exact sprintf_code F _ _ h1 c name _ (hk1.answers hF) pCode (heap_push _ _)
  rintro e w2 ⟨rfl, T, x, hr2, hk2⟩
  have hkk : Kp [rb, xb] w w2 := ((hk1.drewN _).alloc _).trans (hk2.mono (by simp))
  have hb2 := hk2.at (heap_old _ _ HB1.out) (by simp [nbr])
  have hx2 := hk2.at (heap_old _ _ (HX1.out)) (by simp [nxr])
  have g2' := bs_at hb2 z2
  have g3' := bs_at hb2 z3
  have HR2 := (show Hid _ from hr2)
  have HX2 := (show Hid _ from hx2)
  clear hr2 hb2 hx2
  go_wp2_with fail
  go_quiet (fail)
  go_wp2_with fail
  go_ret2
  exact ⟨rfl, ⟨T, x, HR2.out⟩, HX2.out, hkk.drewN _⟩

end Go.Proofs.Qxb6613256aFmt
