/-
  zzBlock, walked: case ZG
-/
import Derived.Test.Qxb6613256aFmtBk
set_option linter.unusedVariables false
set_option linter.unusedSimpArgs false
namespace Go.Proofs.Qxb6613256aFmt
open Go.RowKit Go.Extern.Stop Go.Stop Go.Extern

set_option maxRecDepth 100000 in
set_option maxHeartbeats 1000000 in
theorem zzBlock_ZG (bb : Nat) (zs : List Int) (off : Nat) (w : World) (z0 : Int) (z1 : Int) (z2 : Int) (z3 : Int) (z4 : Int) (z5 : Int) (z6 : Int) (hb : w.heap[bb]? = some (.cells (bs zs) 5 (0, 0))) (hl : zs.length ≤ 1048576)
    (y0 : zs[off]? = some z0) (p0 : 0 ≤ z0) (q0 : z0 < 256) (y1 : zs[off + 1]? = some z1) (p1 : 0 ≤ z1) (q1 : z1 < 256) (y2 : zs[off + 2]? = some z2) (p2 : 0 ≤ z2) (q2 : z2 < 256) (y3 : zs[off + 3]? = some z3) (p3 : 0 ≤ z3) (q3 : z3 < 256) (y4 : zs[off + 4]? = some z4) (p4 : 0 ≤ z4) (q4 : z4 < 256) (y5 : zs[off + 5]? = some z5) (p5 : 0 ≤ z5) (q5 : z5 < 256) (y6 : zs[off + 6]? = some z6) (p6 : 0 ≤ z6) (q6 : z6 < 256)
    (vs : Nat) (hvs : (vs : Int) = z5 + z6 * 256) (hm : off + 7 + vs ≤ zs.length) (hev : (bits BinOp.and IntKind.u8 z1 1 == 0) = false) :
    Calls Tryf.prog 27 #[.slice (some ⟨bb, 0, none⟩) zs.length zs.length, .int .i64 (off : Int)] w fun e w' =>
      ∃ p, e = .returned (.tuple #[.agg #[.int .i64 z0, .int .i64 (wrap64 (bits BinOp.and IntKind.u8 z4 127)), .bool (decide (128 ≤ z4)), .slice (some ⟨bb, p, none⟩) vs (zs.length - (off + 7))], .int .i64 ((off : Int) + 7 + (vs : Int)), .bool (z2 + z3 * 256 != 3 + (vs : Int))]) ∧ (0 < vs → p = off + 7) ∧ Kp [] w w' := by
  have g0 := bs_at hb y0
  have g1 := bs_at hb y1
  have g2 := bs_at hb y2
  have g3 := bs_at hb y3
  have g4 := bs_at hb y4
  have g5 := bs_at hb y5
  have g6 := bs_at hb y6
  have lb := lt_of_at hb
  have lb1 : bb < w.heap.size + 1 := by omega
  have lb2 : bb < w.heap.size + 1 + 1 := by omega
  have nb1 : ¬ bb = w.heap.size := by omega
  have nb2 : ¬ bb = w.heap.size + 1 := by omega
  clear hb y0 y1 y2 y3 y4 y5 y6
  generalize zs.length = len at *
  have nc2 : ¬ len = off + 2 := by omega
  have nc5 : ¬ len = off + 5 := by omega
  have HV := (show Hid _ from hvs)
  clear hvs
  go_enter Tryf.func27, Tryf.ntmps27
  go_wp2_with fail
  refine (zzle_two bb (off + 2) _ z2 z3 _ (by go_simp) (by go_simp) p2 q2 p3 q3).mono ?_
  rintro e w1 ⟨rfl, hw1⟩
  subst w1
  go_wp2_with fail
  refine (zzle_two bb (off + 5) _ z5 z6 _ (by go_simp) (by go_simp) p5 q5 p6 q6).mono ?_
  rintro e w1 ⟨rfl, hw1⟩
  subst w1
  rw [← HV.out]
  go_wp2_with fail
  · have hcap : len = off + 7 := by assumption
    have hv0 : vs = 0 := by omega
    exact bodyPost_ret (v := .tuple #[.agg #[.int .i64 z0, .int .i64 (wrap64 (bits BinOp.and IntKind.u8 z4 127)), .bool (decide (128 ≤ z4)), .slice (some ⟨bb, 0, none⟩) vs 0], .int .i64 ((off : Int) + 7 + (vs : Int)), .bool (z2 + z3 * 256 != 3 + (vs : Int))]) (by simp [results, Tryf.results27, go_sem]) rfl ⟨0, by simp [hcap], fun h => by omega, ((Kp.refl _ _).alloc _).alloc _⟩
  · exact bodyPost_ret (v := .tuple #[.agg #[.int .i64 z0, .int .i64 (wrap64 (bits BinOp.and IntKind.u8 z4 127)), .bool (decide (128 ≤ z4)), .slice (some ⟨bb, off + 7, none⟩) vs (len - (off + 7))], .int .i64 ((off : Int) + 7 + (vs : Int)), .bool (z2 + z3 * 256 != 3 + (vs : Int))]) (by simp [results, Tryf.results27, go_sem]) rfl ⟨off + 7, rfl, fun _ => rfl, ((Kp.refl _ _).alloc _).alloc _⟩

end Go.Proofs.Qxb6613256aFmt
