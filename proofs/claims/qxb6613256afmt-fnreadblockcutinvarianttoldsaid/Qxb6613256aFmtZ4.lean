/-
  zzBlock, walked: case Z4
-/
import Derived.Test.Qxb6613256aFmtBk
set_option linter.unusedVariables false
set_option linter.unusedSimpArgs false
namespace Go.Proofs.Qxb6613256aFmt
open Go.RowKit Go.Extern.Stop Go.Stop Go.Extern

set_option maxRecDepth 100000 in
set_option maxHeartbeats 1000000 in
theorem zzBlock_Z4 (bb : Nat) (zs : List Int) (off : Nat) (w : World) (z0 : Int) (z1 : Int) (z2 : Int) (z3 : Int) (z4 : Int) (hb : w.heap[bb]? = some (.cells (bs zs) 5 (0, 0))) (hl : zs.length ≤ 1048576)
    (y0 : zs[off]? = some z0) (p0 : 0 ≤ z0) (q0 : z0 < 256) (y1 : zs[off + 1]? = some z1) (p1 : 0 ≤ z1) (q1 : z1 < 256) (y2 : zs[off + 2]? = some z2) (p2 : 0 ≤ z2) (q2 : z2 < 256) (y3 : zs[off + 3]? = some z3) (p3 : 0 ≤ z3) (q3 : z3 < 256) (y4 : zs[off + 4]? = some z4) (p4 : 0 ≤ z4) (q4 : z4 < 256)
    (hm : off + 5 ≤ zs.length) (hn : zs.length < off + 7) (hev : (bits BinOp.and IntKind.u8 z1 1 == 0) = false) :
    Calls Tryf.prog 27 #[.slice (some ⟨bb, 0, none⟩) zs.length zs.length, .int .i64 (off : Int)] w fun e w' =>
      e = .returned (.tuple #[.agg #[.int .i64 z0, .int .i64 (wrap64 (bits BinOp.and IntKind.u8 z4 127)), .bool (decide (128 ≤ z4)), .slice none 0 0], .int .i64 ((off : Int) + 5), .bool true]) ∧ Kp [] w w' := by
  have g0 := bs_at hb y0
  have g1 := bs_at hb y1
  have g2 := bs_at hb y2
  have g3 := bs_at hb y3
  have g4 := bs_at hb y4
  have lb := lt_of_at hb
  have lb1 : bb < w.heap.size + 1 := by omega
  have lb2 : bb < w.heap.size + 1 + 1 := by omega
  have nb1 : ¬ bb = w.heap.size := by omega
  have nb2 : ¬ bb = w.heap.size + 1 := by omega
  clear hb y0 y1 y2 y3 y4
  generalize zs.length = len at *
  have nc2 : ¬ len = off + 2 := by omega
  go_enter Tryf.func27, Tryf.ntmps27
  go_wp2_with fail
  refine (zzle_two bb (off + 2) _ z2 z3 _ (by go_simp) (by go_simp) p2 q2 p3 q3).mono ?_
  rintro e w1 ⟨rfl, hw1⟩
  subst w1
  go_wp2_with fail
  exact bodyPost_ret (v := .tuple #[.agg #[.int .i64 z0, .int .i64 (wrap64 (bits BinOp.and IntKind.u8 z4 127)), .bool (decide (128 ≤ z4)), .slice none 0 0], .int .i64 ((off : Int) + 5), .bool true]) (by simp [results, Tryf.results27, go_sem]) rfl ⟨rfl, ((Kp.refl _ _).alloc _).alloc _⟩

end Go.Proofs.Qxb6613256aFmt
