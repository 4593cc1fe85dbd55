/-
  zzBlock, walked: case ZE
-/
import Derived.Test.Qxb6613256aFmtBk
set_option linter.unusedVariables false
set_option linter.unusedSimpArgs false
namespace Go.Proofs.Qxb6613256aFmt
open Go.RowKit Go.Extern.Stop Go.Stop Go.Extern

set_option maxRecDepth 100000 in
set_option maxHeartbeats 1000000 in
theorem zzBlock_ZE (bb : Nat) (zs : List Int) (off : Nat) (w : World) (z0 : Int) (z1 : Int) (hb : w.heap[bb]? = some (.cells (bs zs) 5 (0, 0))) (hl : zs.length ≤ 1048576)
    (y0 : zs[off]? = some z0) (p0 : 0 ≤ z0) (q0 : z0 < 256) (y1 : zs[off + 1]? = some z1) (p1 : 0 ≤ z1) (q1 : z1 < 256)
    (hm : off + 2 ≤ zs.length) (hev : (bits BinOp.and IntKind.u8 z1 1 == 0) = true) :
    Calls Tryf.prog 27 #[.slice (some ⟨bb, 0, none⟩) zs.length zs.length, .int .i64 (off : Int)] w fun e w' =>
      e = .returned (.tuple #[.agg #[.int .i64 z0, .int .i64 0, .bool false, .slice none 0 0], .int .i64 ((off : Int) + 2), .bool true]) ∧ Kp [] w w' := by
  have g0 := bs_at hb y0
  have g1 := bs_at hb y1
  have lb := lt_of_at hb
  have lb1 : bb < w.heap.size + 1 := by omega
  have lb2 : bb < w.heap.size + 1 + 1 := by omega
  have nb1 : ¬ bb = w.heap.size := by omega
  have nb2 : ¬ bb = w.heap.size + 1 := by omega
  clear hb y0 y1
  generalize zs.length = len at *
  go_enter Tryf.func27, Tryf.ntmps27
  go_wp2_with fail
  exact bodyPost_ret (v := .tuple #[.agg #[.int .i64 z0, .int .i64 0, .bool false, .slice none 0 0], .int .i64 ((off : Int) + 2), .bool true]) (by simp [results, Tryf.results27, go_sem]) rfl ⟨rfl, ((Kp.refl _ _).alloc _).alloc _⟩

end Go.Proofs.Qxb6613256aFmt
