/-
  zzBlock, walked: case Z0
-/
import Derived.Test.Qxb6613256aFmtBk
set_option linter.unusedVariables false
set_option linter.unusedSimpArgs false
namespace Go.Proofs.Qxb6613256aFmt
open Go.RowKit Go.Extern.Stop Go.Stop Go.Extern

set_option maxRecDepth 100000 in
set_option maxHeartbeats 1000000 in
theorem zzBlock_Z0 (a : Option Addr) (zs : List Int) (off : Nat) (w : World) (hl : zs.length ≤ 1048576) (ho : off ≤ zs.length)
    (hn : zs.length < off + 1) :
    Calls Tryf.prog 27 #[.slice a zs.length zs.length, .int .i64 (off : Int)] w fun e w' =>
      e = .returned (.tuple #[.agg #[.int .i64 0, .int .i64 0, .bool false, .slice none 0 0], .int .i64 (off : Int), .bool true]) ∧ Kp [] w w' := by
  generalize zs.length = len at *
  go_enter Tryf.func27, Tryf.ntmps27
  go_wp2_with fail
  exact bodyPost_ret (v := .tuple #[.agg #[.int .i64 0, .int .i64 0, .bool false, .slice none 0 0], .int .i64 (off : Int), .bool true]) (by simp [results, Tryf.results27, go_sem]) rfl ⟨rfl, ((Kp.refl _ _).alloc _).alloc _⟩

end Go.Proofs.Qxb6613256aFmt
