/-
  zzRestZero, walked.
-/
import Derived.Test.Qxb6613960aAx
set_option linter.unusedVariables false
set_option linter.unusedSimpArgs false
namespace Go.Proofs.Qxb6613960a
open Go.RowKit

theorem equalIn28 (d : Nat) (wx : World) : (Op.equalIn (d + 1) 28 (.pointer none) (.pointer none)).run Try.prog wx = .ok true wx := by simp [Op.equalIn, run_underlying Try.underlying28]

set_option maxRecDepth 100000 in
set_option maxHeartbeats 4000000 in
theorem restZero (typ id ti ki st : ByteArray) (x : Option Addr) (n c : Nat) (x' : Option Addr) (n' c' : Nat) (w : World) :
    Calls Try.prog 27 #[.agg (evArr typ id ti ki st (.slice x n c) (.slice x' n' c'))] w fun e w' => e = .returned (.bool true) ∧ Kp [] w w' := by
  have h32 := fun wx a n c n' c' => Lib.run_eql_slice_nil (P := Try.prog) wx 32 _ a n c n' c' Try.underlying32
  have h35 := fun wx a n c n' c' => Lib.run_eql_slice_nil (P := Try.prog) wx 35 _ a n c n' c' Try.underlying35
  have h36 := fun wx a n c n' c' => Lib.run_eql_slice_nil (P := Try.prog) wx 36 _ a n c n' c' Try.underlying36
  have h37 := fun wx a n c n' c' => Lib.run_eql_slice_nil (P := Try.prog) wx 37 _ a n c n' c' Try.underlying37
  have h38 := fun wx a n c n' c' => Lib.run_eql_slice_nil (P := Try.prog) wx 38 _ a n c n' c' Try.underlying38
  have h39 := fun wx a n c n' c' => Lib.run_eql_slice_nil (P := Try.prog) wx 39 _ a n c n' c' Try.underlying39
  have heq28 : ∀ wx : World, (Op.equalIn 9999 28 (.pointer none) (.pointer none)).run Try.prog wx = .ok true wx := fun wx => equalIn28 9998 wx
  unfold evArr em
  go_enter Try.func27, Try.ntmps27
  go_wp2_with fail
  go_ret
  exact ⟨rfl, ((Kp.refl _ _).alloc _).alloc _⟩

end Go.Proofs.Qxb6613960a
