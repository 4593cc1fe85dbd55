/-
  What the walks of readBlock share.
-/
import Derived.Test.Qxb6613256aFmtUi
import Derived.Test.Qxb6613256aFmtRdD
import Derived.Test.Qxb6613256aFmtSp
set_option linter.unusedVariables false
set_option linter.unusedSimpArgs false
namespace Go.Proofs.Qxb6613256aFmt
open Go.RowKit Go.Extern.Stop Go.Stop Go.Extern

theorem cell_set_at {w : World} {b : Nat} {cs : Array Value} {t : TypeId} {m : Nat × Nat} {v : Value} (h : w.heap[b]? = some (.cells cs t m)) (i : Nat) (hi : i < cs.size) : (w.setCell ⟨b, i, none⟩ v).cell? ⟨b, i, none⟩ = some v := by
  rw [cell_at (heap_setCell_at h i v)]
  simp [hi]
theorem kp_drewN (X : List Nat) {w w' : World} {k : Nat} (h : w' = w.drewN k) : Kp X w w' := by rw [h]; exact (Kp.refl _ _).drewN _
theorem at_drewN {w w' : World} {k b : Nat} {o : Obj} (h : w' = w.drewN k) (hb : w.heap[b]? = some o) : w'.heap[b]? = some o := by rw [h]; exact hb
theorem kp_alloc (X : List Nat) {w w' : World} {o : Obj} (h : w' = w.alloc o) : Kp X w w' := by rw [h]; exact (Kp.refl _ _).alloc _
theorem at_alloc {w w' : World} {b : Nat} {o o' : Obj} (h : w' = w.alloc o') (hb : w.heap[b]? = some o) : w'.heap[b]? = some o := by rw [h]; exact heap_old _ _ hb

end Go.Proofs.Qxb6613256aFmt
