/-
  What the walks of 'header' share.
-/
import Derived.Test.Qxb6613256aFmtRdB
import Derived.Test.Qxb6613256aFmtRdC
import Derived.Test.Qxb6613256aFmtRdD
import Derived.Test.Qxb6613256aFmtSm
import Derived.Test.Qxb6613256aFmtSp
set_option linter.unusedVariables false
set_option linter.unusedSimpArgs false
namespace Go.Proofs.Qxb6613256aFmt
open Go.RowKit Go.Extern.Stop Go.Stop Go.Extern

def exObj (v s : Int) : Obj := .cells #[.int .u8 v, .int .i64 s, .slice none 0 0, .slice none 0 0, .slice none 0 0] 69 (0, 0)
def rdObj (bb len : Nat) (off : Nat) (ev : Value) : Obj := .cells #[.slice (some ⟨bb, 0, none⟩) len len, .int .i64 (off : Int), ev] 66 (0, 0)
theorem bs_at {w : World} {bb : Nat} {zs : List Int} {i : Nat} {z : Int} (h : w.heap[bb]? = some (.cells (bs zs) 5 (0, 0))) (hz : zs[i]? = some z) : w.cell? ⟨bb, i, none⟩ = some (.int .u8 z) := by
  rw [cell_at h]; simp [bs, hz]
theorem at_setCell {w : World} {k : Nat} {o : Obj} (h : w.heap[k]? = some o) (p : Addr) (u : Value) (hne : k ≠ p.block) : (w.setCell p u).heap[k]? = some o := by
  rw [Below.heap_setCell _ _ _ _ hne]; exact h
theorem heap_push_set (w : World) (p : Addr) (u : Value) (o : Obj) : ((w.setCell p u).alloc o).heap[w.heap.size]? = some o := by
  have := heap_push (w.setCell p u) o
  rw [show (w.setCell p u).heap.size = w.heap.size from by simp [World.setCell]] at this
  exact this

end Go.Proofs.Qxb6613256aFmt
