/-
  The reader's methods 'next' and 'fail' and fmt.Errorf, by contract.
-/
import Derived.Test.Qxb6613256aFmtBase
namespace Go.Proofs.Qxb6613256aFmt
open Go.RowKit Go.Extern.Stop Go.Stop Go.Extern

theorem heap_push (w : World) (o : Obj) : (w.alloc o).heap[w.heap.size]? = some o := by
  show (w.heap.push o)[w.heap.size]? = _
  simp

theorem heap_old (w : World) (o : Obj) {k : Nat} {x : Obj} (h : w.heap[k]? = some x) : (w.alloc o).heap[k]? = some x := by
  rw [Below.heap_alloc _ _ _ (lt_of_at h)]; exact h

set_option maxHeartbeats 400000 in
theorem next_failed (rb : Nat) (c0 c1 : Value) (T : TypeId) (x : Value) (n : Int) (s : ByteArray) (w : World)
    (h : w.heap[rb]? = some (.cells #[c0, c1, .iface T x] 66 (0, 0))) :
    Calls Tryf.prog 44 #[.pointer (some ⟨rb, 0, none⟩), .int .i64 n, .string s] w fun e w' =>
      e = .returned (.slice none 0 0) ∧ ∃ k, w' = w.drewN k := by
  have h2 : w.cell? ⟨rb, 0 + 2, none⟩ = some (.iface T x) := by rw [cell_at h]; rfl
  have h2' : w.cell? ⟨rb, 2, none⟩ = some (.iface T x) := by rw [cell_at h]; rfl
  clear h
  go_enter Tryf.func44, Tryf.ntmps44
  go_wp2_with fail
  go_quiet (fail)
  go_wp2_with fail
  go_ret
  exact ⟨rfl, _, rfl⟩

set_option maxHeartbeats 400000 in
theorem errorf_next (F : Interp) (blk : Nat) (s : ByteArray) (a n c : Int) (w : World) (hF : F.answers w.tape)
    (h : w.heap[blk]? = some (.cells #[.iface 3 (.int .i64 a), .iface 9 (.string s), .iface 3 (.int .i64 n), .iface 3 (.int .i64 c)] 20 (0, 0))) :
    Calls Tryf.prog 47 #[.string ⟨#[98, 121, 116, 101, 32, 111, 102, 102, 115, 101, 116, 32, 37, 100, 58, 32, 37, 115, 32, 110, 101, 101, 100, 115, 32, 37, 100, 32, 98, 121, 116, 101, 115, 44, 32, 97, 110, 100, 32, 37, 100, 32, 102, 111, 108, 108, 111, 119]⟩, .slice (some ⟨blk, 0, none⟩) 4 4] w fun e w' =>
      ∃ T x, e = .returned (.iface T x) ∧ Kp [] w w' := by
  have h0 : w.cell? ⟨blk, 0, none⟩ = some (.iface 3 (.int .i64 a)) := by rw [cell_at h]; rfl
  have h1 : w.cell? ⟨blk, 1, none⟩ = some (.iface 9 (.string s)) := by rw [cell_at h]; rfl
  have h2 : w.cell? ⟨blk, 2, none⟩ = some (.iface 3 (.int .i64 n)) := by rw [cell_at h]; rfl
  have h3 : w.cell? ⟨blk, 3, none⟩ = some (.iface 3 (.int .i64 c)) := by rw [cell_at h]; rfl
  clear h
  have hF' := answers_open hF
  go_enter Tryf.func47, Tryf.ntmps47
  go_wp2
  go_ret
  exact ⟨_, _, rfl, ((Kp.refl _ _).alloc _).drew⟩

end Go.Proofs.Qxb6613256aFmt
