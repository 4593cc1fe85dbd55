/-
  The reader's method 'next' where enough bytes follow.
-/
import Derived.Test.Qxb6613256aFmtRd
namespace Go.Proofs.Qxb6613256aFmt
open Go.RowKit Go.Extern.Stop Go.Stop Go.Extern

set_option maxRecDepth 100000 in
set_option maxHeartbeats 1000000 in
theorem next_ok (rb bb : Nat) (len off n : Nat) (s : ByteArray) (w : World)
    (h : w.heap[rb]? = some (.cells #[.slice (some ⟨bb, 0, none⟩) len len, .int .i64 off, .nilIface] 66 (0, 0))) (hl : len ≤ 1048576) (hn : off + n ≤ len) :
    Calls Tryf.prog 44 #[.pointer (some ⟨rb, 0, none⟩), .int .i64 n, .string s] w fun e w' =>
      ∃ p, e = .returned (.slice (some ⟨bb, p, none⟩) n (len - off)) ∧ (0 < n → p = off) ∧ w'.heap[rb]? = some (.cells #[.slice (some ⟨bb, 0, none⟩) len len, .int .i64 ((off + n : Nat) : Int), .nilIface] 66 (0, 0)) ∧ Kp [rb] w w' := by
  have h0 : w.cell? ⟨rb, 0, none⟩ = some (.slice (some ⟨bb, 0, none⟩) len len) := by rw [cell_at h]; rfl
  have h1 : w.cell? ⟨rb, 1, none⟩ = some (.int .i64 off) := by rw [cell_at h]; rfl
  have h2 : w.cell? ⟨rb, 2, none⟩ = some .nilIface := by rw [cell_at h]; rfl
  have f1 := frozen_at h 1
  have hlt := lt_of_at h
  have H := (show Hid (w.heap[rb]? = some (.cells #[.slice (some ⟨bb, 0, none⟩) len len, .int .i64 off, .nilIface] 66 (0, 0))) from h)
  clear h
  have hd : decide ((len : Int) - (off : Int) < (n : Int)) = false := by simp; omega
  have hd' : ¬ ((len : Int) - (off : Int) < (n : Int)) := by omega
  go_enter Tryf.func44, Tryf.ntmps44
  go_wp2_with fail
  go_quiet (fail)
  go_wp2_with fail
  go_quiet (fail)
  go_wp2_with fail
  · have hcap : len = off := by assumption
    go_ret
    refine ⟨0, rfl, fun hp => by omega, ?_, (((Kp.refl [rb] w).drewN _).setCell (Or.inl (by simp)) _).drewN _⟩
    have := heap_setCell_at (w := w) H.out 1 (Value.int IntKind.i64 (↑off + ↑n))
    rw [hcap] at this
    exact this
  · go_ret
    exact ⟨off, rfl, fun _ => rfl, heap_setCell_at (w := w) H.out 1 _, (((Kp.refl [rb] w).drewN _).setCell (Or.inl (by simp)) _).drewN _⟩

end Go.Proofs.Qxb6613256aFmt
