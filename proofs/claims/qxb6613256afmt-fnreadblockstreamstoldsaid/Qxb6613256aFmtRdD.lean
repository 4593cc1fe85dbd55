/-
  The reader's method 'fail'.
-/
import Derived.Test.Qxb6613256aFmtRd
namespace Go.Proofs.Qxb6613256aFmt
open Go.RowKit Go.Extern.Stop Go.Stop Go.Extern

set_option maxHeartbeats 400000 in
theorem errorf_fail (F : Interp) (blk : Nat) (s : ByteArray) (a : Int) (w : World) (hF : F.answers w.tape)
    (h : w.heap[blk]? = some (.cells #[.iface 3 (.int .i64 a), .iface 9 (.string s)] 20 (0, 0))) :
    Calls Tryf.prog 47 #[.string ⟨#[98, 121, 116, 101, 32, 111, 102, 102, 115, 101, 116, 32, 37, 100, 58, 32, 37, 115]⟩, .slice (some ⟨blk, 0, none⟩) 2 2] w fun e w' =>
      ∃ T x, e = .returned (.iface T x) ∧ Kp [] w w' := by
  have h0 : w.cell? ⟨blk, 0, none⟩ = some (.iface 3 (.int .i64 a)) := by rw [cell_at h]; rfl
  have h1 : w.cell? ⟨blk, 1, none⟩ = some (.iface 9 (.string s)) := by rw [cell_at h]; rfl
  clear h
  have hF' := answers_open hF
  go_enter Tryf.func47, Tryf.ntmps47
  go_wp2
  go_ret
  exact ⟨_, _, rfl, ((Kp.refl _ _).alloc _).drew⟩

set_option maxHeartbeats 400000 in
theorem fail_failed (rb : Nat) (c0 c1 : Value) (T : TypeId) (x : Value) (n : Int) (s : ByteArray) (av : Value) (w : World)
    (h : w.heap[rb]? = some (.cells #[c0, c1, .iface T x] 66 (0, 0))) :
    Calls Tryf.prog 45 #[.pointer (some ⟨rb, 0, none⟩), .int .i64 n, .string s, av] w fun e w' =>
      e = .returned (.tuple #[]) ∧ w' = w := by
  have h2' : w.cell? ⟨rb, 2, none⟩ = some (.iface T x) := by rw [cell_at h]; rfl
  clear h
  go_enter Tryf.func45, Tryf.ntmps45
  go_wp2_with fail
  go_end0
  exact ⟨rfl, rfl⟩

set_option maxRecDepth 100000 in
set_option maxHeartbeats 1000000 in
theorem fail_new (F : Interp) (rb : Nat) (c0 : Value) (off n : Int) (f : ByteArray) (av : Value) (w : World) (hF : F.answers w.tape)
    (h : w.heap[rb]? = some (.cells #[c0, .int .i64 off, .nilIface] 66 (0, 0)))
    (hs : ∃ s : ByteArray, (callFunc 43 #[.string f, av]).run Tryf.prog w.drew = .ok (.value (.string s)) w.drew.drew) :
    Calls Tryf.prog 45 #[.pointer (some ⟨rb, 0, none⟩), .int .i64 n, .string f, av] w fun e w' =>
      e = .returned (.tuple #[]) ∧ ∃ T x, w'.heap[rb]? = some (.cells #[c0, .int .i64 off, .iface T x] 66 (0, 0)) ∧ Kp [rb] w w' := by
  have h1 : w.cell? ⟨rb, 1, none⟩ = some (.int .i64 off) := by rw [cell_at h]; rfl
  have h2 : w.cell? ⟨rb, 2, none⟩ = some .nilIface := by rw [cell_at h]; rfl
  have f2 := frozen_at h 2
  have hlt := lt_of_at h
  have H := (show Hid (w.heap[rb]? = some (.cells #[c0, .int .i64 off, .nilIface] 66 (0, 0))) from h)
  clear h
  obtain ⟨s, hs⟩ := hs
  go_enter Tryf.func45, Tryf.ntmps45
  go_wp2_with fail
  go_region_with (go_at_call 47; refine (errorf_fail F _ s (IntKind.i64.wrap (off - n)) _ ?_ ?_).mono ?_; exact hF; exact heap_push _ _; rintro e w1 ⟨T, x, rfl, hk⟩; have hw1 : w1.heap[rb]? = some (.cells #[c0, .int .i64 off, .nilIface] 66 (0, 0)) := hk.at (heap_old _ _ H.out) (by simp); have g2 : w1.cell? ⟨rb, 2, none⟩ = some .nilIface := (by rw [cell_at hw1]; rfl); have gf := frozen_at hw1 2; replace hw1 := (show Hid _ from hw1))
  all_goals
    go_wp2_with fail
    go_end0
    exact ⟨rfl, T, x, heap_setCell_at hw1.out 2 _, (((((Kp.refl [rb] w).drew).drew).alloc _).trans hk.nil).setCell (Or.inl (by simp)) _⟩

end Go.Proofs.Qxb6613256aFmt
