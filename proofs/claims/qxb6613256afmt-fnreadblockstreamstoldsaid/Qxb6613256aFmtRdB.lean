/-
  The reader's method 'next' where too few bytes follow.
-/
import Derived.Test.Qxb6613256aFmtRd
set_option linter.unusedVariables false
set_option linter.unusedSimpArgs false
namespace Go.Proofs.Qxb6613256aFmt
open Go.RowKit Go.Extern.Stop Go.Stop Go.Extern

set_option maxRecDepth 100000 in
set_option maxHeartbeats 1000000 in
theorem next_short (F : Interp) (rb : Nat) (a : Option Addr) (len cap off n : Nat) (s : ByteArray) (w : World) (hF : F.answers w.tape)
    (h : w.heap[rb]? = some (.cells #[.slice a len cap, .int .i64 off, .nilIface] 66 (0, 0))) (ho : off ≤ len) (hl : len ≤ 1048576) (hn : len < off + n) (hn2 : n ≤ 1048576) :
    Calls Tryf.prog 44 #[.pointer (some ⟨rb, 0, none⟩), .int .i64 n, .string s] w fun e w' =>
      e = .returned (.slice none 0 0) ∧ ∃ T x, w'.heap[rb]? = some (.cells #[.slice a len cap, .int .i64 off, .iface T x] 66 (0, 0)) ∧ Kp [rb] w w' := by
  have h0 : w.cell? ⟨rb, 0, none⟩ = some (.slice a len cap) := by rw [cell_at h]; rfl
  have h1 : w.cell? ⟨rb, 1, none⟩ = some (.int .i64 off) := by rw [cell_at h]; rfl
  have h2 : w.cell? ⟨rb, 2, none⟩ = some .nilIface := by rw [cell_at h]; rfl
  have f2 := frozen_at h 2
  have hlt := lt_of_at h
  have hlt1 : rb < w.heap.size + 1 := by omega
  have hlt2 : rb < w.heap.size + 1 + 1 := by omega
  have H := (show Hid (w.heap[rb]? = some (.cells #[.slice a len cap, .int .i64 off, .nilIface] 66 (0, 0))) from h)
  clear h
  have hd : decide ((len : Int) - (off : Int) < (n : Int)) = true := by simp; omega
  go_enter Tryf.func44, Tryf.ntmps44
  go_wp2_with fail
  go_quiet (fail)
  go_wp2_with fail
  go_region_with (go_at_call 47; refine (errorf_next F _ s off n (IntKind.i64.wrap (len - off)) _ ?_ ?_).mono ?_; exact hF; exact heap_push _ _; rintro e w1 ⟨T, x, rfl, hk⟩; have hw1 : w1.heap[rb]? = some (.cells #[.slice a len cap, .int .i64 off, .nilIface] 66 (0, 0)) := hk.at (heap_old _ _ H.out) (by simp); have g2 : w1.cell? ⟨rb, 2, none⟩ = some .nilIface := (by rw [cell_at hw1]; rfl); have gf := frozen_at hw1 2; replace hw1 := (show Hid _ from hw1))
  all_goals
    go_wp2_with fail
    go_ret
    exact ⟨rfl, T, x, heap_setCell_at hw1.out 2 _, ((((Kp.refl [rb] w).drewN _).alloc _).trans hk.nil).setCell (Or.inl (by simp)) _⟩

end Go.Proofs.Qxb6613256aFmt
