/-
  zzDeref and zzHead, walked.
-/
import Derived.Test.Qxb6613960aHr
set_option linter.unusedVariables false
set_option linter.unusedSimpArgs false
namespace Go.Proofs.Qxb6613960a
open Go.RowKit

theorem deref_all (p : Option Addr) (s : ByteArray) (w : World) (h : SP w p s) : Calls Try.prog 23 #[.pointer p] w fun e w' => e = .returned (.string s) ∧ w' = w := by
  cases p with
  | none =>
    cases h
    go_enter Try.func23, Try.ntmps23
    go_wp2
    go_ret
    exact ⟨rfl, rfl⟩
  | some a =>
    have h : w.cell? a = some (.string s) := h
    go_enter Try.func23, Try.ntmps23
    go_wp2
    go_ret
    exact ⟨rfl, rfl⟩

theorem load9_at {w : World} {b : Nat} {cs : Array Value} {i : Nat} {s : ByteArray} (h : w.heap[b]? = some (.cells cs 41 (0, 0))) (hi : cs[i]? = some (.string s)) : (loadVar 9 ⟨b, i, none⟩).run Try.prog w = .ok (.string s) w := by
  have hc : w.cell? ⟨b, i, none⟩ = some (.string s) := by rw [cell_at h]; exact hi
  simp [go_sem, hc]

attribute [-go_sem] loadVar

set_option maxRecDepth 100000 in
set_option maxHeartbeats 4000000 in
theorem head_all (typ id ti ki st : ByteArray) (title kind status : Option Addr) (x : Option Addr) (n c : Nat) (x' : Option Addr) (n' c' : Nat) (w : World) (hti : SP w title ti) (hki : SP w kind ki) (hsta : SP w status st) :
    Calls Try.prog 10 #[.agg (evArr typ id ti ki st (.slice x n c) (.slice x' n' c')), .string typ, .string id, .pointer title, .pointer kind, .pointer status] w fun e w' => e = .returned (.bool true) ∧ Kp [] w w' := by
  have HTI := hid hti
  have HKI := hid hki
  have HST := hid hsta
  clear hti hki hsta
  have hb : (w.alloc (.cells (evArr typ id ti ki st (.slice x n c) (.slice x' n' c')) 41)).heap[w.heap.size]? = some (.cells (evArr typ id ti ki st (.slice x n c) (.slice x' n' c')) 41 (0, 0)) := heap_push _ _
  have l1 : ∀ w' : World, w'.heap[w.heap.size]? = some (.cells (evArr typ id ti ki st (.slice x n c) (.slice x' n' c')) 41 (0, 0)) → (loadVar 9 ⟨w.heap.size, 1, none⟩).run Try.prog w' = .ok (.string typ) w' := fun w' h => load9_at h rfl
  have l10 : ∀ w' : World, w'.heap[w.heap.size]? = some (.cells (evArr typ id ti ki st (.slice x n c) (.slice x' n' c')) 41 (0, 0)) → (loadVar 9 ⟨w.heap.size, 10, none⟩).run Try.prog w' = .ok (.string id) w' := fun w' h => load9_at h rfl
  have l11 : ∀ w' : World, w'.heap[w.heap.size]? = some (.cells (evArr typ id ti ki st (.slice x n c) (.slice x' n' c')) 41 (0, 0)) → (loadVar 9 ⟨w.heap.size, 11, none⟩).run Try.prog w' = .ok (.string ti) w' := fun w' h => load9_at h rfl
  have l12 : ∀ w' : World, w'.heap[w.heap.size]? = some (.cells (evArr typ id ti ki st (.slice x n c) (.slice x' n' c')) 41 (0, 0)) → (loadVar 9 ⟨w.heap.size, 12, none⟩).run Try.prog w' = .ok (.string ki) w' := fun w' h => load9_at h rfl
  have l13 : ∀ w' : World, w'.heap[w.heap.size]? = some (.cells (evArr typ id ti ki st (.slice x n c) (.slice x' n' c')) 41 (0, 0)) → (loadVar 9 ⟨w.heap.size, 13, none⟩).run Try.prog w' = .ok (.string st) w' := fun w' h => load9_at h rfl
  have l41 : ∀ w' : World, w'.heap[w.heap.size]? = some (.cells (evArr typ id ti ki st (.slice x n c) (.slice x' n' c')) 41 (0, 0)) → (loadVar 41 ⟨w.heap.size, 0, none⟩).run Try.prog w' = .ok (.agg (evArr typ id ti ki st (.slice x n c) (.slice x' n' c'))) w' := fun w' h => load41 h rfl
  go_enter Try.func10, Try.ntmps10
  go_upto_region 1 with fail
  generalize hW : w.alloc _ = W0 at hb ⊢
  have kW : Kp [] w W0 := by rw [← hW]; exact (Kp.refl _ _).alloc _
  have h0 : SP W0.drew title ti := (HTI.out.kp kW).kp (Kp.refl [] _).drew
  have h1 : SP W0.drew kind ki := (HKI.out.kp kW).kp (Kp.refl [] _).drew
  have h2 : SP W0.drew status st := (HST.out.kp kW).kp (Kp.refl [] _).drew
  have D0 := hid (deref_all title ti _ h0)
  have D1 := hid (deref_all kind ki _ h1)
  have D2 := hid (deref_all status st _ h2)
  have R := hid (restZero typ id ti ki st x n c x' n' c' W0.drew)
  clear hW h0 h1 h2
  go_region_held3 (fun w' => w'.heap[w.heap.size]? = some (.cells (evArr typ id ti ki st (.slice x n c) (.slice x' n' c')) 41 (0, 0))) (first | assumption | exact kr.at (by assumption) (by simp)) (first
    | (go_at_call 23; refine D0.out.mono ?_; rintro e w' ⟨rfl, rfl⟩)
    | (go_at_call 23; refine D1.out.mono ?_; rintro e w' ⟨rfl, rfl⟩)
    | (go_at_call 23; refine D2.out.mono ?_; rintro e w' ⟨rfl, rfl⟩)
    | (go_at_call 27; refine R.out.mono ?_; rintro e w1 ⟨rfl, kr⟩))
  all_goals
    go_wp2_with fail
    go_ret
    exact ⟨rfl, kW.drew.trans kr⟩

end Go.Proofs.Qxb6613960a
