/-
  A row of parts pushed, the world told by its blocks.
-/
import Derived.Test.Qxb6613960aAr
set_option linter.unusedVariables false
set_option linter.unusedSimpArgs false
namespace Go.Proofs.Qxb6613960a
open Go.RowKit

theorem ARow.push2 {w w' : World} {q n : Nat} {ps : List Pt} {m : Nat} {p : Pt} {rp : Option Addr} (h : ARow w q n ps m) (hm : m < n) (hp : ps[m]? = some p)
    (hq : w'.heap[q]? = (setRow w q (m * 11) (p.cells rp)).heap[q]?) (hk : Kp [q] w w') (hr : ResAt w' rp p.c.res) : ARow w' q n ps (m + 1) := by
  obtain ⟨cur, h1, h2, h3⟩ := h
  refine ⟨_, hq.trans (setRow_at _ _ _ _ _ _ _ h1), by rw [setArr_size]; exact h2, fun k p' hk' hp' => ?_⟩
  by_cases e : k < m
  · obtain ⟨rp', a, b⟩ := h3 k p' e hp'
    refine ⟨rp', ?_, fun j v hv => ?_⟩
    · generalize p'.c.res = r at a ⊢
      cases r with
      | none => exact a
      | some r =>
        obtain ⟨b, e, hb⟩ := a
        refine ⟨b, e, hk.at hb ?_⟩
        simp
        rintro rfl
        rw [h1] at hb
        simp at hb
    · have hj : j < 11 := by have := (List.getElem?_eq_some_iff.1 hv).1; simpa [Pt.cells] using this
      rw [setArr_below _ _ _ _ (by omega)]
      exact b j v hv
  · have e2 : k = m := by omega
    subst e2
    rw [hp] at hp'
    cases hp'
    exact ⟨rp, hr, fun j v hv => setArr_in _ _ _ _ _ (by simp [Pt.cells]; omega) hv⟩

theorem setRow_size : ∀ (vs : List Value) (w : World) (q o : Nat), (setRow w q o vs).heap.size = w.heap.size
  | [], _, _, _ => rfl
  | v :: vs, w, q, o => by rw [setRow, setRow_size vs]; simp

theorem ARow.pushRes {w : World} {q n : Nat} {ps : List Pt} {m : Nat} {p : Pt} {r : Rs} {o : Obj} (h : ARow w q n ps m) (hm : m < n) (hp : ps[m]? = some p) (hr : p.c.res = some r) :
    ARow (((setRow w q (m * 11) (p.cells (some ⟨w.heap.size + 1, 0, none⟩))).alloc o).alloc (.cells #[.string r.uri, .string r.mime, .string r.text] 113)).drew q n ps (m + 1) := by
  have hql : q < w.heap.size := by obtain ⟨cur, h1, _⟩ := h; exact lt_of_at h1
  refine h.push2 (rp := some ⟨w.heap.size + 1, 0, none⟩) hm hp ?_ ?_ ?_
  · have hsz := setRow_size (p.cells (some ⟨w.heap.size + 1, 0, none⟩)) w q (m * 11)
    generalize setRow w q (m * 11) (p.cells (some ⟨w.heap.size + 1, 0, none⟩)) = S at hsz ⊢
    have k1 : Kp [] S ((S.alloc o).alloc (.cells #[.string r.uri, .string r.mime, .string r.text] 113)).drew := (((Kp.refl [] S).alloc _).alloc _).drew
    obtain ⟨x, hx⟩ : ∃ x, S.heap[q]? = some x := ⟨S.heap[q]'(by omega), by simp⟩
    rw [hx]
    exact k1.at hx (by simp)
  · exact (((setRow_kp _ w w [q] q (m * 11) (Kp.refl _ _) (Or.inl (by simp))).alloc _).alloc _).drew
  · have hsz := setRow_size (p.cells (some ⟨w.heap.size + 1, 0, none⟩)) w q (m * 11)
    generalize setRow w q (m * 11) (p.cells (some ⟨w.heap.size + 1, 0, none⟩)) = S at hsz ⊢
    rw [hr]
    refine ⟨w.heap.size + 1, rfl, ?_⟩
    have := heap_push2 S o (.cells #[.string r.uri, .string r.mime, .string r.text] 113)
    rw [hsz] at this
    exact this

end Go.Proofs.Qxb6613960a
