/-
  zzACPParts, walked.
-/
import Derived.Test.Qxb6613960aAq
set_option linter.unusedVariables false
set_option linter.unusedSimpArgs false
namespace Go.Proofs.Qxb6613960a
open Go.RowKit

theorem ResAt.row {w : World} {q n : Nat} {cur : Array Value} {p : Option Addr} {r : Option Rs} (h : ResAt w p r) (hq : w.heap[q]? = some (.cells cur 117 (0, 0))) (o : Nat) (vs : List Value) : ResAt (setRow w q o vs) p r := by
  cases r with
  | none => exact h
  | some r =>
    obtain ⟨b, e, hb⟩ := h
    refine ⟨b, e, ?_⟩
    have hne : b ∉ [q] := by
      simp
      rintro rfl
      rw [hq] at hb
      simp at hb
    exact (setRow_kp vs w w [q] q o (Kp.refl _ _) (Or.inl (by simp))).at hb hne

theorem ARow.push {w : World} {q n : Nat} {ps : List Pt} {m : Nat} {p : Pt} {rp : Option Addr} (h : ARow w q n ps m) (hm : m < n) (hp : ps[m]? = some p) (hr : ResAt w rp p.c.res) : ARow (setRow w q (m * 11) (p.cells rp)) q n ps (m + 1) := by
  obtain ⟨cur, h1, h2, h3⟩ := h
  refine ⟨_, setRow_at _ _ _ _ _ _ _ h1, by rw [setArr_size]; exact h2, fun k p' hk hp' => ?_⟩
  by_cases e : k < m
  · obtain ⟨rp', a, b⟩ := h3 k p' e hp'
    refine ⟨rp', a.row (n := n) h1 _ _, fun j v hv => ?_⟩
    have hj : j < 11 := by have := (List.getElem?_eq_some_iff.1 hv).1; simpa [Pt.cells] using this
    rw [setArr_below _ _ _ _ (by omega)]
    exact b j v hv
  · have e2 : k = m := by omega
    subst e2
    rw [hp] at hp'
    cases hp'
    exact ⟨rp, hr.row (n := n) h1 _ _, fun j v hv => setArr_in _ _ _ _ _ (by simp [Pt.cells]; omega) hv⟩

end Go.Proofs.Qxb6613960a
