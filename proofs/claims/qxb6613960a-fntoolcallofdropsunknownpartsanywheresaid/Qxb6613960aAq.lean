/-
  zzACPParts, walked: the row.
-/
import Derived.Test.Qxb6613960aAp
set_option linter.unusedVariables false
set_option linter.unusedSimpArgs false
namespace Go.Proofs.Qxb6613960a
open Go.RowKit

/-- Cells o, o + 1, .. of block q are set. -/
def setRow (w : World) (q o : Nat) : List Value → World
  | [] => w
  | v :: vs => setRow (w.setCell ⟨q, o, none⟩ v) q (o + 1) vs
def setArr (cs : Array Value) (o : Nat) : List Value → Array Value
  | [] => cs
  | v :: vs => setArr (cs.setIfInBounds o v) (o + 1) vs

theorem setRow_at : ∀ (vs : List Value) (w : World) (q o : Nat) (cs : Array Value) (t : TypeId) (m : Nat × Nat), w.heap[q]? = some (.cells cs t m) → (setRow w q o vs).heap[q]? = some (.cells (setArr cs o vs) t m)
  | [], _, _, _, _, _, _, h => h
  | v :: vs, w, q, o, cs, t, m, h => setRow_at vs _ q (o + 1) _ t m (heap_setCell_at h o v)
theorem setRow_kp : ∀ (vs : List Value) (w a : World) (X : List Nat) (q o : Nat), Kp X a w → (q ∈ X ∨ a.heap.size ≤ q) → Kp X a (setRow w q o vs)
  | [], _, _, _, _, _, h, _ => h
  | v :: vs, w, a, X, q, o, h, hq => setRow_kp vs _ a X q (o + 1) (h.setCell (p := ⟨q, o, none⟩) hq v) hq
theorem setArr_size : ∀ (vs : List Value) (cs : Array Value) (o : Nat), (setArr cs o vs).size = cs.size
  | [], _, _ => rfl
  | v :: vs, cs, o => by rw [setArr, setArr_size vs]; simp
theorem setArr_below : ∀ (vs : List Value) (cs : Array Value) (o i : Nat), i < o → (setArr cs o vs)[i]? = cs[i]?
  | [], _, _, _, _ => rfl
  | v :: vs, cs, o, i, h => by rw [setArr, setArr_below vs _ _ _ (by omega), Array.getElem?_setIfInBounds_ne (by omega)]
theorem setArr_in : ∀ (vs : List Value) (cs : Array Value) (o j : Nat) (v : Value), o + vs.length ≤ cs.size → vs[j]? = some v → (setArr cs o vs)[o + j]? = some v
  | [], _, _, _, _, _, h => by simp at h
  | x :: vs, cs, o, 0, v, hs, h => by
    simp at h; subst h
    simp at hs
    rw [setArr, setArr_below vs _ _ _ (by omega), Nat.add_zero, Array.getElem?_setIfInBounds_self_of_lt (by omega)]
  | x :: vs, cs, o, j + 1, v, hs, h => by
    simp at h hs
    have := setArr_in vs (cs.setIfInBounds o x) (o + 1) j v (by simp; omega) h
    rw [setArr, ← this]
    congr 1; omega

/-- A row of parts at block q: the first m are laid. -/
def ARow (w : World) (q n : Nat) (ps : List Pt) (m : Nat) : Prop :=
  ∃ cur : Array Value, w.heap[q]? = some (.cells cur 117 (0, 0)) ∧ cur.size = n * 11 ∧ ∀ (k : Nat) (p : Pt), k < m → ps[k]? = some p → ∃ rp, ResAt w rp p.c.res ∧ ∀ (j : Nat) (v : Value), (p.cells rp)[j]? = some v → cur[k * 11 + j]? = some v

theorem ARow.asl {w : World} {q n : Nat} {ps : List Pt} (h : ARow w q n ps ps.length) : ASl w q ps := by
  obtain ⟨cur, h1, h2, h3⟩ := h
  intro k p hp
  obtain ⟨rp, h4, h5⟩ := h3 k p (List.getElem?_eq_some_iff.1 hp).1 hp
  exact ⟨rp, h4, fun j v hv => by rw [cell_at h1]; exact h5 j v hv⟩
theorem ARow.kp {w w' : World} {q n : Nat} {ps : List Pt} {m : Nat} (h : ARow w q n ps m) (k : Kp [] w w') : ARow w' q n ps m := by
  obtain ⟨cur, h1, h2, h3⟩ := h
  exact ⟨cur, k.at h1 (by simp), h2, fun i p hi hp => by obtain ⟨rp, a, b⟩ := h3 i p hi hp; exact ⟨rp, a.kp k, b⟩⟩

end Go.Proofs.Qxb6613960a
