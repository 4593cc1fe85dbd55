/-
  toolCallOf, walked.
-/
import Derived.Test.Qxb6613960aAu
import Derived.Deep.Cut
import Derived.Deep.DeepCutAuto
import Derived.Deep.RegionHeld3
set_option linter.unusedVariables false
set_option linter.unusedSimpArgs false
namespace Go.Proofs.Qxb6613960a
open Go.RowKit

/-- A pointer to a string; the empty one where it is nil. -/
def SP (w : World) (p : Option Addr) (s : ByteArray) : Prop :=
  match p with
  | none => s = em
  | some a => w.cell? a = some (.string s)
theorem SP.kp {w w' : World} {p : Option Addr} {s : ByteArray} (h : SP w p s) (k : Kp [] w w') : SP w' p s := by
  cases p with
  | none => exact h
  | some a => exact k.cell h (by simp)

/-- What the walk keeps of the boxed call. -/
structure BoxAt (w : World) (b : Nat) (id : ByteArray) (title kind status : Option Addr) (vl vp : Value) : Prop where
  c0 : w.cell? ⟨b, 0, none⟩ = some (.string id)
  c1 : w.cell? ⟨b, 1, none⟩ = some (.pointer title)
  c2 : w.cell? ⟨b, 2, none⟩ = some (.pointer kind)
  c3 : w.cell? ⟨b, 3, none⟩ = some (.pointer status)
  c4 : w.cell? ⟨b, 4, none⟩ = some vl
  c5 : w.cell? ⟨b, 5, none⟩ = some vp
theorem BoxAt.kp {w w' : World} {b : Nat} {id : ByteArray} {title kind status : Option Addr} {vl vp : Value} (h : BoxAt w b id title kind status vl vp) (k : Kp [] w w') : BoxAt w' b id title kind status vl vp :=
  ⟨k.cell h.c0 (by simp), k.cell h.c1 (by simp), k.cell h.c2 (by simp), k.cell h.c3 (by simp), k.cell h.c4 (by simp), k.cell h.c5 (by simp)⟩

theorem loc_box (w0 : World) (b : Nat) (id : ByteArray) (title kind status : Option Addr) (vl vp : Value) (hb : BoxAt w0 b id title kind status vl vp) (ls : List Lc) (la : Option Addr) (hl : ls.length ≤ 65537) (hA : LV w0 110 la vl ls) (w : World) (k : Kp [] w0 w) :
    Calls Try.prog 30 #[vl] w fun e w' => ∃ x n c, e = .returned (.slice x n c) ∧ LV w' 51 la (.slice x n c) ls ∧ Kp [] w w' ∧ Kp [] w0 w' ∧ BoxAt w' b id title kind status vl vp :=
  (locationsOf_all w ls la vl hl (hA.kp k) w (Kp.refl _ _)).mono (by
    rintro e w' ⟨v, rfl, h, k2⟩
    obtain ⟨x, n, c, rfl⟩ := h.slice
    exact ⟨x, n, c, rfl, h, k2, k.trans k2, hb.kp (k.trans k2)⟩)
theorem cont_box (w0 : World) (b : Nat) (id : ByteArray) (title kind status : Option Addr) (vl vp : Value) (hb : BoxAt w0 b id title kind status vl vp) (ps : List Pt) (pa : Option Addr) (hl : ps.length ≤ 65537) (hA : PV w0 pa vp ps) (w : World) (k : Kp [] w0 w) :
    Calls Try.prog 31 #[vp] w fun e w' => ∃ x n c, e = .returned (.slice x n c) ∧ EV w' pa (.slice x n c) (ps.filterMap Pt.tc) ∧ Kp [] w w' ∧ Kp [] w0 w' ∧ BoxAt w' b id title kind status vl vp :=
  (toolContent_all w ps pa vp hl (hA.kp k) w (Kp.refl _ _)).mono (by
    rintro e w' ⟨v, rfl, h, k2⟩
    obtain ⟨x, n, c, rfl⟩ := h.slice
    exact ⟨x, n, c, rfl, h, k2, k.trans k2, hb.kp (k.trans k2)⟩)

/-- The event that toolCallOf gives. -/
def evArr (typ id title kind status : ByteArray) (vl vp : Value) : Array Value :=
  #[.int .i64 0, .string typ, .int .u64 0, .int .i64 0, .pointer none, .string em, .string em, .string em, .pointer none, .string em, .string id, .string title, .string kind, .string status, .string em, .slice none 0 0, .string em, .string em, .string em, .string em, .string em, .string em, .bool false, .string em, vl, vp, .slice none 0 0, .slice none 0 0, .slice none 0 0, .slice none 0 0, .int .i64 0, .string em, .string em, .slice none 0 0]

theorem setCells_row : ∀ (vs : List Value) (w : World) (q o : Nat), w.setCells q o vs = setRow w q o vs
  | [], _, _, _ => rfl
  | v :: vs, w, q, o => by rw [World.setCells, setRow, setCells_row vs]
theorem setCells_all {w : World} {g : Nat} {Z : Array Value} {T : TypeId} {m : Nat × Nat} (h : w.heap[g]? = some (.cells Z T m)) (vs : List Value) (hz : Z.size = vs.length) : (w.setCells g 0 vs).heap[g]? = some (.cells vs.toArray T m) := by
  rw [setCells_row, setRow_at _ _ _ _ _ _ _ h]
  congr 2
  apply Array.ext_getElem?
  intro i
  by_cases hi : i < vs.length
  · have := setArr_in vs Z 0 i vs[i] (by omega) (by simp [hi])
    rw [Nat.zero_add] at this
    rw [this]; simp [hi]
  · rw [Array.getElem?_eq_none (by rw [setArr_size]; omega), Array.getElem?_eq_none (by simp; omega)]
theorem there_at {w : World} {g : Nat} {Z : Array Value} {T : TypeId} (h : w.heap[g]? = some (.cells Z T (0, 0))) {n : Nat} (hz : Z.size = n) : w.there g 0 n := by
  intro j hj
  refine ⟨?_, frozen_at h _⟩
  rw [cell_at h]
  simp
  omega
theorem far_setCells {w : World} {g b i : Nat} {v : Value} {vs : List Value} (hne : b ≠ g) (h : w.cell? ⟨b, i, none⟩ = some v) : (w.setCells g 0 vs).cell? ⟨b, i, none⟩ = some v := by
  rw [World.cell?_setCells_out]
  · exact h
  · intro e; exact absurd e hne
theorem info41 : (Try.prog.info? 41).map (·.size) = some 34 := by kernel_rfl
theorem store41 (wx : World) (g : Nat) (typ id title kind status : ByteArray) (x : Option Addr) (n c : Nat) (x' : Option Addr) (n' c' : Nat) (ht : wx.there g 0 34) :
    (storeVar 41 ⟨g, 0, none⟩ (.agg (evArr typ id title kind status (.slice x n c) (.slice x' n' c')))).run Try.prog wx = .ok () (wx.setCells g 0 (evArr typ id title kind status (.slice x n c) (.slice x' n' c')).toList) :=
  run_storeVar_mid wx g 0 41 _ ht info41 (by simp [evArr, Value.oneCell'])

theorem meet_ev {W0 X : World} {g b : Nat} {Z : Array Value} {typ id : ByteArray} {title kind status : Option Addr} {vl vp : Value} {la pa : Option Addr} {ls : List Lc} {ts : List Tc} {x : Option Addr} {n c : Nat} {x' : Option Addr} {n' c' : Nat}
    (hx : X.heap[g]? = some (.cells Z 41 (0, 0))) (hz : Z.size = 34) (hg : W0.heap.size ≤ g) (hL : LV X 51 la (.slice x n c) ls) (hE : EV X pa (.slice x' n' c') ts) (hK : Kp [] W0 X) (hB : BoxAt W0 b id title kind status vl vp) :
    (X.setCells g 0 (evArr typ id em em em (.slice x n c) (.slice x' n' c')).toList).heap[g]? = some (.cells (evArr typ id em em em (.slice x n c) (.slice x' n' c')) 41 (0, 0)) ∧ W0.heap.size ≤ g ∧ LV (X.setCells g 0 (evArr typ id em em em (.slice x n c) (.slice x' n' c')).toList) 51 la (.slice x n c) ls ∧
      EV (X.setCells g 0 (evArr typ id em em em (.slice x n c) (.slice x' n' c')).toList) pa (.slice x' n' c') ts ∧ BoxAt (X.setCells g 0 (evArr typ id em em em (.slice x n c) (.slice x' n' c')).toList) b id title kind status vl vp ∧ Kp [] W0 (X.setCells g 0 (evArr typ id em em em (.slice x n c) (.slice x' n' c')).toList) := by
  have k : Kp [g] X (X.setCells g 0 (evArr typ id em em em (.slice x n c) (.slice x' n' c')).toList) := by rw [setCells_row]; exact setRow_kp _ _ _ _ _ _ (Kp.refl _ _) (Or.inl (by simp))
  have k0 : Kp [] W0 (X.setCells g 0 (evArr typ id em em em (.slice x n c) (.slice x' n' c')).toList) := by rw [setCells_row]; exact setRow_kp _ _ _ _ _ _ hK (Or.inr hg)
  exact ⟨setCells_all hx _ hz, hg, hL.put hx k (by decide), hE.put hx k (by decide) (by decide), hB.kp k0, k0⟩

theorem load41 {wx : World} {g : Nat} {cs : Array Value} (h : wx.heap[g]? = some (.cells cs 41 (0, 0))) (hz : cs.size = 34) :
    (loadVar 41 ⟨g, 0, none⟩).run Try.prog wx = .ok (.agg cs) wx := by
  have := run_loadVar_mid (P := Try.prog) wx g 0 41 cs.toList _ (fun j v hv => by rw [cell_at h]; simpa using hv) Try.underlying41 rfl (by rw [Array.length_toList, hz]; exact info41)
  simpa using this
theorem load9 (w : World) (a : Addr) (h : (w.cell? a).isSome = true) : (loadVar 9 a).run Try.prog w = .ok ((w.cell? a).getD undef) w := by
  obtain ⟨v, hv⟩ := Option.isSome_iff_exists.1 h
  simp [go_sem, hv]
theorem load22 (w : World) (a : Addr) (h : (w.cell? a).isSome = true) : (loadVar 22 a).run Try.prog w = .ok ((w.cell? a).getD undef) w := by
  obtain ⟨v, hv⟩ := Option.isSome_iff_exists.1 h
  simp [go_sem, hv]
theorem load43 (w : World) (a : Addr) (h : (w.cell? a).isSome = true) : (loadVar 43 a).run Try.prog w = .ok ((w.cell? a).getD undef) w := by
  obtain ⟨v, hv⟩ := Option.isSome_iff_exists.1 h
  simp [go_sem, hv]
theorem load44 (w : World) (a : Addr) (h : (w.cell? a).isSome = true) : (loadVar 44 a).run Try.prog w = .ok ((w.cell? a).getD undef) w := by
  obtain ⟨v, hv⟩ := Option.isSome_iff_exists.1 h
  simp [go_sem, hv]
theorem store9 (w : World) (a : Addr) (s : ByteArray) (h : (w.cell? a).isSome = true) (hf : w.frozen? a = false) : (storeVar 9 a (.string s)).run Try.prog w = .ok () (w.setCell a (.string s)) := by
  obtain ⟨v, hv⟩ := Option.isSome_iff_exists.1 h
  simp [go_sem, hv, hf]


/-- The three strings behind pointers, stored into the event at g. -/
def setS (p : Option Addr) (w : World) (a : Addr) (s : ByteArray) : World :=
  match p with
  | none => w
  | some _ => w.setCell a (.string s)
theorem setS_ev {w : World} {g : Nat} {cs : Array Value} {p : Option Addr} {s : ByteArray} {o : Nat} (h : w.heap[g]? = some (.cells cs 41 (0, 0))) (hs : p = none → cs.setIfInBounds o (.string s) = cs) :
    (setS p w ⟨g, o, none⟩ s).heap[g]? = some (.cells (cs.setIfInBounds o (.string s)) 41 (0, 0)) := by
  cases p with
  | none => rw [hs rfl]; exact h
  | some a => exact heap_setCell_at h _ _
theorem setS_kp {X : List Nat} {a w : World} {p : Option Addr} {s : ByteArray} {q : Addr} (k : Kp X a w) (h : q.block ∈ X ∨ a.heap.size ≤ q.block) : Kp X a (setS p w q s) := by
  cases p with
  | none => exact k
  | some _ => exact k.setCell h _

end Go.Proofs.Qxb6613960a
