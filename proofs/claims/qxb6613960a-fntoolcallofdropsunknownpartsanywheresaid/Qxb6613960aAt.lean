/-
  The slices of a tool call, nil or not: one word for both.
-/
import Derived.Test.Qxb6613960aAs
import Derived.Test.Qxb6613960aTd
set_option linter.unusedVariables false
set_option linter.unusedSimpArgs false
namespace Go.Proofs.Qxb6613960a
open Go.RowKit

/-- A row of locations, nil where la is. -/
def LV (w : World) (t : TypeId) (la : Option Addr) (v : Value) (ls : List Lc) : Prop :=
  match la with
  | none => v = .slice none 0 0
  | some _ => ∃ q, v = .slice (some ⟨q, 0, none⟩) ls.length ls.length ∧ LRow w t q ls.length ls ls.length
def PV (w : World) (pa : Option Addr) (v : Value) (ps : List Pt) : Prop :=
  match pa with
  | none => v = .slice none 0 0
  | some _ => ∃ q, v = .slice (some ⟨q, 0, none⟩) ps.length ps.length ∧ ARow w q ps.length ps ps.length
/-- A row of parts as the event log has it. -/
def TRow (w : World) (g : Nat) (ts : List Tc) : Prop :=
  ∃ cur : Array Value, w.heap[g]? = some (.cells cur 58 (0, 0)) ∧ ∀ (k : Nat) (t : Tc), ts[k]? = some t → ∃ bp, BlAt w bp t.blk ∧ ∀ (j : Nat) (v : Value), (t.cells bp)[j]? = some v → cur[k * 7 + j]? = some v
def EV (w : World) (pa : Option Addr) (v : Value) (ts : List Tc) : Prop :=
  match pa with
  | none => v = .slice none 0 0
  | some _ => ∃ g c, v = .slice (some ⟨g, 0, none⟩) ts.length c ∧ TRow w g ts

theorem LV.kp {w w' : World} {t : TypeId} {la : Option Addr} {v : Value} {ls : List Lc} (h : LV w t la v ls) (k : Kp [] w w') : LV w' t la v ls := by
  cases la with
  | none => exact h
  | some a => obtain ⟨q, e, r⟩ := h; exact ⟨q, e, r.kp k (by simp)⟩
theorem PV.kp {w w' : World} {pa : Option Addr} {v : Value} {ps : List Pt} (h : PV w pa v ps) (k : Kp [] w w') : PV w' pa v ps := by
  cases pa with
  | none => exact h
  | some a => obtain ⟨q, e, r⟩ := h; exact ⟨q, e, r.kp k⟩
theorem TRow.kp {w w' : World} {g : Nat} {ts : List Tc} (h : TRow w g ts) (k : Kp [] w w') : TRow w' g ts := by
  obtain ⟨cur, h1, h2⟩ := h
  refine ⟨cur, k.at h1 (by simp), fun i t ht => ?_⟩
  obtain ⟨bp, a, b⟩ := h2 i t ht
  exact ⟨bp, a.kp k, b⟩
theorem EV.kp {w w' : World} {pa : Option Addr} {v : Value} {ts : List Tc} (h : EV w pa v ts) (k : Kp [] w w') : EV w' pa v ts := by
  cases pa with
  | none => exact h
  | some a => obtain ⟨q, c, e, r⟩ := h; exact ⟨q, c, e, r.kp k⟩
theorem LV.slice {w : World} {t : TypeId} {la : Option Addr} {v : Value} {ls : List Lc} (h : LV w t la v ls) : ∃ x n c, v = .slice x n c := by
  cases la with
  | none => exact ⟨_, _, _, h⟩
  | some a => obtain ⟨q, e, r⟩ := h; exact ⟨_, _, _, e⟩
theorem PV.slice {w : World} {pa : Option Addr} {v : Value} {ps : List Pt} (h : PV w pa v ps) : ∃ x n c, v = .slice x n c := by
  cases pa with
  | none => exact ⟨_, _, _, h⟩
  | some a => obtain ⟨q, e, r⟩ := h; exact ⟨_, _, _, e⟩
theorem EV.slice {w : World} {pa : Option Addr} {v : Value} {ts : List Tc} (h : EV w pa v ts) : ∃ x n c, v = .slice x n c := by
  cases pa with
  | none => exact ⟨_, _, _, h⟩
  | some a => obtain ⟨q, c, e, r⟩ := h; exact ⟨_, _, _, e⟩
theorem LSl.kp {w w' : World} {a : Option Addr} {ls : List Lc} (h : LSl w a ls) (k : Kp [] w w') : LSl w' a ls := by
  intro i l hl
  obtain ⟨b, o, e, c, d⟩ := h i l hl
  exact ⟨b, o, e, k.cell c (by simp), k.cell d (by simp)⟩
theorem ResIn.kp {w w' : World} {p : Option Addr} {r : Option Rs} (h : ResIn w p r) (k : Kp [] w w') : ResIn w' p r := by
  cases r with
  | none => exact h
  | some r => obtain ⟨b, o, e, h1, h2, h3⟩ := h; exact ⟨b, o, e, k.cell h1 (by simp), k.cell h2 (by simp), k.cell h3 (by simp)⟩
theorem PSl.kp {w w' : World} {a : Option Addr} {ps : List Pt} (h : PSl w a ps) (k : Kp [] w w') : PSl w' a ps := by
  intro i p hp
  obtain ⟨b, o, e, rp, c, d⟩ := h i p hp
  exact ⟨b, o, e, rp, c.kp k, fun j v hv => k.cell (d j v hv) (by simp)⟩

theorem tflat_at : ∀ (out : List (Tc × Option Addr)) (k j : Nat) (x : Tc × Option Addr) (v : Value), out[k]? = some x → (x.1.cells x.2)[j]? = some v → (tflat out)[k * 7 + j]? = some v
  | [], _, _, _, _, h, _ => by simp at h
  | y :: out, 0, j, x, v, h, hv => by
    simp at h; subst h
    have hj := (List.getElem?_eq_some_iff.1 hv).1
    rw [show tflat (y :: out) = y.1.cells y.2 ++ tflat out from by simp [tflat], Nat.zero_mul, Nat.zero_add, List.getElem?_append_left hj]
    exact hv
  | y :: out, k + 1, j, x, v, h, hv => by
    simp at h
    have := tflat_at out k j x v h hv
    rw [show tflat (y :: out) = y.1.cells y.2 ++ tflat out from by simp [tflat], List.getElem?_append_right (by simp [Tc.cells]; omega), show (k + 1) * 7 + j - (y.1.cells y.2).length = k * 7 + j from by simp [Tc.cells]; omega]
    exact this

theorem acpLocs_all (w0 : World) (ls : List Lc) (la : Option Addr) (cap : Nat) (hl : ls.length ≤ 65537) (hA : LSl w0 la ls) (hn : la = none → ls = [] ∧ cap = 0) (w : World) (k : Kp [] w0 w) :
    Calls Try.prog 25 #[.slice la ls.length cap] w fun e w' => ∃ v, e = .returned v ∧ LV w' 110 la v ls ∧ Kp [] w0 w' := by
  cases la with
  | none =>
    obtain ⟨rfl, rfl⟩ := hn rfl
    exact (acpLocs_nil w).mono (by rintro e w' ⟨rfl, rfl⟩; exact ⟨_, rfl, rfl, k⟩)
  | some a => exact (acpLocs_any ls a cap w hl (hA.kp k)).mono (by rintro e w' ⟨g, rfl, h, _, k2⟩; exact ⟨_, rfl, ⟨g, rfl, h⟩, k.trans k2⟩)
theorem acpParts_all (w0 : World) (ps : List Pt) (pa : Option Addr) (cap : Nat) (hl : ps.length ≤ 65537) (hA : PSl w0 pa ps) (hn : pa = none → ps = [] ∧ cap = 0) (w : World) (k : Kp [] w0 w) :
    Calls Try.prog 26 #[.slice pa ps.length cap] w fun e w' => ∃ v, e = .returned v ∧ PV w' pa v ps ∧ Kp [] w0 w' := by
  cases pa with
  | none =>
    obtain ⟨rfl, rfl⟩ := hn rfl
    exact (acpParts_nil w).mono (by rintro e w' ⟨rfl, rfl⟩; exact ⟨_, rfl, rfl, k⟩)
  | some a => exact (acpParts_any ps a cap w hl (hA.kp k)).mono (by rintro e w' ⟨g, rfl, h, _, k2⟩; exact ⟨_, rfl, ⟨g, rfl, h⟩, k.trans k2⟩)
theorem locationsOf_all (w0 : World) (ls : List Lc) (la : Option Addr) (v : Value) (hl : ls.length ≤ 65537) (hA : LV w0 110 la v ls) (w : World) (k : Kp [] w0 w) :
    Calls Try.prog 30 #[v] w fun e w' => ∃ v', e = .returned v' ∧ LV w' 51 la v' ls ∧ Kp [] w0 w' := by
  cases la with
  | none =>
    cases hA
    exact (locationsOf_nil w).mono (by rintro e w' ⟨rfl, rfl⟩; exact ⟨_, rfl, rfl, k⟩)
  | some a =>
    obtain ⟨q, rfl, hA⟩ := hA
    exact (locationsOf_any ls q _ w hl (hA.kp k (by simp))).mono (by rintro e w' ⟨g, rfl, h, _, k2⟩; exact ⟨_, rfl, ⟨g, rfl, h⟩, k.trans k2⟩)
theorem toolContent_all (w0 : World) (ps : List Pt) (pa : Option Addr) (v : Value) (hl : ps.length ≤ 65537) (hA : PV w0 pa v ps) (w : World) (k : Kp [] w0 w) :
    Calls Try.prog 31 #[v] w fun e w' => ∃ v', e = .returned v' ∧ EV w' pa v' (ps.filterMap Pt.tc) ∧ Kp [] w0 w' := by
  cases pa with
  | none =>
    cases hA
    exact (toolContent_nil w).mono (by rintro e w' ⟨rfl, rfl⟩; exact ⟨_, rfl, rfl, k⟩)
  | some a =>
    obtain ⟨q, rfl, hA⟩ := hA
    refine (toolContent_any ps q _ w hl (hA.kp k).asl).mono ?_
    rintro e w' ⟨out, g, c, ho, hb, rfl, hown, k2⟩
    have hlen : (ps.filterMap Pt.tc).length = out.length := by rw [← ho]; simp
    rcases hown.2 with ⟨h1, h2⟩ | ⟨g', cap', cur, h1, _, hh, _, _, _, htk⟩
    · cases h1
    cases h1
    refine ⟨_, rfl, ⟨g, c, by rw [hlen], cur, hh, fun i t ht => ?_⟩, k.trans k2⟩
    rw [← ho] at ht
    simp only [List.getElem?_map, Option.map_eq_some_iff] at ht
    obtain ⟨x, hx, rfl⟩ := ht
    refine ⟨x.2, hb x (List.mem_of_getElem? hx), fun j v hv => ?_⟩
    have hf := tflat_at out i j x v hx hv
    rw [← htk, List.getElem?_take] at hf
    split at hf
    · simpa using hf
    · cases hf

/- Behind a write into a block of another type. -/
theorem at_put {w w' : World} {b : Nat} {cs : Array Value} {T : TypeId} (hb : w.heap[b]? = some (.cells cs T (0, 0))) (k : Kp [b] w w') {q : Nat} {cur : Array Value} {t : TypeId} (hq : w.heap[q]? = some (.cells cur t (0, 0))) (hT : t ≠ T) : w'.heap[q]? = some (.cells cur t (0, 0)) := by
  refine k.at hq ?_
  simp
  rintro rfl
  rw [hb] at hq
  simp at hq
  exact hT hq.2.symm
theorem LV.put {w w' : World} {b : Nat} {cs : Array Value} {T : TypeId} (hb : w.heap[b]? = some (.cells cs T (0, 0))) (k : Kp [b] w w') {t : TypeId} {la : Option Addr} {v : Value} {ls : List Lc} (h : LV w t la v ls) (hT : t ≠ T) : LV w' t la v ls := by
  cases la with
  | none => exact h
  | some a => obtain ⟨q, e, cur, h1, r⟩ := h; exact ⟨q, e, cur, at_put hb k h1 hT, r⟩
theorem ResAt.put {w w' : World} {b : Nat} {cs : Array Value} {T : TypeId} (hb : w.heap[b]? = some (.cells cs T (0, 0))) (k : Kp [b] w w') {p : Option Addr} {r : Option Rs} (h : ResAt w p r) (hT : (113 : TypeId) ≠ T) : ResAt w' p r := by
  cases r with
  | none => exact h
  | some r => obtain ⟨b, e, h1⟩ := h; exact ⟨b, e, at_put hb k h1 hT⟩
theorem BlAt.put {w w' : World} {b : Nat} {cs : Array Value} {T : TypeId} (hb : w.heap[b]? = some (.cells cs T (0, 0))) (k : Kp [b] w w') {p : Option Addr} {r : Option Bl} (h : BlAt w p r) (hT : (81 : TypeId) ≠ T) : BlAt w' p r := by
  cases r with
  | none => exact h
  | some r => obtain ⟨b, e, h1⟩ := h; exact ⟨b, e, at_put hb k h1 hT⟩
theorem PV.put {w w' : World} {b : Nat} {cs : Array Value} {T : TypeId} (hb : w.heap[b]? = some (.cells cs T (0, 0))) (k : Kp [b] w w') {pa : Option Addr} {v : Value} {ps : List Pt} (h : PV w pa v ps) (hT : (117 : TypeId) ≠ T) (hT2 : (113 : TypeId) ≠ T) : PV w' pa v ps := by
  cases pa with
  | none => exact h
  | some a =>
    obtain ⟨q, e, cur, h1, h2, h3⟩ := h
    exact ⟨q, e, cur, at_put hb k h1 hT, h2, fun i p hi hp => by obtain ⟨rp, x, y⟩ := h3 i p hi hp; exact ⟨rp, x.put hb k hT2, y⟩⟩
theorem EV.put {w w' : World} {b : Nat} {cs : Array Value} {T : TypeId} (hb : w.heap[b]? = some (.cells cs T (0, 0))) (k : Kp [b] w w') {pa : Option Addr} {v : Value} {ts : List Tc} (h : EV w pa v ts) (hT : (58 : TypeId) ≠ T) (hT2 : (81 : TypeId) ≠ T) : EV w' pa v ts := by
  cases pa with
  | none => exact h
  | some a =>
    obtain ⟨q, c, e, cur, h1, h2⟩ := h
    exact ⟨q, c, e, cur, at_put hb k h1 hT, fun i t ht => by obtain ⟨bp, x, y⟩ := h2 i t ht; exact ⟨bp, x.put hb k hT2, y⟩⟩

end Go.Proofs.Qxb6613960a
