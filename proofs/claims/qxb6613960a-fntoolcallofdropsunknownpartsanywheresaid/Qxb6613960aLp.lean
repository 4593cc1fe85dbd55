/-
  What the laws' walks read: events, their rows; loads and slices as equations.
-/
import Derived.Test.Qxb6613960aSb
import Derived.Test.Qxb6613960aSc
import Derived.Test.Qxb6613960aTw
set_option linter.unusedVariables false
set_option linter.unusedSimpArgs false
namespace Go.Proofs.Qxb6613960a
open Go.RowKit

theorem load33 (w : World) (a : Addr) (h : (w.cell? a).isSome = true) : (loadVar 33 a).run Try.prog w = .ok ((w.cell? a).getD undef) w := by
  obtain ⟨v, hv⟩ := Option.isSome_iff_exists.1 h
  simp [go_sem, hv]
theorem load34 (w : World) (a : Addr) (h : (w.cell? a).isSome = true) : (loadVar 34 a).run Try.prog w = .ok ((w.cell? a).getD undef) w := by
  obtain ⟨v, hv⟩ := Option.isSome_iff_exists.1 h
  simp [go_sem, hv]
theorem load49 (w : World) (a : Addr) (h : (w.cell? a).isSome = true) : (loadVar 49 a).run Try.prog w = .ok ((w.cell? a).getD undef) w := by
  obtain ⟨v, hv⟩ := Option.isSome_iff_exists.1 h
  simp [go_sem, hv]
theorem info51s : (Try.prog.info? 51).map (·.size) = some 2 := by kernel_rfl
theorem info58s : (Try.prog.info? 58).map (·.size) = some 7 := by kernel_rfl
theorem info63s : (Try.prog.info? 63).map (·.size) = some 11 := by kernel_rfl
theorem load51 {w : World} {b o : Nat} {l : Lc} (h0 : w.cell? ⟨b, o, none⟩ = some (.string l.path)) (h1 : w.cell? ⟨b, o + 1, none⟩ = some (.pointer l.line)) :
    (loadVar 51 ⟨b, o, none⟩).run Try.prog w = .ok (.agg #[.string l.path, .pointer l.line]) w := by
  refine run_loadVar_mid (P := Try.prog) w b o 51 [.string l.path, .pointer l.line] _ (fun j v hv => ?_) Try.underlying51 rfl info51s
  match j, hv with
  | 0, hv => simp at hv; rw [← hv]; exact h0
  | 1, hv => simp at hv; rw [← hv]; exact h1
theorem load58 {w : World} {b o : Nat} {t : Tc} {bp : Option Addr} (h : ∀ (j : Nat) (v : Value), (t.cells bp)[j]? = some v → w.cell? ⟨b, o + j, none⟩ = some v) :
    (loadVar 58 ⟨b, o, none⟩).run Try.prog w = .ok (.agg (t.cells bp).toArray) w :=
  run_loadVar_mid (P := Try.prog) w b o 58 (t.cells bp) _ h Try.underlying58 rfl info58s
theorem load63 {w : World} {b o : Nat} {p : Pt} {rp : Option Addr} (h : ∀ (j : Nat) (v : Value), (p.cells rp)[j]? = some v → w.cell? ⟨b, o + j, none⟩ = some v) :
    (loadVar 63 ⟨b, o, none⟩).run Try.prog w = .ok (.agg (p.cells rp).toArray) w :=
  run_loadVar_mid (P := Try.prog) w b o 63 (p.cells rp) _ h Try.underlying63 rfl info63s

/-- The locations of an event: the slice's three words, and its cells. -/
structure LocsAt (w : World) (la x : Option Addr) (n : Nat) (ls : List Lc) : Prop where
  len : n = ls.length
  isNone : x.isNone = la.isNone
  cells : ∀ (k : Nat) (l : Lc), ls[k]? = some l → ∃ q, x = some ⟨q, 0, none⟩ ∧ w.cell? ⟨q, k * 2, none⟩ = some (.string l.path) ∧ w.cell? ⟨q, k * 2 + 1, none⟩ = some (.pointer l.line)
structure PartsAt (w : World) (pa x : Option Addr) (n : Nat) (ts : List Tc) : Prop where
  len : n = ts.length
  isNone : x.isNone = pa.isNone
  cells : ∀ (k : Nat) (t : Tc), ts[k]? = some t → ∃ q bp, x = some ⟨q, 0, none⟩ ∧ BlAt w bp t.blk ∧ ∀ (j : Nat) (v : Value), (t.cells bp)[j]? = some v → w.cell? ⟨q, k * 7 + j, none⟩ = some v
theorem LocsAt.kp {w w' : World} {la x : Option Addr} {n : Nat} {ls : List Lc} (h : LocsAt w la x n ls) (k : Kp [] w w') : LocsAt w' la x n ls :=
  ⟨h.len, h.isNone, fun i l hl => by obtain ⟨q, e, a, b⟩ := h.cells i l hl; exact ⟨q, e, k.cell a (by simp), k.cell b (by simp)⟩⟩
theorem PartsAt.kp {w w' : World} {la x : Option Addr} {n : Nat} {ts : List Tc} (h : PartsAt w la x n ts) (k : Kp [] w w') : PartsAt w' la x n ts :=
  ⟨h.len, h.isNone, fun i l hl => by obtain ⟨q, bp, e, a, b⟩ := h.cells i l hl; exact ⟨q, bp, e, a.kp k, fun j v hv => k.cell (b j v hv) (by simp)⟩⟩
theorem LV.locs {w : World} {la x : Option Addr} {n c : Nat} {ls : List Lc} (h : LV w 51 la (.slice x n c) ls) (hn : la = none → ls = []) : LocsAt w la x n ls := by
  cases la with
  | none =>
    cases h
    obtain rfl := hn rfl
    exact ⟨rfl, rfl, fun k l hl => by simp at hl⟩
  | some a =>
    obtain ⟨q, e, cur, h1, h2, h3⟩ := h
    cases e
    refine ⟨rfl, rfl, fun k l hl => ⟨q, rfl, ?_⟩⟩
    have := h3 k l (List.getElem?_eq_some_iff.1 hl).1 hl
    rw [cell_at h1, cell_at h1]
    exact this
theorem EV.parts {w : World} {pa x : Option Addr} {n c : Nat} {ts : List Tc} (h : EV w pa (.slice x n c) ts) (hn : pa = none → ts = []) : PartsAt w pa x n ts := by
  cases pa with
  | none =>
    cases h
    obtain rfl := hn rfl
    exact ⟨rfl, rfl, fun k l hl => by simp at hl⟩
  | some a =>
    obtain ⟨q, c', e, cur, h1, h2⟩ := h
    cases e
    refine ⟨rfl, rfl, fun k l hl => ?_⟩
    obtain ⟨bp, h3, h4⟩ := h2 k l hl
    exact ⟨q, bp, rfl, h3, fun j v hv => by rw [cell_at h1]; exact h4 j v hv⟩

/-- An event at block g. -/
structure EvAt (w : World) (g : Nat) (typ id ti ki st : ByteArray) (la pa : Option Addr) (x : Option Addr) (n c : Nat) (x' : Option Addr) (n' c' : Nat) (ls : List Lc) (ts : List Tc) : Prop where
  at_ : w.heap[g]? = some (.cells (evArr typ id ti ki st (.slice x n c) (.slice x' n' c')) 41 (0, 0))
  locs : LocsAt w la x n ls
  parts : PartsAt w pa x' n' ts
theorem EvAt.kp {w w' : World} {g : Nat} {typ id ti ki st : ByteArray} {la pa : Option Addr} {x : Option Addr} {n c : Nat} {x' : Option Addr} {n' c' : Nat} {ls : List Lc} {ts : List Tc} (h : EvAt w g typ id ti ki st la pa x n c x' n' c' ls ts) (k : Kp [] w w') :
    EvAt w' g typ id ti ki st la pa x n c x' n' c' ls ts := ⟨k.at h.at_ (by simp), h.locs.kp k, h.parts.kp k⟩
theorem EvAt.c24 {w : World} {g : Nat} {typ id ti ki st : ByteArray} {la pa : Option Addr} {x : Option Addr} {n c : Nat} {x' : Option Addr} {n' c' : Nat} {ls : List Lc} {ts : List Tc} (h : EvAt w g typ id ti ki st la pa x n c x' n' c' ls ts) :
    w.cell? ⟨g, 24, none⟩ = some (.slice x n c) := by rw [cell_at h.at_]; rfl
theorem EvAt.c25 {w : World} {g : Nat} {typ id ti ki st : ByteArray} {la pa : Option Addr} {x : Option Addr} {n c : Nat} {x' : Option Addr} {n' c' : Nat} {ls : List Lc} {ts : List Tc} (h : EvAt w g typ id ti ki st la pa x n c x' n' c' ls ts) :
    w.cell? ⟨g, 25, none⟩ = some (.slice x' n' c') := by rw [cell_at h.at_]; rfl

/-- The event is stored: behind it. -/
theorem stored {W0 X : World} {g : Nat} {Z : Array Value} {typ id ti ki st : ByteArray} {la pa : Option Addr} {ls : List Lc} {ts : List Tc} {x : Option Addr} {n c : Nat} {x' : Option Addr} {n' c' : Nat}
    (hx : X.heap[g]? = some (.cells Z 41 (0, 0))) (hz : Z.size = 34) (hg : W0.heap.size ≤ g) (hL : LV X 51 la (.slice x n c) ls) (hE : EV X pa (.slice x' n' c') ts) (hln : la = none → ls = []) (hpn : pa = none → ts = []) (hK : Kp [] W0 X) :
    EvAt (X.setCells g 0 (evArr typ id ti ki st (.slice x n c) (.slice x' n' c')).toList) g typ id ti ki st la pa x n c x' n' c' ls ts ∧ Kp [] W0 (X.setCells g 0 (evArr typ id ti ki st (.slice x n c) (.slice x' n' c')).toList) := by
  have k : Kp [g] X (X.setCells g 0 (evArr typ id ti ki st (.slice x n c) (.slice x' n' c')).toList) := by rw [setCells_row]; exact setRow_kp _ _ _ _ _ _ (Kp.refl _ _) (Or.inl (by simp))
  have k0 : Kp [] W0 (X.setCells g 0 (evArr typ id ti ki st (.slice x n c) (.slice x' n' c')).toList) := by rw [setCells_row]; exact setRow_kp _ _ _ _ _ _ hK (Or.inr hg)
  exact ⟨⟨setCells_all hx _ hz, (hL.put hx k (by decide)).locs hln, (hE.put hx k (by decide) (by decide)).parts hpn⟩, k0⟩

/-- The pair of calls that the laws make. -/
theorem call9 (W0 : World) (id : ByteArray) (title kind status : Option Addr) (ls : List Lc) (la : Option Addr) (lc : Nat) (ps : List Pt) (pa : Option Addr) (pc : Nat)
    (hll : ls.length ≤ 65537) (hL : LSl W0 la ls) (hln : la = none → ls = [] ∧ lc = 0) (hpl : ps.length ≤ 65537) (hP : PSl W0 pa ps) (hpn : pa = none → ps = [] ∧ pc = 0) (w : World) (k : Kp [] W0 w) :
    Calls Try.prog 9 #[.string id, .pointer title, .pointer kind, .pointer status, .slice la ls.length lc, .slice pa ps.length pc] w fun e w' =>
      ∃ vl vp, e = .returned (.agg #[.string id, .pointer title, .pointer kind, .pointer status, vl, vp]) ∧ LV w' 110 la vl ls ∧ PV w' pa vp ps ∧ Kp [] w w' ∧ Kp [] W0 w' :=
  (toolCall_all id title kind status ls la lc ps pa pc w hll (hL.kp k) hln hpl (hP.kp k) hpn).mono (by
    rintro e w' ⟨vl, vp, rfl, h1, h2, k2⟩
    exact ⟨vl, vp, rfl, h1, h2, k2, k.trans k2⟩)
theorem call8 (W0 : World) (typ id ti ki st : ByteArray) (title kind status : Option Addr) (ls : List Lc) (la : Option Addr) (ps : List Pt) (pa : Option Addr)
    (hll : ls.length ≤ 65537) (hpl : ps.length ≤ 65537) (hti : SP W0 title ti) (hki : SP W0 kind ki) (hsta : SP W0 status st) (w1 w : World) (vl vp : Value) (hL : LV w1 110 la vl ls) (hP : PV w1 pa vp ps) (k1 : Kp [] w1 w) (k : Kp [] W0 w) :
    Calls Try.prog 8 #[.string typ, .agg #[.string id, .pointer title, .pointer kind, .pointer status, vl, vp]] w fun e w' =>
      ∃ x n c x' n' c', e = .returned (.agg (evArr typ id ti ki st (.slice x n c) (.slice x' n' c'))) ∧ LV w' 51 la (.slice x n c) ls ∧ EV w' pa (.slice x' n' c') (ps.filterMap Pt.tc) ∧ Kp [] w w' ∧ Kp [] W0 w' :=
  (zzToolCallOf_all typ id title kind status ls la ps pa vl vp w hll (hL.kp k1) hpl (hP.kp k1) ti ki st (hti.kp k) (hki.kp k) (hsta.kp k)).mono (by
    rintro e w' ⟨x, n, c, x', n', c', rfl, h1, h2, k2⟩
    exact ⟨x, n, c, x', n', c', rfl, h1, h2, k2, k.trans k2⟩)

/- The slices of a slice. -/
theorem slice_h (t e : TypeId) (s : Nat) (ht : Try.prog.underlying t = some (.slice e)) (hs : (Try.prog.info? e).map (·.size) = some s) (a : Option Addr) (n cap h : Nat) (hb : h ≤ cap) (w : World) :
    (Instr.slice t (.slice a n cap) none (some (.int .i64 (h : Int))) none).run Try.prog w = .ok (.slice a h cap) w := by
  have ht' : Try.prog.underlying t = some (.slice (Try.prog.elem t)) := by simp [Program.elem, ht]
  have he : Try.prog.elem t = e := by simp [Program.elem, ht]
  obtain ⟨j, hj⟩ := info_some hs
  rw [run_slice_h w t a n cap ht' .i64 h (by omega) (by omega), he]
  simp [sizeOf, typeInfo, hj, sliced]
  cases a <;> simp [Addr.add]
theorem slice_l (t e : TypeId) (s : Nat) (ht : Try.prog.underlying t = some (.slice e)) (hs : (Try.prog.info? e).map (·.size) = some s) (a : Option Addr) (n cap l : Nat) (hb : l ≤ n) (w : World) :
    (Instr.slice t (.slice a n cap) (some (.int .i64 (l : Int))) none none).run Try.prog w = .ok (.slice (if cap = l then a else a.map (·.add (l * s))) (n - l) (cap - l)) w := by
  have ht' : Try.prog.underlying t = some (.slice (Try.prog.elem t)) := by simp [Program.elem, ht]
  have he : Try.prog.elem t = e := by simp [Program.elem, ht]
  obtain ⟨j, hj⟩ := info_some hs
  have hsz : j.size = s := by rw [hj] at hs; simpa using hs
  rw [run_slice_l w t a n cap ht' .i64 l (by omega) (by omega), he]
  simp [sizeOf, typeInfo, hj, sliced, hsz]

theorem wrap_sum (a b : Nat) (ha : a ≤ 65537) (hb : b ≤ 65537) : IntKind.i64.wrap ((a : Int) + (b : Int)) = (a : Int) + (b : Int) := by
  rw [IntKind.wrap_i64]; omega

theorem wrap_one (a : Nat) (ha : a ≤ 65537) : IntKind.i64.wrap (a : Int) = (a : Int) := by
  rw [IntKind.wrap_i64]; omega

end Go.Proofs.Qxb6613960a
