/-
  The arguments of the laws, as the walks are told of them.
-/
import Derived.Test.Qxb6613960aRows
import Derived.Test.Qxb6613960aTw
import Derived.ProofKit
import Derived.Deep.Slices
import Derived.Deep.Strs
import Derived.Lib.SmallJoins
set_option linter.unusedVariables false
set_option linter.unusedSimpArgs false
namespace Go.Proofs.Qxb6613960a
open Go.ChangeShapes Go.WideShapes Go.ChangeAt Go.RowKit Go.Deep Go.Joins

theorem Try.own : ownKnob Try.prog.godebug = none := by kernel_rfl
theorem Try.laidOut : laidOutB Try.prog = true := by kernel_rfl
theorem Try.cells9 : Try.prog.cellsOf 9 = 1 := by kernel_rfl
theorem Try.cells22 : Try.prog.cellsOf 22 = 1 := by kernel_rfl
theorem Try.cells49 : Try.prog.cellsOf 49 = 1 := by kernel_rfl
theorem Try.cells59 : Try.prog.cellsOf 59 = 1 := by kernel_rfl
theorem Try.cells61 : Try.prog.cellsOf 61 = 6 := by kernel_rfl
theorem Try.cells63 : Try.prog.cellsOf 63 = 11 := by kernel_rfl
theorem Try.cells53 : Try.prog.cellsOf 53 = 2 := by kernel_rfl
theorem Try.cells75 : Try.prog.cellsOf 75 = 3 := by kernel_rfl

/-- All arguments read as they did: nothing that was there has turned. -/
theorem below_trodAll {H : Type} {enc : TypeId × Value → H} {P : Program} (hl : laidOutB P = true) {W W' : World} (hb : Below W.heap.size W W') :
    ∀ {ts : List TypeId} {vs : List Value} {ds : List (DataW H)} {ps : List MemPlace}, (∀ t ∈ ts, P.readableRec t = true ∧ t < P.types.size) →
      DataW.TrodAll enc P W 0 (fun _ => true) true ts vs ds ps → (∀ x ∈ ps, x.block < W.heap.size) → DataW.TrodAll enc P W' 0 (fun b => decide (b < W.heap.size)) true ts vs ds ps := by
  intro ts
  induction ts with
  | nil =>
    intro vs ds ps _ h _
    obtain ⟨rfl, rfl, rfl⟩ := trodAll_nil h
    exact trodAll_mk0
  | cons t ts ih =>
    intro vs ds ps ht h hlt
    obtain ⟨v, vs', d, ds', p, q, rfl, rfl, rfl, h0, h1⟩ := trodAll_cons h
    exact ⟨_, _, Below.trod hl (ht t (by simp)).1 (ht t (by simp)).2 h0 hb (fun x hx => hlt x (by simp [hx])), ih (fun t' ht' => ht t' (by simp [ht'])) h1 (fun x hx => hlt x (by simp [hx])), rfl⟩

theorem mapM_cells {w : World} {a : Addr} : ∀ (l : List Nat) (cs : List Value), l.mapM (fun j => w.cell? (a.add j)) = some cs → cs.length = l.length ∧ ∀ (i j : Nat), l[i]? = some j → w.cell? (a.add j) = cs[i]? := by
  intro l
  induction l with
  | nil => intro cs h; simp at h; subst h; exact ⟨rfl, fun i j h => by simp at h⟩
  | cons x l ih =>
    intro cs h
    cases hx : w.cell? (a.add x) with
    | none => simp [List.mapM_cons, hx] at h
    | some c =>
      cases hr : l.mapM (fun j => w.cell? (a.add j)) with
      | none => simp [List.mapM_cons, hx, hr] at h
      | some r =>
        simp [List.mapM_cons, hx, hr] at h
        subst h
        obtain ⟨h1, h2⟩ := ih r hr
        refine ⟨by simp [h1], fun i j hij => ?_⟩
        cases i with
        | zero => simp at hij; subst hij; simpa using hx
        | succ i => simp at hij; simpa using h2 i j hij
theorem cells_at {w : World} {a : Addr} {n : Nat} {cs : List Value} (h : w.cells? 0 a n = some cs) : cs.length = n ∧ ∀ j, j < n → w.cell? (a.add j) = cs[j]? := by
  unfold World.cells? at h
  rw [if_pos (Nat.zero_le _)] at h
  obtain ⟨h1, h2⟩ := mapM_cells _ _ h
  exact ⟨by simpa using h1, fun j hj => h2 j j (by simp [hj])⟩
theorem add_at (b o j : Nat) : (⟨b, o, none⟩ : Addr).add j = ⟨b, o + j, none⟩ := by unfold Addr.add; split <;> simp_all

theorem list2 {α : Type} {l : List α} (h : l.length = 2) : ∃ a b, l = [a, b] := by
  match l, h with
  | [a, b], _ => exact ⟨a, b, rfl⟩
theorem list3 {α : Type} {l : List α} (h : l.length = 3) : ∃ a b c, l = [a, b, c] := by
  match l, h with
  | [a, b, c], _ => exact ⟨a, b, c, rfl⟩
theorem list6 {α : Type} {l : List α} (h : l.length = 6) : ∃ a b c d e f, l = [a, b, c, d, e, f] := by
  match l, h with
  | [a, b, c, d, e, f], _ => exact ⟨a, b, c, d, e, f, rfl⟩
theorem list11 {α : Type} {l : List α} (h : l.length = 11) : ∃ a b c d e f g i j k m, l = [a, b, c, d, e, f, g, i, j, k, m] := by
  match l, h with
  | [a, b, c, d, e, f, g, i, j, k, m], _ => exact ⟨a, b, c, d, e, f, g, i, j, k, m, rfl⟩

/-- A pointer to a string. -/
theorem sp_in {H : Type} {enc : TypeId × Value → H} {W : World} {n : Nat} {cs : List Value} {x : DataW H × List MemPlace} (h : DataW.trod enc Try.prog W 0 (fun _ => true) true n 22 cs = some x) :
    ∃ (p : Option Addr) (s : ByteArray), cs = [.pointer p] ∧ SP W p s := by
  rcases DataW.trod_pointer Try.underlying22 h with ⟨rfl, _⟩ | ⟨a, cs', y, m, _, rfl, _, hc, ht⟩
  · exact ⟨none, em, rfl, rfl⟩
  · rw [Try.cells9] at hc
    obtain ⟨hl, hat⟩ := cells_at hc
    obtain ⟨s, rfl, _⟩ := DataW.trod_string Try.underlying9 ht
    have := hat 0 (by omega)
    rw [Addr.add_zero'] at this
    exact ⟨some a, s, rfl, this⟩
/-- A pointer to a resource. -/
theorem res_in {H : Type} {enc : TypeId × Value → H} {W : World} {n : Nat} {cs : List Value} {x : DataW H × List MemPlace} (h : DataW.trod enc Try.prog W 0 (fun _ => true) true n 59 cs = some x) :
    ∃ (p : Option Addr) (r : Option Rs), cs = [.pointer p] ∧ ResIn W p r := by
  rcases DataW.trod_pointer Try.underlying59 h with ⟨rfl, _⟩ | ⟨a, cs', y, m, _, rfl, _, hc, ht⟩
  · exact ⟨none, none, rfl, rfl⟩
  · rw [Try.cells75] at hc
    obtain ⟨hl, hat⟩ := cells_at hc
    obtain ⟨c0, c1, c2, rfl⟩ := list3 hl
    obtain ⟨xs, n', _, _, _, hlen, hff⟩ := DataW.trod_struct Try.underlying75 ht
    obtain ⟨x0, x1, x2, rfl⟩ := list3 (show xs.length = 3 from hlen)
    have t0 := hff 0 _ rfl
    have t1 := hff 1 _ rfl
    have t2 := hff 2 _ rfl
    simp [Try.cells9] at t0 t1 t2
    obtain ⟨s0, e0, _, _⟩ := DataW.trod_string Try.underlying9 t0
    obtain ⟨s1, e1, _, _⟩ := DataW.trod_string Try.underlying9 t1
    obtain ⟨s2, e2, _, _⟩ := DataW.trod_string Try.underlying9 t2
    simp at e0 e1 e2
    subst e0 e1 e2
    have a0 := hat 0 (by omega)
    have a1 := hat 1 (by omega)
    have a2 := hat 2 (by omega)
    obtain ⟨b, o, sp⟩ := a
    have hs : sp = none := by
      rw [Addr.add_zero'] at a0
      exact World.cell?_spot a0
    subst hs
    rw [add_at] at a0 a1 a2
    exact ⟨_, some ⟨s0, s1, s2⟩, rfl, b, o, rfl, a0, a1, a2⟩

/-- A location. -/
theorem lc_in {H : Type} {enc : TypeId × Value → H} {W : World} {n : Nat} {cs : List Value} {x : DataW H × List MemPlace} (hl : cs.length = 2) (h : DataW.trod enc Try.prog W 0 (fun _ => true) true n 53 cs = some x) :
    ∃ l : Lc, cs = [.string l.path, .pointer l.line] := by
  obtain ⟨c0, c1, rfl⟩ := list2 hl
  obtain ⟨xs, n', _, _, _, hlen, hff⟩ := DataW.trod_struct Try.underlying53 h
  obtain ⟨x0, x1, rfl⟩ := list2 (show xs.length = 2 from hlen)
  have t0 := hff 0 _ rfl
  have t1 := hff 1 _ rfl
  simp [Try.cells9, Try.cells49] at t0 t1
  obtain ⟨s0, e0, _, _⟩ := DataW.trod_string Try.underlying9 t0
  simp at e0
  subst e0
  rcases DataW.trod_pointer Try.underlying49 t1 with ⟨e, _⟩ | ⟨a, cs', y, m, _, e, _, hc, ht⟩
  · simp at e; subst e; exact ⟨⟨s0, none⟩, rfl⟩
  · simp at e; subst e; exact ⟨⟨s0, some a⟩, rfl⟩
/-- A part. -/
theorem pt_in {H : Type} {enc : TypeId × Value → H} {W : World} {n : Nat} {cs : List Value} {x : DataW H × List MemPlace} (hl : cs.length = 11) (h : DataW.trod enc Try.prog W 0 (fun _ => true) true n 63 cs = some x) :
    ∃ (p : Pt) (rp : Option Addr), cs = p.cells rp ∧ ResIn W rp p.c.res ∧ OldIn W p.old := by
  obtain ⟨c0, c1, c2, c3, c4, c5, c6, c7, c8, c9, c10, rfl⟩ := list11 hl
  obtain ⟨xs, n', _, _, _, hlen, hff⟩ := DataW.trod_struct Try.underlying63 h
  obtain ⟨x0, x1, x2, x3, x4, x5, rfl⟩ := list6 (show xs.length = 6 from hlen)
  have t0 := hff 0 _ rfl
  have t1 := hff 1 _ rfl
  have t2 := hff 2 _ rfl
  have t3 := hff 3 _ rfl
  have t4 := hff 4 _ rfl
  have t5 := hff 5 _ rfl
  simp [Try.cells9, Try.cells22, Try.cells61] at t0 t1 t2 t3 t4 t5
  obtain ⟨s0, e0, _, _⟩ := DataW.trod_string Try.underlying9 t0
  obtain ⟨s2, e2, _, _⟩ := DataW.trod_string Try.underlying9 t2
  obtain ⟨po, so, e3, hso⟩ := sp_in t3
  obtain ⟨s4, e4, _, _⟩ := DataW.trod_string Try.underlying9 t4
  obtain ⟨s5, e5, _, _⟩ := DataW.trod_string Try.underlying9 t5
  simp at e0 e2 e3 e4 e5
  subst e0 e2 e3 e4 e5
  obtain ⟨ys, n2, _, _, _, hlen2, hgg⟩ := DataW.trod_struct Try.underlying61 t1
  obtain ⟨y0, y1, y2, y3, y4, y5, rfl⟩ := list6 (show ys.length = 6 from hlen2)
  have u0 := hgg 0 _ rfl
  have u1 := hgg 1 _ rfl
  have u2 := hgg 2 _ rfl
  have u3 := hgg 3 _ rfl
  have u4 := hgg 4 _ rfl
  have u5 := hgg 5 _ rfl
  simp [Try.cells9, Try.cells59] at u0 u1 u2 u3 u4 u5
  obtain ⟨r0, f0, _, _⟩ := DataW.trod_string Try.underlying9 u0
  obtain ⟨r1, f1, _, _⟩ := DataW.trod_string Try.underlying9 u1
  obtain ⟨r2, f2, _, _⟩ := DataW.trod_string Try.underlying9 u2
  obtain ⟨r3, f3, _, _⟩ := DataW.trod_string Try.underlying9 u3
  obtain ⟨r4, f4, _, _⟩ := DataW.trod_string Try.underlying9 u4
  obtain ⟨rp, r, f5, hr⟩ := res_in u5
  simp at f0 f1 f2 f3 f4 f5
  subst f0 f1 f2 f3 f4 f5
  exact ⟨⟨s0, ⟨r0, r1, r2, r3, r4, r⟩, s2, po, s4, s5⟩, rp, rfl, hr, so, hso⟩

/-- The locations that came in. -/
theorem lsl_in {H : Type} {enc : TypeId × Value → H} {W : World} {a0 : Option Addr} {len cap : Nat} {d : DataW H} {ps : List MemPlace}
    (h : DataW.Trod enc Try.prog W 0 (fun _ => true) true 23 (.slice a0 len cap) d ps) :
    ∃ ls : List Lc, ls.length = len ∧ LSl W a0 ls ∧ (a0 = none → ls = [] ∧ cap = 0) ∧ len ≤ cap := by
  obtain ⟨fuel, hf⟩ := h
  rcases open_slice Try.underlying23 hf with ⟨hcs, _⟩ | ⟨a, l, c, m, n, D, Pl, hcs, _, hl, hm, hmm, _, hx⟩
  · simp [Value.cells] at hcs
    obtain ⟨rfl, rfl, rfl⟩ := hcs
    exact ⟨[], rfl, fun k r hk => by simp at hk, fun _ => ⟨rfl, rfl⟩, Nat.le_refl _⟩
  · simp [Value.cells] at hcs
    obtain ⟨rfl, rfl, rfl⟩ := hcs
    simp only [if_true] at hmm
    have hread : ∀ i, i < len → ∃ t : Lc, W.cell? ((a.add (i * 2)).add 0) = some (.string t.path) ∧ W.cell? ((a.add (i * 2)).add 1) = some (.pointer t.line) := by
      intro i hi
      obtain ⟨cs', hc, ht⟩ := hx i (by omega)
      rw [Try.cells53] at hc
      obtain ⟨hcl, hca⟩ := cells_at hc
      obtain ⟨l, rfl⟩ := lc_in hcl ht
      exact ⟨l, hca 0 (by omega), hca 1 (by omega)⟩
    have hF : ∃ F : Nat → Lc, ∀ i, i < len → W.cell? ((a.add (i * 2)).add 0) = some (.string (F i).path) ∧ W.cell? ((a.add (i * 2)).add 1) = some (.pointer (F i).line) :=
      ⟨fun i => if hi : i < len then Classical.choose (hread i hi) else ⟨⟨#[]⟩, none⟩, fun i hi => by simp only [hi, dif_pos]; exact Classical.choose_spec (hread i hi)⟩
    obtain ⟨F, hF⟩ := hF
    refine ⟨(List.range len).map F, by simp, fun k r hk => ?_, by simp, hl⟩
    have hkl : k < len := by
      have := (List.getElem?_eq_some_iff.1 hk).1
      simpa using this
    have hr : F k = r := by simpa [hkl] using hk
    subst hr
    obtain ⟨b, o, sp⟩ := a
    have hs : sp = none := by
      have h0 := (hF 0 (by omega)).1
      simpa [Addr.add] using World.cell?_spot h0
    subst hs
    have := hF k hkl
    rw [add_at, add_at, add_at] at this
    exact ⟨b, o, rfl, this⟩
/-- The parts that came in. -/
theorem psl_in {H : Type} {enc : TypeId × Value → H} {W : World} {a0 : Option Addr} {len cap : Nat} {d : DataW H} {ps : List MemPlace}
    (h : DataW.Trod enc Try.prog W 0 (fun _ => true) true 24 (.slice a0 len cap) d ps) :
    ∃ ls : List Pt, ls.length = len ∧ PSl W a0 ls ∧ Olds W ls ∧ (a0 = none → ls = [] ∧ cap = 0) ∧ len ≤ cap := by
  obtain ⟨fuel, hf⟩ := h
  rcases open_slice Try.underlying24 hf with ⟨hcs, _⟩ | ⟨a, l, c, m, n, D, Pl, hcs, _, hl, hm, hmm, _, hx⟩
  · simp [Value.cells] at hcs
    obtain ⟨rfl, rfl, rfl⟩ := hcs
    exact ⟨[], rfl, fun k r hk => by simp at hk, fun k r hk => by simp at hk, fun _ => ⟨rfl, rfl⟩, Nat.le_refl _⟩
  · simp [Value.cells] at hcs
    obtain ⟨rfl, rfl, rfl⟩ := hcs
    simp only [if_true] at hmm
    have hread : ∀ i, i < len → ∃ t : Pt, OldIn W t.old ∧ ∃ rp, ResIn W rp t.c.res ∧ ∀ (j : Nat) (v : Value), (t.cells rp)[j]? = some v → W.cell? ((a.add (i * 11)).add j) = some v := by
      intro i hi
      obtain ⟨cs', hc, ht⟩ := hx i (by omega)
      rw [Try.cells63] at hc
      obtain ⟨hcl, hca⟩ := cells_at hc
      obtain ⟨p, rp, rfl, hr, ho⟩ := pt_in hcl ht
      refine ⟨p, ho, rp, hr, fun j v hv => ?_⟩
      have hj := (List.getElem?_eq_some_iff.1 hv).1
      rw [hcl] at hj
      rw [hca j hj]
      exact hv
    have hF : ∃ F : Nat → Pt, ∀ i, i < len → OldIn W (F i).old ∧ ∃ rp, ResIn W rp (F i).c.res ∧ ∀ (j : Nat) (v : Value), ((F i).cells rp)[j]? = some v → W.cell? ((a.add (i * 11)).add j) = some v :=
      ⟨fun i => if hi : i < len then Classical.choose (hread i hi) else ⟨⟨#[]⟩, ⟨⟨#[]⟩, ⟨#[]⟩, ⟨#[]⟩, ⟨#[]⟩, ⟨#[]⟩, none⟩, ⟨#[]⟩, none, ⟨#[]⟩, ⟨#[]⟩⟩, fun i hi => by simp only [hi, dif_pos]; exact Classical.choose_spec (hread i hi)⟩
    obtain ⟨F, hF⟩ := hF
    refine ⟨(List.range len).map F, by simp, fun k r hk => ?_, fun k r hk => ?_, by simp, hl⟩
    · have hkl : k < len := by
        have := (List.getElem?_eq_some_iff.1 hk).1
        simpa using this
      have hr : F k = r := by simpa [hkl] using hk
      subst hr
      obtain ⟨b, o, sp⟩ := a
      obtain ⟨rp0, _, h00⟩ := (hF 0 (by omega)).2
      have hs : sp = none := by
        have h0 := h00 0 _ rfl
        simpa [Addr.add] using World.cell?_spot h0
      subst hs
      obtain ⟨rp, hres, hcs⟩ := (hF k hkl).2
      refine ⟨b, o, rfl, rp, hres, fun j v hv => ?_⟩
      have := hcs j v hv
      rw [add_at, add_at] at this
      exact this
    · have hkl : k < len := by
        have := (List.getElem?_eq_some_iff.1 hk).1
        simpa using this
      have hr : F k = r := by simpa [hkl] using hk
      subst hr
      exact (hF k hkl).1

end Go.Proofs.Qxb6613960a
