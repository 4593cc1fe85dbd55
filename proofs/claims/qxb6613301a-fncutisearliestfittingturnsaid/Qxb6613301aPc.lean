/-
  The law FnCutIsEarliestFittingTurn: the row holds.
-/
import Derived.Test.Qxb6613301aRows
import Derived.Test.Qxb6613301aCq
import Derived.ProofKit
import Derived.Deep.Slices
import Derived.Deep.Strs
import Derived.Lib.SmallJoins
set_option linter.unusedVariables false
set_option linter.unusedSimpArgs false
namespace Go.Proofs.Qxb6613301a
open Go.ChangeShapes Go.WideShapes Go.ChangeAt Go.RowKit Go.Deep Go.Joins

theorem Try.own : ownKnob Try.prog.godebug = none := by kernel_rfl
theorem Try.laidOut : laidOutB Try.prog = true := by kernel_rfl
theorem Try.cells55 : Try.prog.cellsOf 55 = 5 := by kernel_rfl
theorem Try.cells9 : Try.prog.cellsOf 9 = 1 := by kernel_rfl

/-- All arguments read as they did: nothing that was there has turned. -/
theorem below_trodAll {H : Type} {enc : TypeId × Value → H} {P : Program} (hl : laidOutB P = true) {W W' : World} (hb : Below W.heap.size W W') :
    ∀ {ts : List TypeId} {vs : List Value} {ds : List (DataW H)} {ps : List MemPlace}, (∀ t ∈ ts, P.readableRec t = true ∧ t < P.types.size) →
      DataW.TrodAll enc P W 0 (fun _ => true) true ts vs ds ps → (∀ x ∈ ps, x.block < W.heap.size) → DataW.TrodAll enc P W' 0 (fun b => decide (b < W.heap.size)) true ts vs ds ps := by
  intro ts
  induction ts with
  | nil =>
    intro vs ds ps _ h _
    obtain ⟨rfl, rfl, rfl⟩ := trodAll_nil h
    exact trodAll_mk0
  | cons t ts ih =>
    intro vs ds ps ht h hlt
    obtain ⟨v, vs', d, ds', p, q, rfl, rfl, rfl, h0, h1⟩ := trodAll_cons h
    exact ⟨_, _, Below.trod hl (ht t (by simp)).1 (ht t (by simp)).2 h0 hb (fun x hx => hlt x (by simp [hx])), ih (fun t' ht' => ht t' (by simp [ht'])) h1 (fun x hx => hlt x (by simp [hx])), rfl⟩

theorem mapM_cells {w : World} {a : Addr} : ∀ (l : List Nat) (cs : List Value), l.mapM (fun j => w.cell? (a.add j)) = some cs → cs.length = l.length ∧ ∀ (i j : Nat), l[i]? = some j → w.cell? (a.add j) = cs[i]? := by
  intro l
  induction l with
  | nil => intro cs h; simp at h; subst h; exact ⟨rfl, fun i j h => by simp at h⟩
  | cons x l ih =>
    intro cs h
    cases hx : w.cell? (a.add x) with
    | none => simp [List.mapM_cons, hx] at h
    | some c =>
      cases hr : l.mapM (fun j => w.cell? (a.add j)) with
      | none => simp [List.mapM_cons, hx, hr] at h
      | some r =>
        simp [List.mapM_cons, hx, hr] at h
        subst h
        obtain ⟨h1, h2⟩ := ih r hr
        refine ⟨by simp [h1], fun i j hij => ?_⟩
        cases i with
        | zero => simp at hij; subst hij; simpa using hx
        | succ i => simp at hij; simpa using h2 i j hij

theorem cells_at {w : World} {a : Addr} {n : Nat} {cs : List Value} (h : w.cells? 0 a n = some cs) : cs.length = n ∧ ∀ j, j < n → w.cell? (a.add j) = cs[j]? := by
  unfold World.cells? at h
  rw [if_pos (Nat.zero_le _)] at h
  obtain ⟨h1, h2⟩ := mapM_cells _ _ h
  exact ⟨by simpa using h1, fun j hj => h2 j j (by simp [hj])⟩

theorem list5 {α : Type} {l : List α} (h : l.length = 5) : ∃ a b c d e, l = [a, b, c, d, e] := by
  match l, h with
  | [a, b, c, d, e], _ => exact ⟨a, b, c, d, e, rfl⟩

theorem five {H : Type} {enc : TypeId × Value → H} {W : World} {n : Nat} {cs : List Value} {x : DataW H × List MemPlace} (hl : cs.length = 5) (h : DataW.trod enc Try.prog W 0 (fun _ => true) true n 55 cs = some x) :
    ∃ s0 s1 s2 s3 s4 : ByteArray, cs = [.string s0, .string s1, .string s2, .string s3, .string s4] := by
  obtain ⟨c0, c1, c2, c3, c4, rfl⟩ := list5 hl
  obtain ⟨xs, n', _, _, _, hlen, hff⟩ := DataW.trod_struct Try.underlying55 h
  obtain ⟨x0, x1, x2, x3, x4, rfl⟩ := list5 (show xs.length = 5 from hlen)
  have t0 := hff 0 _ rfl
  have t1 := hff 1 _ rfl
  have t2 := hff 2 _ rfl
  have t3 := hff 3 _ rfl
  have t4 := hff 4 _ rfl
  simp [Try.cells9] at t0 t1 t2 t3 t4
  obtain ⟨s0, e0, _, _⟩ := DataW.trod_string Try.underlying9 t0
  obtain ⟨s1, e1, _, _⟩ := DataW.trod_string Try.underlying9 t1
  obtain ⟨s2, e2, _, _⟩ := DataW.trod_string Try.underlying9 t2
  obtain ⟨s3, e3, _, _⟩ := DataW.trod_string Try.underlying9 t3
  obtain ⟨s4, e4, _, _⟩ := DataW.trod_string Try.underlying9 t4
  simp at e0 e1 e2 e3 e4
  subst e0 e1 e2 e3 e4
  exact ⟨s0, s1, s2, s3, s4, rfl⟩

/-- The items that came in, as the walk is told of them. -/
theorem isl_in {H : Type} {enc : TypeId × Value → H} {W : World} {a0 : Option Addr} {len cap : Nat} {d : DataW H} {ps : List MemPlace}
    (h : DataW.Trod enc Try.prog W 0 (fun _ => true) true 33 (.slice a0 len cap) d ps) :
    ∃ its : List It, its.length = len ∧ ISl W a0 its ∧ len ≤ 9223372036854775807 := by
  obtain ⟨fuel, hf⟩ := h
  rcases open_slice Try.underlying33 hf with ⟨hcs, _⟩ | ⟨a, l, c, m, n, D, Pl, hcs, _, hl, hm, hmm, _, hx⟩
  · simp [Value.cells] at hcs
    obtain ⟨rfl, rfl, rfl⟩ := hcs
    exact ⟨[], rfl, fun k r hk => by simp at hk, by omega⟩
  · simp [Value.cells] at hcs
    obtain ⟨rfl, rfl, rfl⟩ := hcs
    unfold maxLen at hm
    simp only [if_true] at hmm
    have hread : ∀ i, i < len → ∃ t : It, W.cell? ((a.add (i * 5)).add 0) = some (.string t.ty) ∧ W.cell? ((a.add (i * 5)).add 1) = some (.string t.id) ∧ W.cell? ((a.add (i * 5)).add 2) = some (.string t.call) ∧ W.cell? ((a.add (i * 5)).add 3) = some (.string t.role) ∧ W.cell? ((a.add (i * 5)).add 4) = some (.string t.raw) := by
      intro i hi
      obtain ⟨cs', hc, ht⟩ := hx i (by omega)
      rw [Try.cells55] at hc
      obtain ⟨hcl, hca⟩ := cells_at hc
      obtain ⟨s0, s1, s2, s3, s4, rfl⟩ := five hcl ht
      exact ⟨⟨s0, s1, s2, s3, s4⟩, hca 0 (by omega), hca 1 (by omega), hca 2 (by omega), hca 3 (by omega), hca 4 (by omega)⟩
    have hF : ∃ F : Nat → It, ∀ i, i < len → W.cell? ((a.add (i * 5)).add 0) = some (.string (F i).ty) ∧ W.cell? ((a.add (i * 5)).add 1) = some (.string (F i).id) ∧ W.cell? ((a.add (i * 5)).add 2) = some (.string (F i).call) ∧ W.cell? ((a.add (i * 5)).add 3) = some (.string (F i).role) ∧ W.cell? ((a.add (i * 5)).add 4) = some (.string (F i).raw) :=
      ⟨fun i => if hi : i < len then Classical.choose (hread i hi) else ⟨⟨#[]⟩, ⟨#[]⟩, ⟨#[]⟩, ⟨#[]⟩, ⟨#[]⟩⟩, fun i hi => by simp only [hi, dif_pos]; exact Classical.choose_spec (hread i hi)⟩
    obtain ⟨F, hF⟩ := hF
    refine ⟨(List.range len).map F, by simp, fun k r hk => ?_, by omega⟩
    have hkl : k < len := by
      have := (List.getElem?_eq_some_iff.1 hk).1
      simpa using this
    have hr : F k = r := by simpa [hkl] using hk
    subst hr
    obtain ⟨b, o, sp⟩ := a
    have hs : sp = none := by
      have h0 := (hF 0 (by omega)).1
      simpa [Addr.add] using World.cell?_spot h0
    subst hs
    have ad : ∀ j, ((⟨b, o, none⟩ : Addr).add (k * 5)).add j = ⟨b, o + k * 5 + j, none⟩ := by
      intro j
      have e1 : (⟨b, o, none⟩ : Addr).add (k * 5) = ⟨b, o + k * 5, none⟩ := by unfold Addr.add; split <;> simp_all
      rw [e1]
      unfold Addr.add; split <;> simp_all
    have := hF k hkl
    rw [ad, ad, ad, ad, ad] at this
    exact ⟨b, o, rfl, this⟩

set_option maxRecDepth 100000 in
theorem fn5_lifted (os : Os) (started : os.Started) (H : Type) (enc : TypeId × Value → H) :
    ReturnsInHanded {} Try.checked os 5 .any (Rows.fnCutIsEarliestFittingTurnSpec.pre6 enc Try.prog Try.f5 Rows.fnCutIsEarliestFittingTurnRow.domain false) (Rows.fnCutIsEarliestFittingTurnSpec.post enc Try.prog Try.f5 false true false false) := by
  refine returnsInHanded_of_change (C := Try.checked) Try.own started (by kernel_rfl) Try.func5
    (ChangeSpec.witness6 (enc := enc) (C := Try.checked) false ⟨#[], #[.slice none 0 0, .int .i64 0], []⟩ 8 (by kernel_rfl) (by kernel_rfl) (by kernel_rfl) (by kernel_rfl)) ?_
  intro W base args ds gs before hval0 hW hcnd _
  have hval : ∀ (j : Nat) t v, Try.f5.params[j]? = some t → args[j]? = some v → Value.okWide Try.prog W .any base t v := hval0
  have hW' := hW
  obtain ⟨p, q, hA0, hV, rfl, hfz, hnd⟩ := hW
  have hA : DataW.TrodAll enc Try.prog W 0 (fun _ => true) true Try.f5.params.toList args.toList ds p := hA0
  rw [Try.params5] at hA hval
  have rAll := hA
  obtain ⟨v0, vs0, d0, ds0, p0, q0, hargs, rfl, rfl, h0, r0⟩ := trodAll_cons hA
  obtain ⟨v1, vs1, d1, ds1, p1, q1, rfl, rfl, rfl, h1, r1⟩ := trodAll_cons r0
  obtain ⟨rfl, rfl, rfl⟩ := trodAll_nil r1
  obtain rfl : args = #[v0, v1] := by cases args; simp_all
  obtain ⟨rfl, rfl⟩ := trodVars_none hV
  have hlt : ∀ x ∈ p0 ++ (p1 ++ []), x.block < W.heap.size := fun x hx => hW'.lt x (by simpa using hx)
  obtain ⟨a0, len, cap, rfl⟩ := okWide_slice Try.underlying33 (hval 0 33 v0 rfl rfl)
  obtain ⟨nb, rfl, rfl, rfl, w2⟩ := open_int Try.underlying3 (hval 1 3 v1 rfl rfl) h1
  obtain ⟨its, hn, hr, h63⟩ := isl_in h0
  subst hn
  clear hA0 hval0
  refine (fn5_any its a0 cap nb W h63 hr).mono fun e W' ⟨he, bel⟩ => ?_
  subst he
  exact ⟨_, rfl, _, _, _, [], _, [], hW', trodAll_mk1 (shut_bool Try.underlying4 _), below_trodAll Try.laidOut bel (by decide +kernel) rAll hlt, rfl, bel.frame _, fun h => by cases h⟩

theorem fnCutIsEarliestFittingTurn_holds : Rows.FnCutIsEarliestFittingTurnSaid :=
  OpenClaim.holds_of_wide 5 Try.f5 rfl rfl rfl rfl rfl rfl rfl ⟨rfl, rfl, rfl, rfl, rfl⟩ rfl rfl rfl rfl rfl (by kernel_rfl) Try.func5 (by kernel_rfl)
    (of_decide_eq_true (by kernel_rfl)) (by unfold Func.isWrapper; first | (rw [if_pos (by decide +kernel)]; kernel_rfl) | (rw [if_neg (by decide +kernel)]; exact ⟨rfl, rfl⟩))
    (fun os started H enc _ => fn5_lifted os started H enc)

end Go.Proofs.Qxb6613301a
