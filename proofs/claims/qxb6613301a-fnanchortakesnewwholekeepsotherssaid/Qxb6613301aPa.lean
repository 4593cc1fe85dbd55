/-
  The law FnAnchorTakesNewWholeKeepsOthers: the row holds.
-/
import Derived.Test.Qxb6613301aRows
import Derived.Test.Qxb6613301aAm
import Derived.ProofKit
import Derived.Deep.Slices
import Derived.Deep.Strs
import Derived.Lib.SmallJoins
set_option linter.unusedVariables false
set_option linter.unusedSimpArgs false
namespace Go.Proofs.Qxb6613301a
open Go.ChangeShapes Go.WideShapes Go.ChangeAt Go.RowKit Go.Deep Go.Joins

theorem Try.own : ownKnob Try.prog.godebug = none := by kernel_rfl
theorem Try.laidOut : laidOutB Try.prog = true := by kernel_rfl
theorem Try.cells38 : Try.prog.cellsOf 38 = 3 := by kernel_rfl
theorem Try.cells3 : Try.prog.cellsOf 3 = 1 := by kernel_rfl
theorem Try.cells4 : Try.prog.cellsOf 4 = 1 := by kernel_rfl

/-- All arguments read as they did: nothing that was there has turned. -/
theorem below_trodAll {H : Type} {enc : TypeId × Value → H} {P : Program} (hl : laidOutB P = true) {W W' : World} (hb : Below W.heap.size W W') :
    ∀ {ts : List TypeId} {vs : List Value} {ds : List (DataW H)} {ps : List MemPlace}, (∀ t ∈ ts, P.readableRec t = true ∧ t < P.types.size) →
      DataW.TrodAll enc P W 0 (fun _ => true) true ts vs ds ps → (∀ x ∈ ps, x.block < W.heap.size) → DataW.TrodAll enc P W' 0 (fun b => decide (b < W.heap.size)) true ts vs ds ps := by
  intro ts
  induction ts with
  | nil =>
    intro vs ds ps _ h _
    obtain ⟨rfl, rfl, rfl⟩ := trodAll_nil h
    exact trodAll_mk0
  | cons t ts ih =>
    intro vs ds ps ht h hlt
    obtain ⟨v, vs', d, ds', p, q, rfl, rfl, rfl, h0, h1⟩ := trodAll_cons h
    exact ⟨_, _, Below.trod hl (ht t (by simp)).1 (ht t (by simp)).2 h0 hb (fun x hx => hlt x (by simp [hx])), ih (fun t' ht' => ht t' (by simp [ht'])) h1 (fun x hx => hlt x (by simp [hx])), rfl⟩

theorem cells_three {w : World} {a : Addr} {cs : List Value} (h : w.cells? 0 a 3 = some cs) : ∃ c0 c1 c2, cs = [c0, c1, c2] ∧ w.cell? (a.add 0) = some c0 ∧ w.cell? (a.add 1) = some c1 ∧ w.cell? (a.add 2) = some c2 := by
  unfold World.cells? at h
  rw [if_pos (Nat.zero_le _)] at h
  rw [show List.range 3 = [0, 1, 2] from rfl] at h
  cases h0 : w.cell? (a.add 0) with
  | none => simp [List.mapM_cons, h0] at h
  | some c0 =>
    cases h1 : w.cell? (a.add 1) with
    | none => simp [List.mapM_cons, h0, h1] at h
    | some c1 =>
      cases h2 : w.cell? (a.add 2) with
      | none => simp [List.mapM_cons, h0, h1, h2] at h
      | some c2 =>
        simp [List.mapM_cons, h0, h1, h2] at h
        exact ⟨c0, c1, c2, h.symm, rfl, rfl, rfl⟩

/-- The responses that came in, as the walk is told of them. -/
theorem rsl_in {H : Type} {enc : TypeId × Value → H} {W : World} {a0 : Option Addr} {len cap : Nat} {d : DataW H} {ps : List MemPlace}
    (h : DataW.Trod enc Try.prog W 0 (fun _ => true) true 36 (.slice a0 len cap) d ps) :
    ∃ rs : List R, rs.length = len ∧ RSl W a0 rs ∧ len ≤ 9223372036854775807 := by
  obtain ⟨fuel, hf⟩ := h
  rcases open_slice Try.underlying36 hf with ⟨hcs, _⟩ | ⟨a, l, c, m, n, D, Pl, hcs, _, hl, hm, hmm, _, hx⟩
  · simp [Value.cells] at hcs
    obtain ⟨rfl, rfl, rfl⟩ := hcs
    exact ⟨[], rfl, fun k r hk => by simp at hk, by omega⟩
  · simp [Value.cells] at hcs
    obtain ⟨rfl, rfl, rfl⟩ := hcs
    unfold maxLen at hm
    simp only [if_true] at hmm
    have hread : ∀ i, i < len → ∃ r : R, W.cell? ((a.add (i * 3)).add 0) = some (.bool r.g) ∧ W.cell? ((a.add (i * 3)).add 1) = some (.int .i64 r.h) ∧ W.cell? ((a.add (i * 3)).add 2) = some (.int .i64 r.i) := by
      intro i hi
      obtain ⟨cs', hc, ht⟩ := hx i (by omega)
      rw [Try.cells38] at hc
      obtain ⟨c0, c1, c2, rfl, e0, e1, e2⟩ := cells_three hc
      obtain ⟨y0, y1, y2, n', _, _, t0, t1, t2⟩ := trod_struct3 Try.underlying38 ht
      simp [Try.cells3, Try.cells4] at t0 t1 t2
      obtain ⟨b, hb, _⟩ := DataW.trod_bool Try.underlying4 t0
      obtain ⟨x1, hx1, _, _⟩ := DataW.trod_int Try.underlying3 t1
      obtain ⟨x2, hx2, _, _⟩ := DataW.trod_int Try.underlying3 t2
      simp at hb hx1 hx2
      subst hb hx1 hx2
      exact ⟨⟨b, x1, x2⟩, e0, e1, e2⟩
    have hF : ∃ F : Nat → R, ∀ i, i < len → W.cell? ((a.add (i * 3)).add 0) = some (.bool (F i).g) ∧ W.cell? ((a.add (i * 3)).add 1) = some (.int .i64 (F i).h) ∧ W.cell? ((a.add (i * 3)).add 2) = some (.int .i64 (F i).i) :=
      ⟨fun i => if hi : i < len then Classical.choose (hread i hi) else ⟨false, 0, 0⟩, fun i hi => by simp only [hi, dif_pos]; exact Classical.choose_spec (hread i hi)⟩
    obtain ⟨F, hF⟩ := hF
    refine ⟨(List.range len).map F, by simp, fun k r hk => ?_, by omega⟩
    have hkl : k < len := by
      have := (List.getElem?_eq_some_iff.1 hk).1
      simpa using this
    have hr : F k = r := by simpa [hkl] using hk
    subst hr
    obtain ⟨b, o, sp⟩ := a
    have hs : sp = none := by
      have h0 := (hF 0 (by omega)).1
      simpa [Addr.add] using World.cell?_spot h0
    subst hs
    have ad : ∀ j, ((⟨b, o, none⟩ : Addr).add (k * 3)).add j = ⟨b, o + k * 3 + j, none⟩ := by
      intro j
      have e1 : (⟨b, o, none⟩ : Addr).add (k * 3) = ⟨b, o + k * 3, none⟩ := by unfold Addr.add; split <;> simp_all
      rw [e1]
      unfold Addr.add; split <;> simp_all
    have := hF k hkl
    rw [ad, ad, ad] at this
    exact ⟨b, o, rfl, this.1, this.2.1, this.2.2⟩

set_option maxRecDepth 100000 in
set_option maxHeartbeats 400000 in
theorem fn6_long (so st : Bool) (nb : Int) (a : Option Addr) (len cap : Nat) (g : Bool) (h i : Int) (w : World) (h63 : len ≤ 9223372036854775807) (hl : ¬ len ≤ 4096) :
    Calls Try.prog 6 #[.bool so, .bool st, .int .i64 nb, .slice a len cap, .agg #[.bool g, .int .i64 h, .int .i64 i]] w fun e w' => e = .returned (.bool true) ∧ Below w.heap.size w w' := by
  have hln : (4096 : Int) < (len : Int) := by omega
  go_enter Try.func6, Try.ntmps6
  go_wp2_with fail
  refine (bytes21_any _ _ _ a len cap g h i _ h63).mono ?_
  rintro e w1 ⟨b, rfl, k1⟩
  have K1 : Kp [] w w1 := ((Kp.refl _ _).alloc _).trans k1
  clear k1
  cases b
  all_goals
    go_wp2_with fail
    go_ret
    exact ⟨rfl, K1.below _ (Nat.le_refl _) (by simp)⟩

set_option maxRecDepth 100000 in
set_option maxHeartbeats 400000 in
theorem fn6_out (so st : Bool) (nb : Int) (a : Option Addr) (len cap : Nat) (g : Bool) (h i : Int) (w : World) (hl : len ≤ 4096) (hnb : nb < 0 ∨ 4096 < nb) :
    Calls Try.prog 6 #[.bool so, .bool st, .int .i64 nb, .slice a len cap, .agg #[.bool g, .int .i64 h, .int .i64 i]] w fun e w' => e = .returned (.bool true) ∧ Below w.heap.size w w' := by
  have hln : ¬ (4096 : Int) < (len : Int) := by omega
  rcases hnb with hnb | hnb
  · go_enter Try.func6, Try.ntmps6
    go_wp2_with fail
    refine (bytes21_any _ _ _ a len cap g h i _ (by omega)).mono ?_
    rintro e w1 ⟨b, rfl, k1⟩
    have K1 : Kp [] w w1 := ((Kp.refl _ _).alloc _).trans k1
    clear k1
    cases b
    all_goals
      go_wp2_with fail
      go_ret
      exact ⟨rfl, K1.below _ (Nat.le_refl _) (by simp)⟩
  · have hnb0 : ¬ nb < 0 := by omega
    go_enter Try.func6, Try.ntmps6
    go_wp2_with fail
    refine (bytes21_any _ _ _ a len cap g h i _ (by omega)).mono ?_
    rintro e w1 ⟨b, rfl, k1⟩
    have K1 : Kp [] w w1 := ((Kp.refl _ _).alloc _).trans k1
    clear k1
    cases b
    all_goals
      go_wp2_with fail
      go_ret
      exact ⟨rfl, K1.below _ (Nat.le_refl _) (by simp)⟩

theorem fn6_any (so st : Bool) (nb : Int) (a : Option Addr) (cap : Nat) (rs : List R) (g : Bool) (h i : Int) (w : World) (h63 : rs.length ≤ 9223372036854775807) (hr : RSl w a rs) :
    Calls Try.prog 6 #[.bool so, .bool st, .int .i64 nb, .slice a rs.length cap, .agg #[.bool g, .int .i64 h, .int .i64 i]] w fun e w' => e = .returned (.bool true) ∧ Below w.heap.size w w' := by
  by_cases hl : rs.length ≤ 4096
  · by_cases hnb : nb < 0 ∨ 4096 < nb
    · exact fn6_out so st nb a rs.length cap g h i w hl hnb
    · obtain ⟨m, rfl⟩ := Int.eq_ofNat_of_zero_le (show 0 ≤ nb by omega)
      exact main_walk so st m a cap rs ⟨g, h, i⟩ w hl (by omega) hr
  · exact fn6_long so st nb a rs.length cap g h i w h63 hl

set_option maxRecDepth 100000 in
theorem fn6_lifted (os : Os) (started : os.Started) (H : Type) (enc : TypeId × Value → H) :
    ReturnsInHanded {} Try.checked os 6 .any (Rows.fnAnchorTakesNewWholeKeepsOthersSpec.pre6 enc Try.prog Try.f6 Rows.fnAnchorTakesNewWholeKeepsOthersRow.domain false) (Rows.fnAnchorTakesNewWholeKeepsOthersSpec.post enc Try.prog Try.f6 false true false false) := by
  refine returnsInHanded_of_change (C := Try.checked) Try.own started (by kernel_rfl) Try.func6
    (ChangeSpec.witness6 (enc := enc) (C := Try.checked) false ⟨#[], #[.bool false, .bool false, .int .i64 0, .slice none 0 0, .agg #[.bool false, .int .i64 0, .int .i64 0]], []⟩ 8 (by kernel_rfl) (by kernel_rfl) (by kernel_rfl) (by kernel_rfl)) ?_
  intro W base args ds gs before hval0 hW hcnd _
  have hval : ∀ (j : Nat) t v, Try.f6.params[j]? = some t → args[j]? = some v → Value.okWide Try.prog W .any base t v := hval0
  have hW' := hW
  obtain ⟨p, q, hA0, hV, rfl, hfz, hnd⟩ := hW
  have hA : DataW.TrodAll enc Try.prog W 0 (fun _ => true) true Try.f6.params.toList args.toList ds p := hA0
  rw [Try.params6] at hA hval
  have rAll := hA
  obtain ⟨v0, vs0, d0, ds0, p0, q0, hargs, rfl, rfl, h0, r0⟩ := trodAll_cons hA
  obtain ⟨v1, vs1, d1, ds1, p1, q1, rfl, rfl, rfl, h1, r1⟩ := trodAll_cons r0
  obtain ⟨v2, vs2, d2, ds2, p2, q2, rfl, rfl, rfl, h2, r2⟩ := trodAll_cons r1
  obtain ⟨v3, vs3, d3, ds3, p3, q3, rfl, rfl, rfl, h3, r3⟩ := trodAll_cons r2
  obtain ⟨v4, vs4, d4, ds4, p4, q4, rfl, rfl, rfl, h4, r4⟩ := trodAll_cons r3
  obtain ⟨rfl, rfl, rfl⟩ := trodAll_nil r4
  obtain rfl : args = #[v0, v1, v2, v3, v4] := by cases args; simp_all
  obtain ⟨rfl, rfl⟩ := trodVars_none hV
  have hlt : ∀ x ∈ p0 ++ (p1 ++ (p2 ++ (p3 ++ (p4 ++ [])))), x.block < W.heap.size := fun x hx => hW'.lt x (by simpa using hx)
  obtain ⟨so, rfl, rfl, rfl⟩ := open_bool Try.underlying4 (hval 0 4 v0 rfl rfl) h0
  obtain ⟨st, rfl, rfl, rfl⟩ := open_bool Try.underlying4 (hval 1 4 v1 rfl rfl) h1
  obtain ⟨nb, rfl, rfl, rfl, w2⟩ := open_int Try.underlying3 (hval 2 3 v2 rfl rfl) h2
  obtain ⟨a0, len, cap, rfl⟩ := okWide_slice Try.underlying36 (hval 3 36 v3 rfl rfl)
  obtain ⟨rs, hn, hr, h63⟩ := rsl_in h3
  subst hn
  obtain ⟨c0, c1, c2, y0, y1, y2, m, rfl, rfl, rfl, hy0, hy1, hy2⟩ := open_agg3 Try.underlying38 (by kernel_rfl) Try.cells38 (hval 4 38 v4 rfl rfl) h4
  obtain ⟨g, e0, _⟩ := DataW.trod_bool Try.underlying4 hy0
  obtain ⟨hh, e1, _, _⟩ := DataW.trod_int Try.underlying3 hy1
  obtain ⟨ii, e2, _, _⟩ := DataW.trod_int Try.underlying3 hy2
  simp at e0 e1 e2
  subst e0 e1 e2
  clear hA0 hval0
  refine (fn6_any so st nb a0 cap rs g hh ii W h63 hr).mono fun e W' ⟨he, bel⟩ => ?_
  subst he
  exact ⟨_, rfl, _, _, _, [], _, [], hW', trodAll_mk1 (shut_bool Try.underlying4 _), below_trodAll Try.laidOut bel (by decide +kernel) rAll hlt, rfl, bel.frame _, fun h => by cases h⟩

theorem fnAnchorTakesNewWholeKeepsOthers_holds : Rows.FnAnchorTakesNewWholeKeepsOthersSaid :=
  OpenClaim.holds_of_wide 6 Try.f6 rfl rfl rfl rfl rfl rfl rfl ⟨rfl, rfl, rfl, rfl, rfl⟩ rfl rfl rfl rfl rfl (by kernel_rfl) Try.func6 (by kernel_rfl)
    (of_decide_eq_true (by kernel_rfl)) (by unfold Func.isWrapper; first | (rw [if_pos (by decide +kernel)]; kernel_rfl) | (rw [if_neg (by decide +kernel)]; exact ⟨rfl, rfl⟩))
    (fun os started H enc _ => fn6_lifted os started H enc)

end Go.Proofs.Qxb6613301a
