/-
  The law FnToolCallOfDropsUnknownPartsAnywhere: the row holds.
-/
import Derived.Test.Qxb6613960aRo
import Derived.Test.Qxb6613960aLb4
import Derived.ChangeMaps5
set_option linter.unusedVariables false
set_option linter.unusedSimpArgs false
namespace Go.Proofs.Qxb6613960a
open Go.ChangeShapes Go.WideShapes Go.ChangeAt Go.RowKit Go.Deep Go.Joins

set_option maxRecDepth 100000 in
theorem fn4_lifted (os : Os) (started : os.Started) (H : Type) (enc : TypeId × Value → H) :
    ReturnsInHanded {} Try.checked os 4 .any (Rows.fnToolCallOfDropsUnknownPartsAnywhereSpec.pre6 enc Try.prog Try.f4 Rows.fnToolCallOfDropsUnknownPartsAnywhereRow.domain false) (Rows.fnToolCallOfDropsUnknownPartsAnywhereSpec.post enc Try.prog Try.f4 false true false false) := by
  refine returnsInHanded_of_change (C := Try.checked) Try.own started (by kernel_rfl) Try.func4
    (ChangeSpec.witness6 (enc := enc) (C := Try.checked) false ⟨#[], #[.string ⟨#[]⟩, .string ⟨#[]⟩, .pointer none, .pointer none, .pointer none, .slice none 0 0, .slice none 0 0, .int .i64 0, .agg #[.string ⟨#[]⟩, .string ⟨#[]⟩, .string ⟨#[]⟩, .string ⟨#[]⟩, .string ⟨#[]⟩, .string ⟨#[]⟩, .pointer none, .string ⟨#[]⟩, .pointer none, .string ⟨#[]⟩, .string ⟨#[]⟩]], []⟩ 8 (by kernel_rfl) (by kernel_rfl) (by kernel_rfl) (by kernel_rfl)) ?_
  intro W base args ds gs before hval0 hW hcnd _
  have hval : ∀ (j : Nat) t v, Try.f4.params[j]? = some t → args[j]? = some v → Value.okWide Try.prog W .any base t v := hval0
  have hW' := hW
  obtain ⟨p, q, hA0, hV, rfl, hfz, hnd⟩ := hW
  have hA : DataW.TrodAll enc Try.prog W 0 (fun _ => true) true Try.f4.params.toList args.toList ds p := hA0
  rw [Try.params4] at hA hval
  have rAll := hA
  obtain ⟨v0, vs0, d0, ds0, p0, q0, hargs, rfl, rfl, h0, r0⟩ := trodAll_cons hA
  obtain ⟨v1, vs1, d1, ds1, p1, q1, rfl, rfl, rfl, h1, r1⟩ := trodAll_cons r0
  obtain ⟨v2, vs2, d2, ds2, p2, q2, rfl, rfl, rfl, h2, r2⟩ := trodAll_cons r1
  obtain ⟨v3, vs3, d3, ds3, p3, q3, rfl, rfl, rfl, h3, r3⟩ := trodAll_cons r2
  obtain ⟨v4, vs4, d4, ds4, p4, q4, rfl, rfl, rfl, h4, r4⟩ := trodAll_cons r3
  obtain ⟨v5, vs5, d5, ds5, p5, q5, rfl, rfl, rfl, h5, r5⟩ := trodAll_cons r4
  obtain ⟨v6, vs6, d6, ds6, p6, q6, rfl, rfl, rfl, h6, r6⟩ := trodAll_cons r5
  obtain ⟨v7, vs7, d7, ds7, p7, q7, rfl, rfl, rfl, h7, r7⟩ := trodAll_cons r6
  obtain ⟨v8, vs8, d8, ds8, p8, q8, rfl, rfl, rfl, h8, r8⟩ := trodAll_cons r7
  obtain ⟨rfl, rfl, rfl⟩ := trodAll_nil r8
  obtain rfl : args = #[v0, v1, v2, v3, v4, v5, v6, v7, v8] := by cases args; simp_all
  obtain ⟨rfl, rfl⟩ := trodVars_none hV
  have hlt : ∀ x ∈ p0 ++ (p1 ++ (p2 ++ (p3 ++ (p4 ++ (p5 ++ (p6 ++ (p7 ++ (p8 ++ [])))))))), x.block < W.heap.size := fun x hx => hW'.lt x (by simpa using hx)
  obtain ⟨typ, rfl⟩ := okWide_string Try.underlying9 (hval 0 9 v0 rfl rfl)
  obtain ⟨id, rfl⟩ := okWide_string Try.underlying9 (hval 1 9 v1 rfl rfl)
  obtain ⟨title, rfl⟩ := okWide_pointer Try.underlying22 (hval 2 22 v2 rfl rfl)
  obtain ⟨kind, rfl⟩ := okWide_pointer Try.underlying22 (hval 3 22 v3 rfl rfl)
  obtain ⟨status, rfl⟩ := okWide_pointer Try.underlying22 (hval 4 22 v4 rfl rfl)
  obtain ⟨la, ll, lc, rfl⟩ := okWide_slice Try.underlying23 (hval 5 23 v5 rfl rfl)
  obtain ⟨pa, pl, pc, rfl⟩ := okWide_slice Try.underlying24 (hval 6 24 v6 rfl rfl)
  obtain ⟨L, rfl, rfl, rfl, _⟩ := open_int Try.underlying3 (hval 7 3 v7 rfl rfl) h7
  obtain ⟨cs8, rfl, hsz8⟩ := okWide_struct Try.underlying63 (hval 8 63 v8 rfl rfl)
  have hx8 : ∃ (xp : Pt) (xr : Option Addr), cs8 = (xp.cells xr).toArray ∧ ResIn W xr xp.c.res ∧ OldIn W xp.old := by
    obtain ⟨f, hf⟩ := h8
    simp only [Value.cells] at hf
    obtain ⟨p, rp, e, hr, ho⟩ := pt_in (by rw [Array.length_toList, hsz8]; exact Try.cells63) hf
    exact ⟨p, rp, by rw [← e], hr, ho⟩
  obtain ⟨xp, xr, rfl, hxr, hxo⟩ := hx8
  have hti : ∃ s, SP W title s := by
    obtain ⟨f, hf⟩ := h2
    obtain ⟨p, s, e, hs⟩ := sp_in hf
    simp [Value.cells] at e
    subst e
    exact ⟨s, hs⟩
  have hki : ∃ s, SP W kind s := by
    obtain ⟨f, hf⟩ := h3
    obtain ⟨p, s, e, hs⟩ := sp_in hf
    simp [Value.cells] at e
    subst e
    exact ⟨s, hs⟩
  have hst : ∃ s, SP W status s := by
    obtain ⟨f, hf⟩ := h4
    obtain ⟨p, s, e, hs⟩ := sp_in hf
    simp [Value.cells] at e
    subst e
    exact ⟨s, hs⟩
  obtain ⟨ti, hti⟩ := hti
  obtain ⟨ki, hki⟩ := hki
  obtain ⟨st, hst⟩ := hst
  obtain ⟨ls, hn, hL, hln, hlc⟩ := lsl_in h5
  obtain ⟨ps, hm, hP, hO, hpn, hpc⟩ := psl_in h6
  subst hn hm
  clear hA0 hval0
  refine (law4_all typ id ti ki st title kind status ls la lc ps pa pc L xp xr W hti hki hst hL hP hO hln hpn hxr hxo).mono fun e W' ⟨he, bel⟩ => ?_
  subst he
  exact ⟨_, rfl, _, _, _, [], _, [], hW', trodAll_mk1 (shut_bool Try.underlying4 _), below_trodAll Try.laidOut bel (by decide +kernel) rAll hlt, rfl, bel.frame _, fun h => by cases h⟩

theorem fnToolCallOfDropsUnknownPartsAnywhere_holds : Rows.FnToolCallOfDropsUnknownPartsAnywhereSaid :=
  OpenClaim.holds_of_wide 4 Try.f4 rfl rfl rfl rfl rfl rfl rfl ⟨rfl, rfl, rfl, rfl, rfl⟩ rfl rfl rfl rfl rfl (by kernel_rfl) Try.func4 (by kernel_rfl)
    (of_decide_eq_true (by kernel_rfl)) (by unfold Func.isWrapper; first | (rw [if_pos (by decide +kernel)]; kernel_rfl) | (rw [if_neg (by decide +kernel)]; exact ⟨rfl, rfl⟩))
    (fun os started H enc _ => fn4_lifted os started H enc)

end Go.Proofs.Qxb6613960a
