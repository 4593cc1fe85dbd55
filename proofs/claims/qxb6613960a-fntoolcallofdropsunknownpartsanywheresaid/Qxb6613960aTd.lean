/-
  toolContentOf, walked.
-/
import Derived.Test.Qxb6613960aTc
import Derived.RangeFuncBox
set_option linter.unusedVariables false
set_option linter.unusedSimpArgs false
namespace Go.Proofs.Qxb6613960a
open Go.RowKit

theorem news7b (w : World) (o : Obj) (t : Tc) (bp : Option Addr) : ∀ j u, (t.cells bp)[j]? = some u → ((w.alloc o).alloc (.cells #[.string t.ty, .string t.text, .pointer bp, .string t.path, .pointer t.old, .string t.new, .string t.term] 58)).cell? ((⟨w.heap.size + 1, 0, none⟩ : Addr).add j) = some u := by
  intro j u hj
  have := news7 (w.alloc o) t bp j u hj
  rw [World.size_alloc] at this
  exact this

/-- What stands behind one append. -/
theorem tc_step {w wr wx w9 : World} {out : List (Tc × Option Addr)} {g c g' c' k : Nat} {ps : List Pt} {p : Pt} {t : Tc} {bp : Option Addr} (hk : Kp [] wr wx) (hK : Kp [] w wr)
    (ho : wr.ownsRow w.heap.size 58 7 (.slice (some ⟨g, 0, none⟩) out.length c) out.length (tflat out)) (hbl : ∀ x ∈ out, BlAt wr x.2 x.1.blk) (hout : out.map Prod.fst = (ps.take k).filterMap Pt.tc) (htk : ps.take (k + 1) = ps.take k ++ [p]) (htc : p.tc = some t)
    (hb : BlAt wx bp t.blk) (ho2 : w9.ownsRow w.heap.size 58 7 (.slice (some ⟨g', 0, none⟩) (out.length + 1) c') (out.length + 1) (tflat out ++ t.cells bp)) (hg : wx.grownBy w9 (Value.slice (some ⟨g, 0, none⟩) out.length c).ownBlock) :
    ∃ out' : List (Tc × Option Addr), out'.length = out.length + 1 ∧ out'.map Prod.fst = (ps.take (k + 1)).filterMap Pt.tc ∧ (∀ x ∈ out', BlAt w9 x.2 x.1.blk) ∧ w9.ownsRow w.heap.size 58 7 (.slice (some ⟨g', 0, none⟩) out'.length c') out'.length (tflat out') ∧ Kp [] w w9 := by
  refine ⟨out ++ [(t, bp)], by simp, by rw [List.map_append, hout, htk, List.filterMap_append]; simp [htc], fun x hx => ?_, ?_, kp_grown (hK.trans hk) (own_kp ho hk) (Nat.le_refl _) hg⟩
  · rcases List.mem_append.1 hx with hx | hx
    · exact ((hbl x hx).kp hk).grown (own_kp ho hk) hg
    · simp at hx
      subst hx
      exact hb.grown (own_kp ho hk) hg
  · rw [tflat_append, List.length_append]
    exact ho2

theorem toolContent_nil (w : World) : Calls Try.prog 31 #[.slice none 0 0] w fun e w' => e = .returned (.slice none 0 0) ∧ w' = w := by
  have heq := fun wx a n c n' c' => Lib.run_eql_slice_nil (P := Try.prog) wx 44 117 a n c n' c' Try.underlying44
  go_enter Try.func31, Try.ntmps31
  go_wp2
  go_ret
  exact ⟨rfl, rfl⟩

set_option maxRecDepth 100000 in
set_option maxHeartbeats 4000000 in
theorem toolContent_any (ps : List Pt) (q cap : Nat) (w : World) (hl : ps.length ≤ 65537) (hA : ASl w q ps) :
    Calls Try.prog 31 #[.slice (some ⟨q, 0, none⟩) ps.length cap] w fun e w' => ∃ (out : List (Tc × Option Addr)) (g c : Nat), out.map Prod.fst = ps.filterMap Pt.tc ∧ (∀ x ∈ out, BlAt w' x.2 x.1.blk) ∧
      e = .returned (.slice (some ⟨g, 0, none⟩) out.length c) ∧ w'.ownsRow w.heap.size 58 7 (.slice (some ⟨g, 0, none⟩) out.length c) out.length (tflat out) ∧ Kp [] w w' := by
  obtain ⟨n, hn⟩ : ∃ n, n = ps.length := ⟨_, rfl⟩
  rw [← hn] at hl ⊢
  have HN := hid hn
  have HA := hid hA
  clear hn hA
  have heq := fun wx a n c n' c' => Lib.run_eql_slice_nil (P := Try.prog) wx 44 117 a n c n' c' Try.underlying44
  have hmk := run_make_room 34 58 _ 7 96 Try.underlying34 info58 n (by omega) (by omega)
  obtain ⟨AA, hAA⟩ : ∃ AA, AA = madeCells (Value.agg #[.string ⟨#[]⟩, .string ⟨#[]⟩, .pointer none, .string ⟨#[]⟩, .pointer none, .string ⟨#[]⟩, .string ⟨#[]⟩]).cells (n * 7) := ⟨_, rfl⟩
  have hAs : AA.size = n * 7 := by rw [hAA, size_madeCells]
  rw [← hAA] at hmk
  clear hAA
  obtain ⟨i58, hi58, hz58, hs58, hb58⟩ := info_parts info58
  go_enter Try.func31, Try.ntmps31
  go_wp2_with fail
  go_loopw [3, 15] (fun va i wr => ∃ (k : Nat) (out : List (Tc × Option Addr)) (g c : Nat), k ≤ n ∧ i = .int .i64 k ∧ va = .slice (some ⟨g, 0, none⟩) out.length c ∧ out.map Prod.fst = (ps.take k).filterMap Pt.tc ∧ (∀ x ∈ out, BlAt wr x.2 x.1.blk) ∧ wr.ownsRow w.heap.size 58 7 (.slice (some ⟨g, 0, none⟩) out.length c) out.length (tflat out) ∧ Kp [] w wr) (fun _ i _ => n - (intOf i).toNat)
  case atStart =>
    exact ⟨0, [], w.heap.size, n, Nat.zero_le _, rfl, rfl, by simp, by simp, ⟨rfl, Or.inr ⟨w.heap.size, n, AA, rfl, Nat.le_refl _, heap_push _ _, by simp, by unfold maxLen; omega, hAs, by simp [tflat]⟩⟩, (Kp.refl _ _).alloc _⟩
  case round =>
    obtain ⟨k, out, g, c, hk, rfl, rfl, hout, hbl, hown, hK⟩ := hrel
    have hol : out.length ≤ k := by
      have h1 : out.length = ((ps.take k).filterMap Pt.tc).length := by rw [← hout]; simp
      have h2 := List.length_filterMap_le Pt.tc (ps.take k)
      have h3 := List.length_take_le k ps
      omega
    have HO := hid hown
    have HOUT := hid hout
    have HBL := hid hbl
    clear hown hout hbl
    by_cases hlt : k < n
    · obtain ⟨p, hp⟩ : ∃ p, ps[k]? = some p := ⟨ps[k]'(by rw [← HN.out]; exact hlt), by simp⟩
      obtain ⟨rp, hres, hcs⟩ := HA.out k p hp
      have htk : ps.take (k + 1) = ps.take k ++ [p] := by rw [List.take_add_one, hp]; rfl
      obtain ⟨tcv, htc⟩ : ∃ tcv, p.tc = tcv := ⟨_, rfl⟩
      have hcs' := fun j v h => hK.cell (hcs j v h) (by simp)
      have hres' := hres.kp hK
      obtain ⟨ty, ⟨cty, ctext, cmime, curi, cname, cres⟩, path, old, new, term⟩ := p
      simp only [Pt.cells] at hcs'
      dsimp only at hres'
      have c0 := hcs' 0 _ rfl
      have c1 := hcs' 1 _ rfl
      have c2 := hcs' 2 _ rfl
      have c3 := hcs' 3 _ rfl
      have c4 := hcs' 4 _ rfl
      have c5 := hcs' 5 _ rfl
      have c6 := hcs' 6 _ rfl
      have c7 := hcs' 7 _ rfl
      have c8 := hcs' 8 _ rfl
      have c9 := hcs' 9 _ rfl
      have c10 := hcs' 10 _ rfl
      simp only [Nat.add_zero] at c0
      have HT := hid htk
      have HTC := hid htc
      have HTC0 := hid htc
      have HRES := hid hres'
      have hk63 : out.length + 1 ≤ maxLen := by unfold maxLen; omega
      have hksz := hK.size
      clear hcs hcs' hres hres' hp htk htc
      have hKr : Kp [] wr wr := Kp.refl _ _
      have hPt : Pt.tc ⟨ty, ⟨cty, ctext, cmime, curi, cname, cres⟩, path, old, new, term⟩ = (if (ty.toList == lContent) = true then (if (cty.toList == lText) = true then some ⟨sContent, ctext, none, em, none, em, em⟩ else some ⟨sContent, em, some (Cb.blk ⟨cty, ctext, cmime, curi, cname, cres⟩), em, none, em, em⟩)
          else if (ty.toList == lDiff) = true then some ⟨sDiff, em, none, path, old, new, em⟩
          else if (ty.toList == lTerm) = true then some ⟨sTerm, em, none, em, none, em, term⟩
          else none) := rfl
      rw [hPt] at HTC
      clear hPt
      cases hlContent : (ty.toList == lContent) with
      | true =>
        rw [hlContent, if_pos rfl] at HTC
        have blContent : (ty.toList == [99, 111, 110, 116, 101, 110, 116]) = true := hlContent
        have qlContent : ty.toList = [99, 111, 110, 116, 101, 110, 116] := by simpa using blContent
        clear hlContent
        go_wp2_with fail
        cases hct : (cty.toList == lText) with
        | true =>
          have htcv : tcv = some ⟨sContent, ctext, none, em, none, em, em⟩ := by rw [← HTC.out, hct, if_pos rfl]
          have HTV := hid htcv
          clear htcv
          refine (content_text cty ctext cmime curi cname rp _ hct).mono ?_
          rintro e w1 ⟨rfl, hk1⟩
          have hw1 : Kp [] wr w1 := ((Kp.refl _ _).alloc _).trans hk1
          have hw1s := hw1.size
          clear hk1 c0 c1 c2 c3 c4 c5 c6 c7 c8 c9 c10
          go_wp2_with (first | (at_builtin; refine wpList_append_own _ rfl (.tmp 29) (.tmp 33) 34 rfl w.heap.size 58 i58 _ 7 96 Try.underlying34 hi58 hz58 hs58 hb58 rfl (by decide) _ out.length (tflat out) rfl (own_kp HO.out (hw1.alloc _)) ⟨w1.heap.size, 0, none⟩ 1 1 _ rfl rfl (news7 w1 (⟨sContent, ctext, none, em, none, em, em⟩ : Tc) none) (one7 _ _) hk63 (by omega) (by simp; omega) ?_; intro va' w9 hoA' hgA _; obtain ⟨g', cap', rfl⟩ := ownsRow_succ hoA'; have HO2 := hid hoA'; have HG2 := hid hgA; clear hoA' hgA) | fail)
          obtain ⟨out', hl', hm', hb', ho', hK'⟩ := tc_step (t := (⟨sContent, ctext, none, em, none, em, em⟩ : Tc)) (bp := none) (hw1.alloc _) hK HO.out HBL.out HOUT.out HT.out (HTC0.out.trans HTV.out) rfl HO2.out HG2.out
          rw [← hl']
          exact ⟨⟨k + 1, out', g', cap', by omega, by go_num, rfl, hm', hb', ho', hK'⟩, by simp [intOf]; omega⟩
        | false =>
          have htcv : tcv = some ⟨sContent, em, some (Cb.blk ⟨cty, ctext, cmime, curi, cname, cres⟩), em, none, em, em⟩ := by rw [← HTC.out, hct]; rfl
          have HTV := hid htcv
          clear htcv
          refine (content_any ⟨cty, ctext, cmime, curi, cname, cres⟩ rp _ (HRES.out.kp ((Kp.refl _ _).alloc _)) hct).mono ?_
          rintro e w1 ⟨bb, rfl, hbb, _, hk1⟩
          have hw1 : Kp [] wr w1 := ((Kp.refl _ _).alloc _).trans hk1
          have hw1s := hw1.size
          have HBB := hid hbb
          clear hk1 c0 c1 c2 c3 c4 c5 c6 c7 c8 c9 c10 hbb
          generalize Cb.blk _ = bk at HBB HTV
          go_wp2_with (first | (at_builtin; refine wpList_append_own _ rfl (.tmp 29) (.tmp 33) 34 rfl w.heap.size 58 i58 _ 7 96 Try.underlying34 hi58 hz58 hs58 hb58 rfl (by decide) _ out.length (tflat out) rfl (own_kp HO.out (hw1.alloc _)) ⟨w1.heap.size, 0, none⟩ 1 1 _ rfl rfl (news7 w1 (⟨sContent, em, some bk, em, none, em, em⟩ : Tc) (some ⟨bb, 0, none⟩)) (one7 _ _) hk63 (by omega) (by simp; omega) ?_; intro va' w9 hoA' hgA _; obtain ⟨g', cap', rfl⟩ := ownsRow_succ hoA'; have HO2 := hid hoA'; have HG2 := hid hgA; clear hoA' hgA) | fail)
          obtain ⟨out', hl', hm', hb', ho', hK'⟩ := tc_step (t := (⟨sContent, em, some bk, em, none, em, em⟩ : Tc)) (bp := (some ⟨bb, 0, none⟩)) (hw1.alloc _) hK HO.out HBL.out HOUT.out HT.out (HTC0.out.trans HTV.out) ⟨bb, rfl, heap_old _ _ HBB.out⟩ HO2.out HG2.out
          rw [← hl']
          exact ⟨⟨k + 1, out', g', cap', by omega, by go_num, rfl, hm', hb', ho', hK'⟩, by simp [intOf]; omega⟩
      | false =>
        rw [hlContent, if_neg (by simp)] at HTC
        cases hlDiff : (ty.toList == lDiff) with
        | true =>
          have htcv : tcv = some ⟨sDiff, em, none, path, old, new, em⟩ := by rw [← HTC.out, hlDiff, if_pos rfl]
          have blContent : (ty.toList == [99, 111, 110, 116, 101, 110, 116]) = false := hlContent
          have qlContent : ¬ ty.toList = [99, 111, 110, 116, 101, 110, 116] := by simpa using blContent
          have blDiff : (ty.toList == [100, 105, 102, 102]) = true := hlDiff
          have qlDiff : ty.toList = [100, 105, 102, 102] := by simpa using blDiff
          clear hlContent
          clear hlDiff
          have HTV := hid htcv
          clear htcv
          go_wp2_with (first | (at_builtin; refine wpList_append_own _ rfl (.tmp 37) (.tmp 45) 34 rfl w.heap.size 58 i58 _ 7 96 Try.underlying34 hi58 hz58 hs58 hb58 rfl (by decide) _ out.length (tflat out) rfl (own_kp HO.out (((Kp.refl [] wr).alloc _).alloc _)) ⟨wr.heap.size + 1, 0, none⟩ 1 1 _ rfl rfl (news7b wr _ (⟨sDiff, em, none, path, old, new, em⟩ : Tc) none) (one7 _ _) hk63 (by omega) (by simp; omega) ?_; intro va' w9 hoA' hgA _; obtain ⟨g', cap', rfl⟩ := ownsRow_succ hoA'; have HO2 := hid hoA'; have HG2 := hid hgA; clear hoA' hgA) | fail)
          obtain ⟨out', hl', hm', hb', ho', hK'⟩ := tc_step (t := (⟨sDiff, em, none, path, old, new, em⟩ : Tc)) (bp := none) (((Kp.refl [] wr).alloc _).alloc _) hK HO.out HBL.out HOUT.out HT.out (HTC0.out.trans HTV.out) rfl HO2.out HG2.out
          rw [← hl']
          exact ⟨⟨k + 1, out', g', cap', by omega, by go_num, rfl, hm', hb', ho', hK'⟩, by simp [intOf]; omega⟩
        | false =>
          rw [hlDiff, if_neg (by simp)] at HTC
          cases hlTerm : (ty.toList == lTerm) with
          | true =>
            have htcv : tcv = some ⟨sTerm, em, none, em, none, em, term⟩ := by rw [← HTC.out, hlTerm, if_pos rfl]
            have blContent : (ty.toList == [99, 111, 110, 116, 101, 110, 116]) = false := hlContent
            have qlContent : ¬ ty.toList = [99, 111, 110, 116, 101, 110, 116] := by simpa using blContent
            have blDiff : (ty.toList == [100, 105, 102, 102]) = false := hlDiff
            have qlDiff : ¬ ty.toList = [100, 105, 102, 102] := by simpa using blDiff
            have blTerm : (ty.toList == [116, 101, 114, 109, 105, 110, 97, 108]) = true := hlTerm
            have qlTerm : ty.toList = [116, 101, 114, 109, 105, 110, 97, 108] := by simpa using blTerm
            clear hlContent
            clear hlDiff
            clear hlTerm
            have HTV := hid htcv
            clear htcv
            go_wp2_with (first | (at_builtin; refine wpList_append_own _ rfl (.tmp 49) (.tmp 53) 34 rfl w.heap.size 58 i58 _ 7 96 Try.underlying34 hi58 hz58 hs58 hb58 rfl (by decide) _ out.length (tflat out) rfl (own_kp HO.out (((Kp.refl [] wr).alloc _).alloc _)) ⟨wr.heap.size + 1, 0, none⟩ 1 1 _ rfl rfl (news7b wr _ (⟨sTerm, em, none, em, none, em, term⟩ : Tc) none) (one7 _ _) hk63 (by omega) (by simp; omega) ?_; intro va' w9 hoA' hgA _; obtain ⟨g', cap', rfl⟩ := ownsRow_succ hoA'; have HO2 := hid hoA'; have HG2 := hid hgA; clear hoA' hgA) | fail)
            obtain ⟨out', hl', hm', hb', ho', hK'⟩ := tc_step (t := (⟨sTerm, em, none, em, none, em, term⟩ : Tc)) (bp := none) (((Kp.refl [] wr).alloc _).alloc _) hK HO.out HBL.out HOUT.out HT.out (HTC0.out.trans HTV.out) rfl HO2.out HG2.out
            rw [← hl']
            exact ⟨⟨k + 1, out', g', cap', by omega, by go_num, rfl, hm', hb', ho', hK'⟩, by simp [intOf]; omega⟩
          | false =>
            have htcv : tcv = none := by rw [← HTC.out, hlTerm]; rfl
            have HTV := hid htcv
            clear htcv
            have blContent : (ty.toList == [99, 111, 110, 116, 101, 110, 116]) = false := hlContent
            have qlContent : ¬ ty.toList = [99, 111, 110, 116, 101, 110, 116] := by simpa using blContent
            have blDiff : (ty.toList == [100, 105, 102, 102]) = false := hlDiff
            have qlDiff : ¬ ty.toList = [100, 105, 102, 102] := by simpa using blDiff
            have blTerm : (ty.toList == [116, 101, 114, 109, 105, 110, 97, 108]) = false := hlTerm
            have qlTerm : ¬ ty.toList = [116, 101, 114, 109, 105, 110, 97, 108] := by simpa using blTerm
            clear hlContent
            clear hlDiff
            clear hlTerm
            go_wp2_with fail
            exact ⟨⟨k + 1, out, g, c, by omega, by go_num, rfl, by rw [HT.out, List.filterMap_append, HOUT.out]; simp [HTC0.out, HTV.out], fun x hx => (HBL.out x hx).kp (((Kp.refl _ _)).alloc _), own_kp HO.out ((Kp.refl _ _).alloc _), hK.alloc _⟩, by simp [intOf]; omega⟩
    · have hkn : n = k := by omega
      subst hkn
      go_wp2_with fail
      go_ret
      exact ⟨out, g, c, by rw [HOUT.out, List.take_of_length_le (by have := HN.out; omega)], HBL.out, rfl, HO.out, hK⟩

end Go.Proofs.Qxb6613960a
