/-
  zzCutModel, walked.
-/
import Derived.Test.Qxb6613301aCn
set_option linter.unusedVariables false
set_option linter.unusedSimpArgs false
namespace Go.Proofs.Qxb6613301a
open Go.RowKit

def mAns (last best : Int) : Int := if last < 0 then 0 else if best < 0 then last else best

set_option maxRecDepth 100000 in
set_option maxHeartbeats 4000000 in
theorem model20 (its : List It) (a : Option Addr) (cap : Nat) (bud : Int) (w : World) (hl : its.length ≤ 4096) (hs : ISl w a its) (hsuf : ∀ k, suf its k ≤ 1048576) :
    Calls Try.prog 20 #[.slice a its.length cap, .int .i64 bud] w fun e w' => ∃ last best : Int, e = .returned (.int .i64 (mAns last best)) ∧ MInv its bud its.length last best ∧ Kp [] w w' := by
  obtain ⟨n, hn⟩ : ∃ n, n = its.length := ⟨_, rfl⟩
  rw [← hn] at hl ⊢
  have HN := hid hn
  have HS := hid hs
  have HSU := hid hsuf
  have hmk1 := run_make_any 60 9 _ 1 16 Try.underlying60 info9 n (by omega) (by omega)
  have hmk2 := run_make_any 22 3 _ 1 8 Try.underlying22 info3 n (by omega) (by omega)
  have hmk3 := run_make_any 22 3 _ 1 8 Try.underlying22 info3 (n + 1) (by omega) (by omega)
  rw [show ((n + 1 : Nat) : Int) = (n : Int) + 1 from by omega] at hmk3
  have hr1 : ∀ w : World, RowS (w.alloc (.cells (madeCells (Value.string ⟨#[]⟩).cells (n * 1)) 9)) w.heap.size (List.replicate n ⟨#[]⟩) := fun w => RowS.new w n
  have hr2 : ∀ w : World, RowI (w.alloc (.cells (madeCells (Value.int .i64 0).cells (n * 1)) 3)) w.heap.size (List.replicate n 0) := fun w => RowI.new w n
  have hr3 : ∀ w : World, RowI (w.alloc (.cells (madeCells (Value.int .i64 0).cells ((n + 1) * 1)) 3)) w.heap.size (List.replicate (n + 1) 0) := fun w => RowI.new w (n + 1)
  generalize (madeCells (Value.string ⟨#[]⟩).cells (n * 1)) = M1 at hmk1 hr1
  generalize (madeCells (Value.int .i64 0).cells (n * 1)) = M2 at hmk2 hr2
  generalize (madeCells (Value.int .i64 0).cells ((n + 1) * 1)) = M3 at hmk3 hr3
  have HR1 := hid hr1
  have HR2 := hid hr2
  have HR3 := hid hr3
  clear hn hs hsuf hr1 hr2 hr3
  go_enter Try.func20, Try.ntmps20
  go_wp2_with fail
  obtain ⟨IB, hIB⟩ : ∃ IB, IB = w.heap.size := ⟨_, rfl⟩
  have hr := HR1.out w
  rw [← hIB] at hr ⊢
  have HIB := hid hIB
  clear hIB
  go_loopw [7] (fun i wr => ∃ (k : Nat) (xs : List ByteArray), k ≤ n ∧ i = .int .i64 k ∧ RowS wr IB xs ∧ xs.length = n ∧ Idss its k xs ∧ Kp [] w wr) (fun i _ => n - (intOf i).toNat)
  case atStart => exact ⟨0, _, Nat.zero_le _, rfl, hr, by simp, fun j hj => by omega, (Kp.refl _ _).alloc _⟩
  case round =>
    obtain ⟨k, xs, hk, rfl, hrow, hxl, hids, hK⟩ := hrel
    have HROW := hid hrow
    have HIDS := hid hids
    clear hrow hids hr
    by_cases hlt : k < n
    · obtain ⟨t, ht⟩ : ∃ t, its[k]? = some t := ⟨its[k]'(by rw [← HN.out]; exact hlt), by simp⟩
      obtain ⟨b, o, rfl, c0, c1, c2, c3, c4⟩ := HS.out k t ht
      have c0 := hK.cell c0 (by simp)
      have c1 := hK.cell c1 (by simp)
      have c2 := hK.cell c2 (by simp)
      have c3 := hK.cell c3 (by simp)
      have c4 := hK.cell c4 (by simp)
      have hgt := gid_at ht
      have h31 := zzPaired31 t
      obtain ⟨ty, id, call, role, raw⟩ := t
      dsimp only [It.agg] at c0 c1 c2 c3 c4 h31
      have HG := hid hgt
      clear ht hgt
      obtain ⟨v0, hv0⟩ : ∃ v, xs[k]? = some v := ⟨xs[k]'(by omega), by simp⟩
      go_wp2_with fail
      refine (h31 _).mono ?_
      clear h31
      rintro e w1 ⟨rfl, hk1⟩
      have hr1 := HROW.out.kp hk1 (by simp)
      have d0 := hr1.cell hv0
      have f0 := hr1.frozen k
      have hK1 := hK.trans hk1
      have HR := hid hr1
      clear hr1 hk1 c0 c1 c2 c3 c4
      go_wp2_with fail
      exact ⟨⟨k + 1, xs.set k _, by omega, by go_num, HR.out.set k _, by simpa using hxl, by rw [← HG.out]; exact HIDS.out.set (by omega), hK1.setCell (Or.inr (by show w.heap.size ≤ IB; rw [← HIB.out]; exact Nat.le_refl _)) _⟩, by simp [intOf]; omega⟩
    · have hkn : n = k := by omega
      subst hkn
      go_wp2_with fail
      have rF := (HR2.out wr).old (.cells M2 3)
      have rL := HR2.out (wr.alloc (.cells M2 3))
      have rS := (HROW.out.old (.cells M2 3)).old (.cells M2 3)
      have hK2 : Kp [] w ((wr.alloc (.cells M2 3)).alloc (.cells M2 3)) := (hK.alloc _).alloc _
      have hne : w.heap.size < wr.heap.size := by have := lt_of_at HROW.out; have := HIB.out; omega
      rw [World.size_alloc] at rL
      generalize ((wr.alloc (.cells M2 3)).alloc (.cells M2 3)) = w2 at rF rL rS hK2 ⊢
      obtain ⟨FB, hFB⟩ : ∃ FB, FB = wr.heap.size := ⟨_, rfl⟩
      rw [← hFB] at rF rL ⊢
      obtain ⟨LB, hLB⟩ : ∃ LB, LB = FB + 1 := ⟨_, rfl⟩
      rw [← hLB] at rL ⊢
      have n1 : IB < FB := by have := HIB.out; omega
      have n2 : FB < LB := by omega
      have n0 : w.heap.size ≤ IB := by have := HIB.out; omega
      clear hFB hLB hne hK HROW
      go_loopw [10] (fun i wr => ∃ (k : Nat) (fs ls : List Int), k ≤ n ∧ i = .int .i64 k ∧ RowS wr IB xs ∧ RowI wr FB fs ∧ RowI wr LB ls ∧ fs.length = n ∧ ls.length = n ∧ Firsts its k fs ∧ Lasts its k ls ∧ Kp [] w wr) (fun i _ => n - (intOf i).toNat)
      case atStart => exact ⟨0, _, _, Nat.zero_le _, rfl, rS, rF, rL, by simp, by simp, fun j hj => by omega, fun j hj => by omega, hK2⟩
      case round =>
        obtain ⟨k, fs, ls, hk2, rfl, qS, qF, qL, hfl, hll, hfi, hla, hK⟩ := hrel
        clear rF rL rS hK2
        by_cases hlt : k < n
        · have hxk := HIDS.out k hlt
          have d0 := qS.cell hxk
          obtain ⟨f0, hf0⟩ : ∃ v, fs[k]? = some v := ⟨fs[k]'(by omega), by simp⟩
          obtain ⟨l0, hl0⟩ : ∃ v, ls[k]? = some v := ⟨ls[k]'(by omega), by simp⟩
          have d1 := qF.cell hf0
          have d2 := qL.cell hl0
          have e1 := qF.frozen k
          have e2 := qL.frozen k
          have m1 : FB ≠ LB := by omega
          have m2 : IB ≠ FB := by omega
          have m3 : IB ≠ LB := by omega
          have m1' : LB ≠ FB := by omega
          have qF' : ∀ u : Int, ∀ v : Int, RowI ((wr.setCell ⟨FB, k, none⟩ (.int .i64 u)).setCell ⟨LB, k, none⟩ (.int .i64 v)) FB (fs.set k u) := fun u v => (qF.set k u).other _ _ m1
          have qL' : ∀ u : Int, ∀ v : Int, RowI ((wr.setCell ⟨FB, k, none⟩ (.int .i64 u)).setCell ⟨LB, k, none⟩ (.int .i64 v)) LB (ls.set k v) := fun u v => (qL.other _ _ m1').set k v
          have qS' : ∀ u : Int, ∀ v : Int, RowS ((wr.setCell ⟨FB, k, none⟩ (.int .i64 u)).setCell ⟨LB, k, none⟩ (.int .i64 v)) IB xs := fun u v => (qS.other _ _ m2).other _ _ m3
          have hK' : ∀ u : Int, ∀ v : Int, Kp [] w ((wr.setCell ⟨FB, k, none⟩ (.int .i64 u)).setCell ⟨LB, k, none⟩ (.int .i64 v)) := fun u v => (hK.setCell (Or.inr (by show w.heap.size ≤ FB; omega)) _).setCell (Or.inr (by show w.heap.size ≤ LB; omega)) _
          have QF := hid qF'
          have QL := hid qL'
          have QS := hid qS'
          have QK := hid hK'
          have HFI := hid hfi
          have HLA := hid hla
          have HXK := hid hxk
          clear qF' qL' qS' hK' qF qL qS hfi hla hxk
          obtain ⟨gk, hgk⟩ : ∃ gk, gk = gid its k := ⟨_, rfl⟩
          rw [← hgk] at d0
          have hglk : gl its k = gk.toList := by rw [hgk]; rfl
          have HGL := hid hglk
          have HGK := hid hgk
          clear hgk hglk
          by_cases he : gk.toList = []
          · have he' : gk.toList.isEmpty = true := by rw [he]; rfl
            go_wp2_with fail
            exact ⟨⟨k + 1, fs.set k (k : Int), ls.set k (k : Int), by omega, by go_num, QS.out _ _, QF.out _ _, QL.out _ _, by simpa using hfl, by simpa using hll, HFI.out.set (by omega) k (fun h => absurd (HGL.out.trans he) h), HLA.out.set (by omega) k (fun h => absurd (HGL.out.trans he) h), QK.out _ _⟩, by simp [intOf]; omega⟩
          · have he' : gk.toList.isEmpty = false := by simpa using he
            go_wp2_with fail
            have qF := QF.out (k : Int) (k : Int)
            have qL := QL.out (k : Int) (k : Int)
            have qS := QS.out (k : Int) (k : Int)
            have hK3 := QK.out (k : Int) (k : Int)
            generalize ((wr.setCell ⟨FB, k, none⟩ (.int .i64 (k : Int))).setCell ⟨LB, k, none⟩ (.int .i64 (k : Int))) = w3 at qF qL qS hK3 ⊢
            clear QF QL QS QK d0 d1 d2 e1 e2 hf0 hl0
            go_loopw [11] (fun i wr => ∃ (m f l : Nat), m ≤ n ∧ i = .int .i64 m ∧ RowS wr IB xs ∧ RowI wr FB (fs.set k (f : Int)) ∧ RowI wr LB (ls.set k (l : Int)) ∧ FirstTo its k m f ∧ LastTo its k m l ∧ Kp [] w wr) (fun i _ => n - (intOf i).toNat)
            case atStart => exact ⟨0, k, k, Nat.zero_le _, rfl, qS, qF, qL, ⟨Nat.le_refl _, rfl, fun i hi => by omega⟩, ⟨Nat.le_refl _, by have := HN.out; omega, rfl, fun i hi => by omega⟩, hK3⟩
            case round =>
              obtain ⟨m, f, l, hm, rfl, tS, tF, tL, hf, hl', hKm⟩ := hrel
              have HF := hid hf
              have HL := hid hl'
              have hfk : f ≤ k := hf.1
              have hln : l < n := by rw [HN.out]; exact hl'.2.1
              clear hf hl' qF qL qS hK3
              by_cases hmn : m < n
              · have hxm := HIDS.out m hmn
                obtain ⟨gm, hgm⟩ : ∃ gm, gm = gid its m := ⟨_, rfl⟩
                rw [← hgm] at hxm
                have hglm : gl its m = gm.toList := by rw [hgm]; rfl
                have d0 := tS.cell hxm
                have d0k := tS.cell HXK.out
                rw [← HGK.out] at d0k
                have d1 := tF.cell (k := k) (v := (f : Int)) (by simp [hfl, hlt])
                have d2 := tL.cell (k := k) (v := (l : Int)) (by simp [hll, hlt])
                have e1 := tF.frozen k
                have e2 := tL.frozen k
                have TS := hid tS
                have TF := hid tF
                have TL := hid tL
                have HGM := hid hglm
                clear tS tF tL hglm hxm hgm
                by_cases heq : gm.toList = gk.toList
                · have heb : (gm.toList == gk.toList) = true := by simpa using heq
                  have hgg : gl its m = gl its k := by rw [HGM.out, HGL.out, heq]
                  have HGG := hid hgg
                  clear hgg
                  have sF : RowI (wr.setCell ⟨FB, k, none⟩ (.int .i64 (m : Int))) FB (fs.set k (m : Int)) := by have := TF.out.set k (m : Int); rwa [List.set_set] at this
                  have sL : RowI (wr.setCell ⟨LB, k, none⟩ (.int .i64 (m : Int))) LB (ls.set k (m : Int)) := by have := TL.out.set k (m : Int); rwa [List.set_set] at this
                  have SF := hid sF
                  have SL := hid sL
                  clear sF sL
                  have lt1 : ∀ i, i < m + 1 → ¬ i < m → i = m := fun i _ _ => by omega
                  by_cases c1 : m < f
                  · have c1' : (m : Int) < (f : Int) := by omega
                    have c2' : ¬ ((l : Int) < (m : Int)) := by have := HL.out.1; omega
                    have c2d : decide ((l : Int) < (m : Int)) = false := by simpa using c2'
                    go_wp2_with fail
                    go_quiet (fail)
                    go_wp2_with fail
                    exact ⟨⟨m + 1, m, l, by omega, by go_num, TS.out.other _ _ m2, SF.out, TL.out.other _ _ m1', ⟨by omega, HGG.out, fun i hi e => by
                        by_cases h : i < m
                        · have := HF.out.2.2 i h e; omega
                        · omega⟩, ⟨HL.out.1, HL.out.2.1, HL.out.2.2.1, fun i hi e => by
                        by_cases h : i < m
                        · exact HL.out.2.2.2 i h e
                        · have := HL.out.1; omega⟩, (hKm.drewN _).setCell (p := ⟨FB, k, none⟩) (Or.inr (by show w.heap.size ≤ FB; omega)) _⟩, by simp [intOf]; omega⟩
                  · have c1' : ¬ ((m : Int) < (f : Int)) := by omega
                    have c1d : decide ((m : Int) < (f : Int)) = false := by simpa using c1'
                    by_cases c2 : l < m
                    · have c2' : (l : Int) < (m : Int) := by omega
                      go_wp2_with fail
                      go_quiet (fail)
                      go_wp2_with fail
                      exact ⟨⟨m + 1, f, m, by omega, by go_num, TS.out.other _ _ m3, TF.out.other _ _ m1, SL.out, ⟨HF.out.1, HF.out.2.1, fun i hi e => by
                          by_cases h : i < m
                          · exact HF.out.2.2 i h e
                          · omega⟩, ⟨by have := HL.out.1; omega, by rw [← HN.out]; exact hmn, HGG.out, fun i hi e => by omega⟩, (hKm.drewN _).setCell (p := ⟨LB, k, none⟩) (Or.inr (by show w.heap.size ≤ LB; omega)) _⟩, by simp [intOf]; omega⟩
                    · have c2' : ¬ ((l : Int) < (m : Int)) := by omega
                      have c2d : decide ((l : Int) < (m : Int)) = false := by simpa using c2'
                      go_wp2_with fail
                      go_quiet (fail)
                      go_wp2_with fail
                      exact ⟨⟨m + 1, f, l, by omega, by go_num, TS.out, TF.out, TL.out, ⟨HF.out.1, HF.out.2.1, fun i hi e => by
                          by_cases h : i < m
                          · exact HF.out.2.2 i h e
                          · omega⟩, ⟨HL.out.1, HL.out.2.1, HL.out.2.2.1, fun i hi e => by
                          by_cases h : i < m
                          · exact HL.out.2.2.2 i h e
                          · omega⟩, hKm.drewN _⟩, by simp [intOf]; omega⟩
                · have heb : (gm.toList == gk.toList) = false := by simpa using heq
                  go_wp2_with fail
                  go_quiet (fail)
                  go_wp2_with fail
                  have hno : ∀ i, i < m + 1 → gl its i = gl its k → i < m := fun i hi e => by
                    by_cases e2 : i = m
                    · subst e2; rw [HGM.out, HGL.out] at e; exact absurd e heq
                    · omega
                  exact ⟨⟨m + 1, f, l, by omega, by go_num, TS.out, TF.out, TL.out, ⟨HF.out.1, HF.out.2.1, fun i hi e => HF.out.2.2 i (hno i hi e) e⟩, ⟨HL.out.1, HL.out.2.1, HL.out.2.2.1, fun i hi e => HL.out.2.2.2 i (hno i hi e) e⟩, hKm.drewN _⟩, by simp [intOf]; omega⟩
              · have hmm : n = m := by omega
                subst hmm
                go_wp2_with fail
                exact ⟨⟨k + 1, fs.set k (f : Int), ls.set k (l : Int), by omega, by go_num, tS, tF, tL, by simpa using hfl, by simpa using hll, HFI.out.set (by omega) f (fun _ => by rw [← HN.out]; exact HF.out), HLA.out.set (by omega) l (fun _ => by rw [← HN.out]; exact HL.out), hKm⟩, by simp [intOf]; omega⟩
        · have hkn : n = k := by omega
          subst hkn
          go_wp2_with fail
          have rZ := HR3.out wr
          have kS := qS.old (.cells M3 3)
          have kF := qF.old (.cells M3 3)
          have kL := qL.old (.cells M3 3)
          have hK4 : Kp [] w (wr.alloc (.cells M3 3)) := hK.alloc _
          have nz : LB < wr.heap.size := lt_of_at qL
          generalize (wr.alloc (.cells M3 3)) = w4 at rZ kS kF kL hK4 ⊢
          generalize wr.heap.size = SB at rZ nz ⊢
          have HFI := hid hfi
          have HLA := hid hla
          clear qS qF qL hfi hla hK
          go_loopw [13] (fun i wr => ∃ (r : Nat) (zs : List Int), r ≤ n ∧ i = .int .i64 ((r : Int) - 1) ∧ RowS wr IB xs ∧ RowI wr FB fs ∧ RowI wr LB ls ∧ RowI wr SB zs ∧ zs.length = n + 1 ∧ Sufs its r zs ∧ Kp [] w wr) (fun i _ => (intOf i + 1).toNat)
          case atStart => exact ⟨n, _, Nat.le_refl _, rfl, kS, kF, kL, rZ, by simp, fun j hj hjn => by
            have e : j = n := by have := HN.out; omega
            subst e
            rw [show suf its j = 0 from by rw [HN.out]; exact suf_end its]
            simp, hK4⟩
          case round =>
            obtain ⟨r, zs, hr, rfl, qS, qF, qL, qZ, hzl, hsu, hK⟩ := hrel
            clear rZ kS kF kL hK4
            cases r with
            | succ i =>
              rw [show ((i + 1 : Nat) : Int) - 1 = (i : Int) from by omega]
              have hin : i < n := by omega
              obtain ⟨t, ht⟩ : ∃ t, its[i]? = some t := ⟨its[i]'(by rw [← HN.out]; exact hin), by simp⟩
              obtain ⟨b, o, rfl, c0, c1, c2, c3, c4⟩ := HS.out i t ht
              have c4 := hK.cell c4 (by simp)
              have hsf := suf_at ht
              have hsm := HSU.out i
              obtain ⟨ty, id, call, role, raw⟩ := t
              dsimp only at c4 hsf
              have hz1 := hsu (i + 1) (Nat.le_refl _) (by have := HN.out; omega)
              obtain ⟨z0, hz0⟩ : ∃ v, zs[i]? = some v := ⟨zs[i]'(by omega), by simp⟩
              have d1 := qZ.cell hz1
              have d0 := qZ.cell hz0
              have e0 := qZ.frozen i
              have QS := hid qS
              have QF := hid qF
              have QL := hid qL
              have QZ := hid qZ
              have HSF := hid hsf
              have HSU2 := hid hsu
              have hsz : suf its (i + 1) + raw.size ≤ 1048576 := by omega
              generalize suf its (i + 1) = s1 at d1 hsz HSF hz1
              clear qS qF qL qZ hsf hsu c0 c1 c2 c3 ht hsm hz0 hz1
              have hin4 : i ≤ 4096 := by omega
              go_wp2_with fail
              go_region
              all_goals
                go_wp2_with fail
                exact ⟨⟨i, zs.set i ((s1 + raw.size : Nat) : Int), by omega, by go_num, QS.out.other ⟨SB, i, none⟩ _ (by show IB ≠ SB; omega), QF.out.other ⟨SB, i, none⟩ _ (by show FB ≠ SB; omega), QL.out.other ⟨SB, i, none⟩ _ (by show LB ≠ SB; omega), by have := QZ.out.set i ((s1 + raw.size : Nat) : Int); exact this, by simpa using hzl, by rw [← HSF.out]; exact HSU2.out.set (by omega), (hK.setCell (p := ⟨SB, i, none⟩) (Or.inr (by show w.heap.size ≤ SB; omega)) _).drew⟩, by first | (simp [intOf]; omega) | simp [intOf]⟩
            | zero =>
              rw [show ((0 : Nat) : Int) - 1 = -1 from by omega]
              go_wp2_with fail
              have QS := hid qS
              have QF := hid qF
              have QL := hid qL
              have QZ := hid qZ
              have HSU2 := hid hsu
              have hK5 := hK
              clear qS qF qL qZ hsu hK
              go_loopw [14, 15, 16] (fun la be i wx => ∃ (c : Nat) (last best : Int), c ≤ n ∧ la = .int .i64 last ∧ be = .int .i64 best ∧ i = .int .i64 c ∧ MInv its bud c last best ∧ Kp [] wr wx) (fun _ _ i _ => n - (intOf i).toNat)
              case atStart => exact ⟨0, -1, -1, Nat.zero_le _, rfl, rfl, rfl, ⟨Or.inl ⟨rfl, fun i hi => by omega⟩, Or.inl ⟨rfl, fun i hi => by omega⟩⟩, Kp.refl _ _⟩
              case round =>
                rename_i wx
                obtain ⟨c, last, best, hc, rfl, rfl, rfl, hmi, hKx⟩ := hrel
                have HMI := hid hmi
                clear hmi
                by_cases hcn : c < n
                · obtain ⟨t, ht⟩ : ∃ t, its[c]? = some t := ⟨its[c]'(by rw [← HN.out]; exact hcn), by simp⟩
                  obtain ⟨b, o, rfl, c0, c1, c2, c3, c4⟩ := HS.out c t ht
                  have hKw := hK5.trans hKx
                  have c0 := hKw.cell c0 (by simp)
                  have c1 := hKw.cell c1 (by simp)
                  have c2 := hKw.cell c2 (by simp)
                  have c3 := hKw.cell c3 (by simp)
                  have c4 := hKw.cell c4 (by simp)
                  have hus := usr_at ht
                  have h32 := zzUser32 t
                  obtain ⟨ty, id, call, role, raw⟩ := t
                  dsimp only [It.agg] at c0 c1 c2 c3 c4 h32
                  generalize It.user _ = us at hus h32
                  have HUS := hid hus
                  clear hus ht
                  go_wp2_with fail
                  refine (h32 _).mono ?_
                  clear h32
                  rintro e w6 ⟨rfl, hk6⟩
                  have hK6 := hKx.trans hk6
                  clear c0 c1 c2 c3 c4 hk6 hKw hKx
                  cases us
                  · go_wp2_with fail
                    exact ⟨⟨c + 1, last, best, by omega, rfl, rfl, by go_num, HMI.out.skip (fun h => by rw [ts, HUS.out] at h; exact absurd h.1 (by simp)), hK6⟩, by simp [intOf]; omega⟩
                  · have q1 := QS.out.kp hK6 (by simp)
                    have q2 := QF.out.kp hK6 (by simp)
                    have q3 := QL.out.kp hK6 (by simp)
                    have q4 := QZ.out.kp hK6 (by simp)
                    have Q1 := hid q1
                    have Q2 := hid q2
                    have Q3 := hid q3
                    have hsc := q4.cell (HSU2.out c (Nat.zero_le _) (by have := HN.out; omega))
                    have hscb := HSU.out c
                    clear q1 q2 q3 q4
                    go_wp2_with fail
                    go_loopw [17, 18] (fun p j wy => ∃ m : Nat, m ≤ n ∧ p = .bool false ∧ j = .int .i64 m ∧ (∀ j, j < m → ∀ f l : Nat, fs[j]? = some (f : Int) → ls[j]? = some (l : Int) → ¬ cnd its c f l j) ∧ wy = w6) (fun _ j _ => n - (intOf j).toNat)
                    case atStart => exact ⟨0, Nat.zero_le _, rfl, rfl, fun j hj => by omega, rfl⟩
                    case round =>
                      obtain ⟨m, hm, rfl, rfl, hall, rfl⟩ := hrel
                      have HALL := hid hall
                      clear hall
                      by_cases hmn : m < n
                      · obtain ⟨f, hf1, hf2⟩ := HFI.out m hmn
                        obtain ⟨l, hl1, hl2⟩ := HLA.out m hmn
                        have hxm := HIDS.out m hmn
                        have d0 := Q1.out.cell hxm
                        have d1 := Q2.out.cell hf1
                        have d2 := Q3.out.cell hl1
                        obtain ⟨gm, hgm⟩ : ∃ gm, gm = gid its m := ⟨_, rfl⟩
                        rw [← hgm] at d0
                        have hglm : gl its m = gm.toList := by rw [hgm]; rfl
                        have HGM := hid hglm
                        have HF1 := hid hf1
                        have HF2 := hid hf2
                        have HL1 := hid hl1
                        have HL2 := hid hl2
                        clear hf1 hf2 hl1 hl2 hxm hgm hglm
                        have nx : ¬ cnd its c f l m → ∀ j, j < m + 1 → ∀ f l : Nat, fs[j]? = some (f : Int) → ls[j]? = some (l : Int) → ¬ cnd its c f l j := fun hno j hj f' l' h1 h2 => by
                          by_cases e : j = m
                          · subst e
                            rw [HF1.out] at h1
                            rw [HL1.out] at h2
                            cases h1
                            cases h2
                            exact hno
                          · exact HALL.out j (by omega) f' l' h1 h2
                        have NX := hid nx
                        clear nx
                        by_cases he : gm.toList = []
                        · have he' : gm.toList.isEmpty = true := by rw [he]; rfl
                          go_wp2_with fail
                          exact ⟨⟨m + 1, by omega, rfl, by go_num, NX.out (fun h => h.1 (by rw [HGM.out]; exact he)), by first | rfl | trivial⟩, by simp [intOf]; omega⟩
                        · have he' : gm.toList.isEmpty = false := by simpa using he
                          by_cases g1 : f < c
                          · have g1' : (f : Int) < (c : Int) := by omega
                            by_cases g2 : c ≤ l
                            · have g2' : (c : Int) ≤ (l : Int) := by omega
                              go_wp2_with fail
                              exact ⟨⟨c + 1, last, best, by omega, rfl, rfl, by go_num, HMI.out.skip (fun h => h.2 (part_of (by have := HN.out; omega) HF2.out HL2.out ⟨by rw [HGM.out]; exact he, g1, g2⟩)), hK6⟩, by simp [intOf]; omega⟩
                            · have g2' : ¬ ((c : Int) ≤ (l : Int)) := by omega
                              have g2d : decide ((c : Int) ≤ (l : Int)) = false := by simpa using g2'
                              go_wp2_with fail
                              exact ⟨⟨m + 1, by omega, rfl, by go_num, NX.out (fun h => g2 h.2.2), by first | rfl | trivial⟩, by simp [intOf]; omega⟩
                          · have g1' : ¬ ((f : Int) < (c : Int)) := by omega
                            have g1d : decide ((f : Int) < (c : Int)) = false := by simpa using g1'
                            go_wp2_with fail
                            exact ⟨⟨m + 1, by omega, rfl, by go_num, NX.out (fun h => g1 h.2.1), by first | rfl | trivial⟩, by simp [intOf]; omega⟩
                      · have hmm : m = its.length := by have := HN.out; omega
                        have hts : ts its c := ⟨HUS.out, not_part (by rw [← HN.out]; exact HFI.out) (by rw [← HN.out]; exact HLA.out) (by rw [← hmm]; exact HALL.out)⟩
                        have hnext := HMI.out.take hts
                        have HNX := hid hnext
                        clear hnext hts hmm
                        generalize suf its c = sc at hsc hscb HNX
                        by_cases b0 : best < 0
                        · by_cases s0 : (sc : Int) ≤ bud
                          · go_wp2_with fail
                            exact ⟨⟨c + 1, c, c, by omega, rfl, rfl, by go_num, by have := HNX.out; rwa [if_pos ⟨b0, s0⟩] at this, hK6⟩, by simp [intOf]; omega⟩
                          · have s0d : decide ((sc : Int) ≤ bud) = false := by simpa using s0
                            go_wp2_with fail
                            exact ⟨⟨c + 1, c, best, by omega, rfl, rfl, by go_num, by have := HNX.out; rwa [if_neg (fun h => s0 h.2)] at this, hK6⟩, by simp [intOf]; omega⟩
                        · have b0d : decide (best < 0) = false := by simpa using b0
                          go_wp2_with fail
                          exact ⟨⟨c + 1, c, best, by omega, rfl, rfl, by go_num, by have := HNX.out; rwa [if_neg (fun h => b0 h.1)] at this, hK6⟩, by simp [intOf]; omega⟩
                · have hcc : n = c := by omega
                  subst hcc
                  by_cases l0 : last < 0
                  · go_wp2_with fail
                    go_ret
                    exact ⟨last, best, by unfold mAns; rw [if_pos l0]; rfl, HMI.out, hK5.trans hKx⟩
                  · have l0d : decide (last < 0) = false := by simpa using l0
                    by_cases b0 : best < 0
                    · have HA := hid (show mAns last best = last by unfold mAns; rw [if_neg l0, if_pos b0])
                      go_wp2_with fail
                      go_ret
                      exact ⟨last, best, by rw [HA.out]; rfl, HMI.out, hK5.trans hKx⟩
                    · have b0d : decide (best < 0) = false := by simpa using b0
                      have HA := hid (show mAns last best = best by unfold mAns; rw [if_neg l0, if_neg b0])
                      go_wp2_with fail
                      go_ret
                      exact ⟨last, best, by rw [HA.out]; rfl, HMI.out, hK5.trans hKx⟩

end Go.Proofs.Qxb6613301a
