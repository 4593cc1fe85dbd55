/-
  toolCallOf, walked.
-/
import Derived.Test.Qxb6613960aAv
set_option linter.unusedVariables false
set_option linter.unusedSimpArgs false
namespace Go.Proofs.Qxb6613960a
open Go.RowKit

attribute [-go_sem] loadVar
attribute [-go_sem] storeVar

set_option maxRecDepth 100000 in
set_option maxHeartbeats 2000000 in
theorem toolCallOf_all (typ id : ByteArray) (title kind status : Option Addr) (ls : List Lc) (la : Option Addr) (ps : List Pt) (pa : Option Addr) (xl : Option Addr) (nl cl : Nat) (xp : Option Addr) (np cp : Nat) (w : World)
    (hll : ls.length ≤ 65537) (hL : LV w 110 la (.slice xl nl cl) ls) (hpl : ps.length ≤ 65537) (hP : PV w pa (.slice xp np cp) ps) (ti ki st : ByteArray) (hti : SP w title ti) (hki : SP w kind ki) (hsta : SP w status st) :
    Calls Try.prog 24 #[.string typ, .agg #[.string id, .pointer title, .pointer kind, .pointer status, .slice xl nl cl, .slice xp np cp]] w fun e w' =>
      ∃ x n c x' n' c', e = .returned (.agg (evArr typ id ti ki st (.slice x n c) (.slice x' n' c'))) ∧ LV w' 51 la (.slice x n c) ls ∧ EV w' pa (.slice x' n' c') (ps.filterMap Pt.tc) ∧ Kp [] w w' := by
  have HL := hid hL
  have HP := hid hP
  have HTI := hid hti
  have HKI := hid hki
  have HST := hid hsta
  clear hL hP hti hki hsta
  have hl9 := load9
  have hl22 := load22
  have hl43 := load43
  have hl44 := load44
  have hs9 := store9
  have hst := fun wx g x n c x' n' c' => store41 wx g typ id em em em x n c x' n' c'
  simp only [evArr, em] at hst
  have hnew := fun (wx : World) (Z : Array Value) (h : Z.size = 34) => there_at (heap_push wx (.cells Z 41)) h
  go_enter Try.func24, Try.ntmps24
  go_upto_region 1 with fail
  generalize hW : (w.alloc _).alloc _ = W0
  have hbx : BoxAt W0 w.heap.size id title kind status (.slice xl nl cl) (.slice xp np cp) := by rw [← hW]; constructor <;> simp [go_sem]
  have HBX := hid hbx
  have kW : Kp [] w W0 := by rw [← hW]; exact ((Kp.refl _ _).alloc _).alloc _
  have C30 := hid (fun wx k => loc_box W0 _ _ _ _ _ _ _ hbx ls la hll (HL.out.kp kW) wx k)
  have C31 := hid (fun wx k => cont_box W0 _ _ _ _ _ _ _ hbx ps pa hpl (HP.out.kp kW) wx k)
  obtain ⟨b0, b1, b2, b3, b4, b5⟩ := hbx
  have hsz : W0.heap.size = w.heap.size + 2 := by rw [← hW]; simp
  have n0 : W0.heap.size ≠ w.heap.size := by omega
  have n1 := n0.symm
  have HS := hid hsz
  have hR : W0.heap[w.heap.size + 1]? = some (.cells #[.int .i64 0, .string em, .int .u64 0, .int .i64 0, .pointer none, .string em, .string em, .string em, .pointer none, .string em, .string em, .string em, .string em, .string em, .string em, .slice none 0 0, .string em, .string em, .string em, .string em, .string em, .string em, .bool false, .string em, .slice none 0 0, .slice none 0 0, .slice none 0 0, .slice none 0 0, .slice none 0 0, .slice none 0 0, .int .i64 0, .string em, .string em, .slice none 0 0] 41 (0, 0)) := by rw [← hW]; exact heap_push2 _ _ _
  have HR := hid hR
  clear hW hsz hR
  go_cut [5] (fun s5 wx => ∃ g x n c x' n' c', s5 = .pointer (some ⟨g, 0, none⟩) ∧ wx.heap[g]? = some (.cells (evArr typ id em em em (.slice x n c) (.slice x' n' c')) 41 (0, 0)) ∧ W0.heap.size ≤ g ∧ LV wx 51 la (.slice x n c) ls ∧ EV wx pa (.slice x' n' c') (ps.filterMap Pt.tc) ∧ BoxAt wx w.heap.size id title kind status (.slice xl nl cl) (.slice xp np cp) ∧ Kp [] W0 wx)
  case first =>
    go_region_held3 (fun w' => w'.cell? ⟨w.heap.size, 0, none⟩ = some (.string id) ∧ w'.cell? ⟨w.heap.size, 4, none⟩ = some (.slice xl nl cl) ∧ w'.cell? ⟨w.heap.size, 5, none⟩ = some (.slice xp np cp)) (first | (go_split_ands; exact ⟨far_setCells (by assumption) (by assumption), far_setCells (by assumption) (by assumption), far_setCells (by assumption) (by assumption)⟩) | go_keep) (first
      | (go_at_call 30; refine (C30.out _ ?_).mono ?_; (first | assumption | exact (Kp.refl [] W0).drew | exact kq.alloc _ | exact ((Kp.refl [] W0).alloc _).drew); rintro e w1 ⟨x, n, c, rfl, hvl, k12, kq, e0, e1, e2, e3, e4, e5⟩; have nn : w1.heap.size ≠ w.heap.size := (by have := kq.size; have := HS.out; omega); have nn2 := nn.symm; have ge1 := hid kq.size; (first | (have hx := k12.at hx (by simp); have hth := there_at hx (n := 34) rfl) | (have hx := k12.at (heap_push w1 _) (by simp); have hth := there_at hx (n := 34) rfl) | (have hx := k12.at (heap_push w2 _) (by simp); have hth := there_at hx (n := 34) rfl) | (have hx := k12.at ((Kp.refl [] _).drew.at (heap_push W0 _) (by simp)) (by simp); have hth := there_at hx (n := 34) rfl) | skip))
      | (go_at_call 31; refine (C31.out _ ?_).mono ?_; (first | assumption | exact (Kp.refl [] W0).drew | exact kq.alloc _ | exact ((Kp.refl [] W0).alloc _).drew); rintro e w2 ⟨x', n', c', rfl, hvp, k12, kq, e0', e1', e2', e3', e4', e5'⟩; have nn' : w2.heap.size ≠ w.heap.size := (by have := kq.size; have := HS.out; omega); have nn2' := nn'.symm; have ge2 := hid kq.size; (first | (have hx := k12.at hx (by simp); have hth := there_at hx (n := 34) rfl) | (have hx := k12.at (heap_push w1 _) (by simp); have hth := there_at hx (n := 34) rfl) | (have hx := k12.at (heap_push w2 _) (by simp); have hth := there_at hx (n := 34) rfl) | (have hx := k12.at ((Kp.refl [] _).drew.at (heap_push W0 _) (by simp)) (by simp); have hth := there_at hx (n := 34) rfl) | skip)))
    all_goals
      go_wp2_with fail
      go_meet
      case rel =>
        refine ⟨_, _, _, _, _, _, _, rfl, meet_ev (Z := #[.int .i64 0, .string em, .int .u64 0, .int .i64 0, .pointer none, .string em, .string em, .string em, .pointer none, .string em, .string em, .string em, .string em, .string em, .string em, .slice none 0 0, .string em, .string em, .string em, .string em, .string em, .string em, .bool false, .string em, .slice none 0 0, .slice none 0 0, .slice none 0 0, .slice none 0 0, .slice none 0 0, .slice none 0 0, .int .i64 0, .string em, .string em, .slice none 0 0]) (W0 := W0) (b := w.heap.size) ?_ rfl ?_ ?_ ?_ ?_ HBX.out⟩
        · first | exact hx | exact heap_push _ _
        · first | exact ge1.out | exact ge2.out | exact Nat.le_refl _
        · first | exact hvl | exact hvl.kp k12 | exact hvl.kp (((Kp.refl [] _).alloc _).trans k12) | exact hvl.kp ((Kp.refl [] _).alloc _) | exact (hvl.kp k12).kp ((Kp.refl [] _).alloc _)
        · first | exact hvp | exact hvp.kp k12 | exact hvp.kp (((Kp.refl [] _).alloc _).trans k12) | exact hvp.kp ((Kp.refl [] _).alloc _) | exact (hvp.kp k12).kp ((Kp.refl [] _).alloc _)
        · first | exact kq | exact kq.alloc _
  case rest =>
    obtain ⟨g, x, n, c, x', n', c', rfl, hg, hgl, hvl, hvp, ⟨b0, b1, b2, b3, b4, b5⟩, kc⟩ := hcut
    clear b0 b4 b5 hst hnew
    have hti := (HTI.out.kp kW).kp kc
    have hki := (HKI.out.kp kW).kp kc
    have hsta := (HST.out.kp kW).kp kc
    have hti0 := HTI.out
    have hki0 := HKI.out
    have hst0 := HST.out
    have s0 := HS.out
    have hgne : g ≠ w.heap.size := by omega
    have hgne2 := hgne.symm
    have hgne3 : g ≠ w.heap.size + 1 := by omega
    have c11 : (wc.cell? ⟨g, 11, none⟩).isSome = true := by rw [cell_at hg]; rfl
    have c12 : (wc.cell? ⟨g, 12, none⟩).isSome = true := by rw [cell_at hg]; rfl
    have c13 : (wc.cell? ⟨g, 13, none⟩).isSome = true := by rw [cell_at hg]; rfl
    have f11 := frozen_at hg 11
    have f12 := frozen_at hg 12
    have f13 := frozen_at hg 13
    have h1 := setS_ev (p := status) (s := st) (o := 13) hg (by rintro rfl; cases hsta; rfl)
    have h2 := setS_ev (p := title) (s := ti) (o := 11) h1 (by rintro rfl; cases hti; rfl)
    have h3 := setS_ev (p := kind) (s := ki) (o := 12) h2 (by rintro rfl; cases hki; rfl)
    have hev : setArr (evArr typ id em em em (.slice x n c) (.slice x' n' c')) 0 [] = evArr typ id em em em (.slice x n c) (.slice x' n' c') := rfl
    replace h3 : (setS kind (setS title (setS status wc ⟨g, 13, none⟩ st) ⟨g, 11, none⟩ ti) ⟨g, 12, none⟩ ki).heap[g]? = some (.cells (evArr typ id ti ki st (.slice x n c) (.slice x' n' c')) 41 (0, 0)) := h3
    have k3 : Kp [g] wc (setS kind (setS title (setS status wc ⟨g, 13, none⟩ st) ⟨g, 11, none⟩ ti) ⟨g, 12, none⟩ ki) := setS_kp (setS_kp (setS_kp (Kp.refl _ _) (Or.inl (by simp))) (Or.inl (by simp))) (Or.inl (by simp))
    have k4 : Kp [] W0 (setS kind (setS title (setS status wc ⟨g, 13, none⟩ st) ⟨g, 11, none⟩ ti) ⟨g, 12, none⟩ ki) := setS_kp (setS_kp (setS_kp kc (Or.inr hgl)) (Or.inr hgl)) (Or.inr hgl)
    have hR3 := k4.at HR.out (by simp)
    have hld := load41 h3 rfl
    have hsr := store41 _ (w.heap.size + 1) typ id ti ki st x n c x' n' c' (there_at hR3 rfl)
    have hRe := setCells_all hR3 (evArr typ id ti ki st (.slice x n c) (.slice x' n' c')).toList rfl
    have hlr := load41 hRe rfl
    have hvl3 := hvl.put hg k3 (by decide)
    have hvp3 := hvp.put hg k3 (by decide) (by decide)
    have k5 := setRow_kp (evArr typ id ti ki st (.slice x n c) (.slice x' n' c')).toList _ _ [w.heap.size + 1] (w.heap.size + 1) 0 (Kp.refl _ (setS kind (setS title (setS status wc ⟨g, 13, none⟩ st) ⟨g, 11, none⟩ ti) ⟨g, 12, none⟩ ki)) (Or.inl (by simp))
    have k6 := setRow_kp (evArr typ id ti ki st (.slice x n c) (.slice x' n' c')).toList _ _ [] (w.heap.size + 1) 0 (kW.trans k4) (Or.inr (by omega))
    rw [← setCells_row] at k5 k6
    have hvl4 := hid (hvl3.put hR3 k5 (by decide))
    have hvp4 := hid (hvp3.put hR3 k5 (by decide) (by decide))
    have K6 := hid k6
    clear h1 h2 h3 k3 k4 hR3 hRe hvl3 hvp3 k5 k6 hg hev
    rcases status with _ | ⟨sb, sof, ssp⟩ <;> rcases title with _ | ⟨tb, tof, tsp⟩ <;> rcases kind with _ | ⟨kb, kof, ksp⟩
    all_goals
      simp only [setS] at hld hsr hlr hvl4 hvp4 K6
      simp only [SP] at hti hki hsta
      try (have q1 : sb < w.heap.size := lt_of_cell hst0; have q2 : sb ≠ g := (by omega); have q3 := q2.symm; clear q1)
      try (have r1 : tb < w.heap.size := lt_of_cell hti0; have r2 : tb ≠ g := (by omega); have r3 := r2.symm; clear r1)
      try (have t1 : kb < w.heap.size := lt_of_cell hki0; have t2 : kb ≠ g := (by omega); have t3 := t2.symm; clear t1)
      clear hti0 hki0 hst0
      try subst hti
      try subst hki
      try subst hsta
      go_wp2_with fail
      refine bodyPost_ret (v := .agg (evArr typ id _ _ _ (.slice x n c) (.slice x' n' c'))) ?_ rfl ⟨x, n, c, x', n', c', rfl, hvl4.out, hvp4.out, K6.out⟩
      simp [results, Try.results24, go_sem, hlr]

end Go.Proofs.Qxb6613960a
