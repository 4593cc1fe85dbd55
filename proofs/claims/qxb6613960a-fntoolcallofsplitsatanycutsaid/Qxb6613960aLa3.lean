/-
  The first law, walked.
-/
import Derived.Test.Qxb6613960aLp
import Derived.Test.Qxb6613960aBy
import Derived.Deep.CutRange
set_option linter.unusedVariables false
set_option linter.unusedSimpArgs false
namespace Go.Proofs.Qxb6613960a
open Go.RowKit

theorem LSl.take {w : World} {a : Option Addr} {ls : List Lc} (h : LSl w a ls) (m : Nat) : LSl w a (ls.take m) := by
  intro k l hl
  rw [List.getElem?_take] at hl
  split at hl
  · exact h k l hl
  · cases hl
theorem LSl.drop {w : World} {a : Option Addr} {ls : List Lc} {n cap : Nat} (h : LSl w a ls) (m : Nat) (hn : n = ls.length) (hc : n ≤ cap) (hm : m ≤ n) : LSl w (if cap = m then a else a.map (·.add (m * 2))) (ls.drop m) := by
  intro k l hl
  rw [List.getElem?_drop] at hl
  have hlt := (List.getElem?_eq_some_iff.1 hl).1
  obtain ⟨b, o, rfl, h1, h2⟩ := h (m + k) l hl
  rw [if_neg (by omega)]
  refine ⟨b, o + m * 2, by simp [Addr.add_mid], ?_, ?_⟩
  · rw [show o + m * 2 + k * 2 = o + (m + k) * 2 from by omega]; exact h1
  · rw [show o + m * 2 + k * 2 + 1 = o + (m + k) * 2 + 1 from by omega]; exact h2
theorem PSl.take {w : World} {a : Option Addr} {ps : List Pt} (h : PSl w a ps) (m : Nat) : PSl w a (ps.take m) := by
  intro k l hl
  rw [List.getElem?_take] at hl
  split at hl
  · exact h k l hl
  · cases hl
theorem PSl.drop {w : World} {a : Option Addr} {ps : List Pt} {n cap : Nat} (h : PSl w a ps) (m : Nat) (hn : n = ps.length) (hc : n ≤ cap) (hm : m ≤ n) : PSl w (if cap = m then a else a.map (·.add (m * 11))) (ps.drop m) := by
  intro k l hl
  rw [List.getElem?_drop] at hl
  have hlt := (List.getElem?_eq_some_iff.1 hl).1
  obtain ⟨b, o, rfl, rp, h1, h2⟩ := h (m + k) l hl
  rw [if_neg (by omega)]
  refine ⟨b, o + m * 11, by simp [Addr.add_mid], rp, h1, fun j v hv => ?_⟩
  rw [show o + m * 11 + k * 11 + j = o + (m + k) * 11 + j from by omega]; exact h2 j v hv
theorem drop_none {a : Option Addr} {cap m s : Nat} (h : (if cap = m then a else a.map (·.add (m * s))) = none) : a = none := by
  split at h
  · exact h
  · simpa using h
theorem drop_isNone (a : Option Addr) (cap m s : Nat) : (if cap = m then a else a.map (·.add (m * s))).isNone = a.isNone := by
  split <;> simp

theorem info53s : (Try.prog.info? 53).map (·.size) = some 2 := by kernel_rfl

attribute [-go_sem] storeVar loadVar run_slice_h run_slice_l run_slice_any

/-- An event before it is written. -/
def zeroEv : Array Value := #[.int .i64 0, .string em, .int .u64 0, .int .i64 0, .pointer none, .string em, .string em, .string em, .pointer none, .string em, .string em, .string em, .string em, .string em, .string em, .slice none 0 0, .string em, .string em, .string em, .string em, .string em, .string em, .bool false, .string em, .slice none 0 0, .slice none 0 0, .slice none 0 0, .slice none 0 0, .slice none 0 0, .slice none 0 0, .int .i64 0, .string em, .string em, .slice none 0 0]

set_option maxRecDepth 100000 in
set_option maxHeartbeats 4000000 in
theorem law3_in (typ id ti ki st : ByteArray) (title kind status : Option Addr) (ls ls1 ls2 : List Lc) (la : Option Addr) (lc : Nat) (ps ps1 ps2 : List Pt) (pa : Option Addr) (pc : Nat) (w : World) (hls : ls = ls1 ++ ls2) (hps : ps = ps1 ++ ps2)
    (hti : SP w title ti) (hki : SP w kind ki) (hsta : SP w status st) (hL : LSl w la ls) (hP : PSl w pa ps) (hO : Olds w ps) (hln : la = none → ls = [] ∧ lc = 0) (hpn : pa = none → ps = [] ∧ pc = 0)
    (hlc : ls.length ≤ lc) (hpc : ps.length ≤ pc) :
    Calls Try.prog 3 #[.string typ, .string id, .pointer title, .pointer kind, .pointer status, .slice la ls.length lc, .slice pa ps.length pc, .int .i64 (ls1.length : Int), .int .i64 (ps1.length : Int)] w fun e w' => e = .returned (.bool true) ∧ Kp [] w w' := by
  have B := hid (bytes3 typ id ti ki st title kind status ls la lc ps pa pc ls1.length ps1.length w hti hki hsta hL hP hO)
  have HTI := hid hti
  have HKI := hid hki
  have HST := hid hsta
  have HL := hid hL
  have HP := hid hP
  have HO := hid hO
  have hcl : ls.length = ls1.length + ls2.length := by rw [hls]; simp
  have hcp : ps.length = ps1.length + ps2.length := by rw [hps]; simp
  have s1 := fun wx => slice_h 23 53 2 Try.underlying23 info53s la ls.length lc ls1.length (by omega) wx
  have s2 := fun wx => slice_l 23 53 2 Try.underlying23 info53s la ls.length lc ls1.length (by omega) wx
  have s3 := fun wx => slice_h 24 63 11 Try.underlying24 info63s pa ps.length pc ps1.length (by omega) wx
  have s4 := fun wx => slice_l 24 63 11 Try.underlying24 info63s pa ps.length pc ps1.length (by omega) wx
  rw [show ls.length - ls1.length = ls2.length from by omega] at s2
  rw [show ps.length - ps1.length = ps2.length from by omega] at s4
  have hst := fun wx g x n c x' n' c' => store41 wx g typ id ti ki st x n c x' n' c'
  have hnew := fun (wx : World) (Z : Array Value) (h : Z.size = 34) => there_at (heap_push wx (.cells Z 41)) h
  have HL1 : Hid (LSl w la ls1) := hid (by have := hL.take ls1.length; rwa [hls, List.take_left] at this)
  have HP1 : Hid (PSl w pa ps1) := hid (by have := hP.take ps1.length; rwa [hps, List.take_left] at this)
  have HL2 : Hid (LSl w (if lc = ls1.length then la else la.map (·.add (ls1.length * 2))) ls2) := hid (by have := hL.drop ls1.length rfl hlc (by omega); rw [hls, List.drop_left] at this; exact this)
  have HP2 : Hid (PSl w (if pc = ps1.length then pa else pa.map (·.add (ps1.length * 11))) ps2) := hid (by have := hP.drop ps1.length rfl hpc (by omega); rw [hps, List.drop_left] at this; exact this)
  have hn2 : (if lc = ls1.length then la else la.map (·.add (ls1.length * 2))) = none → ls2 = [] ∧ lc - ls1.length = 0 := fun h => by
    obtain ⟨h1, h2⟩ := hln (drop_none h)
    rw [hls] at h1
    simp at h1
    exact ⟨h1.2, by omega⟩
  have hm2 : (if pc = ps1.length then pa else pa.map (·.add (ps1.length * 11))) = none → ps2 = [] ∧ pc - ps1.length = 0 := fun h => by
    obtain ⟨h1, h2⟩ := hpn (drop_none h)
    rw [hps] at h1
    simp at h1
    exact ⟨h1.2, by omega⟩
  have hn1 : la = none → ls1 = [] ∧ lc = 0 := fun h => by
    obtain ⟨h1, h2⟩ := hln h
    rw [hls] at h1
    simp at h1
    exact ⟨h1.1, h2⟩
  have hm1 : pa = none → ps1 = [] ∧ pc = 0 := fun h => by
    obtain ⟨h1, h2⟩ := hpn h
    rw [hps] at h1
    simp at h1
    exact ⟨h1.1, h2⟩
  generalize (if lc = ls1.length then la else la.map (·.add (ls1.length * 2))) = la2 at s2 HL2 hn2
  generalize (if pc = ps1.length then pa else pa.map (·.add (ps1.length * 11))) = pa2 at s4 HP2 hm2
  generalize lc - ls1.length = lc2 at s2 hn2
  generalize pc - ps1.length = pc2 at s4 hm2
  have HLS := hid hls
  have HPS := hid hps
  have HCL := hid hcl
  have HCP := hid hcp
  clear hls hps hcl hcp hlc hpc hti hki hsta hL hP hO
  go_enter Try.func3, Try.ntmps3
  go_wp2_with fail
  refine B.out.mono ?_
  rintro e w1 ⟨b, rfl, -, k1⟩
  cases b with
  | false =>
    go_wp2_with fail
    go_ret
    exact ⟨rfl, k1⟩
  | true =>
    go_wp2_with fail
    refine (toolWithin typ id ti ki st title kind status ls la lc ps pa pc 1048576 w1 (HTI.out.kp k1) (HKI.out.kp k1) (HST.out.kp k1) (HL.out.kp k1) (HP.out.kp k1) (HO.out.kp k1)).mono ?_
    rintro e w2 ⟨b, rfl, hb, k2⟩
    have K2 := hid (k1.trans k2)
    clear k1 k2
    cases b with
    | false =>
      go_wp2_with fail
      go_ret
      exact ⟨rfl, K2.out⟩
    | true =>
      obtain ⟨hl6, hp6⟩ := hb rfl
      have hl7 : ls1.length ≤ 65536 ∧ ls2.length ≤ 65536 ∧ ¬ ls.length < ls1.length := by have := HCL.out; omega
      have hp7 : ps1.length ≤ 65536 ∧ ps2.length ≤ 65536 ∧ ¬ ps.length < ps1.length := by have := HCP.out; omega
      obtain ⟨hl7, hl8, g1⟩ := hl7
      obtain ⟨hp7, hp8, g2⟩ := hp7
      have g3 : ¬ (ls.length : Int) < (ls1.length : Int) := by omega
      have g4 : ¬ (ps.length : Int) < (ps1.length : Int) := by omega
      have C9a := hid (fun wx k => call9 w2 id title kind status ls la lc ps pa pc (by omega) (HL.out.kp K2.out) hln (by omega) (HP.out.kp K2.out) hpn wx k)
      have C8a := hid (fun w1 wx vl vp h1 h2 k1 k => call8 w2 typ id ti ki st title kind status ls la ps pa (by omega) (by omega) (HTI.out.kp K2.out) (HKI.out.kp K2.out) (HST.out.kp K2.out) w1 wx vl vp h1 h2 k1 k)
      clear B
      go_upto_region 7 with fail
      go_cut [19] from 65 to 73 (fun s wx => ∃ g x n c x' n' c', s = .pointer (some ⟨g, 0, none⟩) ∧ EvAt wx g typ id ti ki st la pa x n c x' n' c' ls (ps.filterMap Pt.tc) ∧ Kp [] w2 wx)
      case first =>
        go_wp2_with fail
        refine (C9a.out _ (Kp.refl _ _)).mono ?_
        rintro e w3 ⟨vl, vp, rfl, h1, h2, k3, -⟩
        go_wp2_with fail
        refine (C8a.out w3 w3 _ _ h1 h2 (Kp.refl _ _) k3).mono ?_
        rintro e w4 ⟨x, n, c, x', n', c', rfl, h3, h4, -, k4⟩
        have HM := hid (stored (typ := typ) (id := id) (ti := ti) (ki := ki) (st := st) (heap_push w4 (.cells zeroEv 41)) rfl k4.size (h3.kp ((Kp.refl [] _).alloc _)) (h4.kp ((Kp.refl [] _).alloc _)) (fun h => (hln h).1) (fun h => by rw [(hpn h).1]; rfl) (k4.alloc _))
        clear h1 h2 h3 h4 k3 k4
        go_wp2_with fail
        go_meet
        case rel => exact ⟨_, _, _, _, _, _, _, rfl, HM.out⟩
      case rest =>
        obtain ⟨ga, xa, na, ca, xa', na', ca', rfl, EA, K3⟩ := hcut
        obtain ⟨wA, rfl⟩ : ∃ wA, wA = wc := ⟨_, rfl⟩
        have HEA := hid EA
        have KA := hid (K2.out.trans K3)
        clear C9a C8a EA K3
        have C9b := hid (fun wx k => call9 wA id title kind status ls1 la lc ps1 pa pc (by omega) (HL1.out.kp (KA.out)) hn1 (by omega) (HP1.out.kp (KA.out)) hm1 wx k)
        have C8b := hid (fun w1 wx vl vp h1 h2 k1 k => call8 wA typ id ti ki st title kind status ls1 la ps1 pa (by omega) (by omega) (HTI.out.kp (KA.out)) (HKI.out.kp (KA.out)) (HST.out.kp (KA.out)) w1 wx vl vp h1 h2 k1 k)
        go_upto_region 8 with fail
        go_cut [20] from 74 to 86 (fun s wx => ∃ g x n c x' n' c', s = .pointer (some ⟨g, 0, none⟩) ∧ EvAt wx g typ id ti ki st la pa x n c x' n' c' ls1 (ps1.filterMap Pt.tc) ∧ Kp [] wA wx)
        case first =>
          go_region_held3 (fun _ => True) (trivial) (first
            | (go_at_call 9; refine (C9b.out _ ?_).mono ?_; (first | exact (Kp.refl [] wA).drew | exact ((Kp.refl [] wA).alloc _).drew); rintro e w3 ⟨vl, vp, rfl, h1, h2, k12, kq⟩; have ge1 := hid kq.size; (first | (have hx := k12.at hx (by simp); have hth := there_at hx (n := 34) rfl) | (have hx := k12.at (heap_push w3 _) (by simp); have hth := there_at hx (n := 34) rfl) | (have hx := k12.at ((Kp.refl [] _).drew.at (heap_push wA _) (by simp)) (by simp); have hth := there_at hx (n := 34) rfl) | skip))
            | (go_at_call 8; refine (C8b.out _ _ _ _ h1 h2 ?_ ?_).mono ?_; (first | exact Kp.refl [] _ | exact (Kp.refl [] _).alloc _); (first | exact kq | exact kq.alloc _); rintro e w4 ⟨x, n, c, x', n', c', rfl, h3, h4, k12, kq⟩; have ge2 := hid kq.size; (first | (have hx := k12.at hx (by simp); have hth := there_at hx (n := 34) rfl) | (have hx := k12.at (heap_push w3 _) (by simp); have hth := there_at hx (n := 34) rfl) | (have hx := k12.at ((Kp.refl [] _).drew.at (heap_push wA _) (by simp)) (by simp); have hth := there_at hx (n := 34) rfl) | skip)))
          all_goals
            go_wp2_with fail
            go_meet
            case rel =>
              refine ⟨_, _, _, _, _, _, _, rfl, stored (Z := zeroEv) (W0 := wA) ?_ rfl ?_ ?_ ?_ (fun h => (hn1 h).1) (fun h => by rw [(hm1 h).1]; rfl) ?_⟩
              · first | exact hx | exact heap_push _ _
              · first | exact ge1.out | exact ge2.out | exact Nat.le_refl _
              · first | exact h3 | exact h3.kp ((Kp.refl [] _).alloc _)
              · first | exact h4 | exact h4.kp ((Kp.refl [] _).alloc _)
              · first | exact kq | exact kq.alloc _
        case rest =>
          obtain ⟨gb, xb, nb, cb, xb', nb', cb', rfl, EB, K4⟩ := hcut
          obtain ⟨wB, rfl⟩ : ∃ wB, wB = wc := ⟨_, rfl⟩
          have HEA := hid (HEA.out.kp K4)
          have HEB := hid EB
          have KB := hid (KA.out.trans K4)
          clear C9b C8b EB K4 KA
          have C9c := hid (fun wx k => call9 wB id title kind status ls2 la2 lc2 ps2 pa2 pc2 (by omega) (HL2.out.kp (KB.out)) hn2 (by omega) (HP2.out.kp (KB.out)) hm2 wx k)
          have C8c := hid (fun w1 wx vl vp h1 h2 k1 k => call8 wB typ id ti ki st title kind status ls2 la2 ps2 pa2 (by omega) (by omega) (HTI.out.kp (KB.out)) (HKI.out.kp (KB.out)) (HST.out.kp (KB.out)) w1 wx vl vp h1 h2 k1 k)
          go_upto_region 9 with fail
          go_cut [21] from 87 to 99 (fun s wx => ∃ g x n c x' n' c', s = .pointer (some ⟨g, 0, none⟩) ∧ EvAt wx g typ id ti ki st la2 pa2 x n c x' n' c' ls2 (ps2.filterMap Pt.tc) ∧ Kp [] wB wx)
          case first =>
            go_region_held3 (fun _ => True) (trivial) (first
              | (go_at_call 9; refine (C9c.out _ ?_).mono ?_; (first | exact (Kp.refl [] wB).drew | exact ((Kp.refl [] wB).alloc _).drew); rintro e w3 ⟨vl, vp, rfl, h1, h2, k12, kq⟩; have ge1 := hid kq.size; (first | (have hx := k12.at hx (by simp); have hth := there_at hx (n := 34) rfl) | (have hx := k12.at (heap_push w3 _) (by simp); have hth := there_at hx (n := 34) rfl) | (have hx := k12.at ((Kp.refl [] _).drew.at (heap_push wB _) (by simp)) (by simp); have hth := there_at hx (n := 34) rfl) | skip))
              | (go_at_call 8; refine (C8c.out _ _ _ _ h1 h2 ?_ ?_).mono ?_; (first | exact Kp.refl [] _ | exact (Kp.refl [] _).alloc _); (first | exact kq | exact kq.alloc _); rintro e w4 ⟨x, n, c, x', n', c', rfl, h3, h4, k12, kq⟩; have ge2 := hid kq.size; (first | (have hx := k12.at hx (by simp); have hth := there_at hx (n := 34) rfl) | (have hx := k12.at (heap_push w3 _) (by simp); have hth := there_at hx (n := 34) rfl) | (have hx := k12.at ((Kp.refl [] _).drew.at (heap_push wB _) (by simp)) (by simp); have hth := there_at hx (n := 34) rfl) | skip)))
            all_goals
              go_wp2_with fail
              go_meet
              case rel =>
                refine ⟨_, _, _, _, _, _, _, rfl, stored (Z := zeroEv) (W0 := wB) ?_ rfl ?_ ?_ ?_ (fun h => (hn2 h).1) (fun h => by rw [(hm2 h).1]; rfl) ?_⟩
                · first | exact hx | exact heap_push _ _
                · first | exact ge1.out | exact ge2.out | exact Nat.le_refl _
                · first | exact h3 | exact h3.kp ((Kp.refl [] _).alloc _)
                · first | exact h4 | exact h4.kp ((Kp.refl [] _).alloc _)
                · first | exact kq | exact kq.alloc _
          case rest =>
            obtain ⟨gc, xc, nc, cc, xc', nc', cc', rfl, EC, K5⟩ := hcut
            obtain ⟨wC, rfl⟩ : ∃ wC, wC = wc := ⟨_, rfl⟩
            have HEA := hid (HEA.out.kp K5)
            have HEB := hid (HEB.out.kp K5)
            have HEC := hid EC
            have KC := hid (KB.out.trans K5)
            clear C9c C8c EC K5 KB hst hnew s1 s2 s3 s4
            have hld := load41 HEA.out.at_ rfl
            go_wp2_with fail
            refine (head_all typ id ti ki st title kind status xa na ca xa' na' ca' wC (HTI.out.kp KC.out) (HKI.out.kp KC.out) (HST.out.kp KC.out)).mono ?_
            rintro e w5 ⟨rfl, k5⟩
            have K5 := hid (KC.out.trans k5)
            have HEA := hid (HEA.out.kp k5)
            have HEB := hid (HEB.out.kp k5)
            have HEC := hid (HEC.out.kp k5)
            clear k5 hld KC
            have hld := load41 HEB.out.at_ rfl
            go_wp2_with fail
            refine (head_all typ id ti ki st title kind status xb nb cb xb' nb' cb' w5 (HTI.out.kp K5.out) (HKI.out.kp K5.out) (HST.out.kp K5.out)).mono ?_
            rintro e w6 ⟨rfl, k6⟩
            have K6 := hid (K5.out.trans k6)
            have HEA := hid (HEA.out.kp k6)
            have HEB := hid (HEB.out.kp k6)
            have HEC := hid (HEC.out.kp k6)
            clear k6 hld K5
            have hld := load41 HEC.out.at_ rfl
            go_wp2_with fail
            refine (head_all typ id ti ki st title kind status xc nc cc xc' nc' cc' w6 (HTI.out.kp K6.out) (HKI.out.kp K6.out) (HST.out.kp K6.out)).mono ?_
            rintro e w7 ⟨rfl, k7⟩
            have K7 := hid (K6.out.trans k7)
            have HEA := hid (HEA.out.kp k7)
            have HEB := hid (HEB.out.kp k7)
            have HEC := hid (HEC.out.kp k7)
            clear k7 hld K6
            have hTl : (ps.filterMap Pt.tc).length ≤ ps.length ∧ (ps1.filterMap Pt.tc).length ≤ ps1.length ∧ (ps2.filterMap Pt.tc).length ≤ ps2.length := ⟨List.length_filterMap_le _ _, List.length_filterMap_le _ _, List.length_filterMap_le _ _⟩
            have hTs : ps.filterMap Pt.tc = ps1.filterMap Pt.tc ++ ps2.filterMap Pt.tc := by rw [HPS.out, List.filterMap_append]
            have C12 := hid (fun wx (k : Kp [] w7 wx) => knownCount ps pa pc wx (by omega) (HP.out.kp (K7.out.trans k)))
            obtain ⟨ts, hts⟩ : ∃ ts, ts = ps.filterMap Pt.tc := ⟨_, rfl⟩
            obtain ⟨ts1, hts1⟩ : ∃ ts, ts = ps1.filterMap Pt.tc := ⟨_, rfl⟩
            obtain ⟨ts2, hts2⟩ : ∃ ts, ts = ps2.filterMap Pt.tc := ⟨_, rfl⟩
            rw [← hts] at HEA hTl hTs C12
            rw [← hts1] at HEB hTl hTs
            rw [← hts2] at HEC hTl hTs
            have ht6 : ts.length ≤ 65536 := by omega
            have ht7 : ts1.length ≤ 65536 := by omega
            have ht8 : ts2.length ≤ 65536 := by omega
            have HTS := hid hTs
            clear hts hts1 hts2 hTs hTl
            obtain rfl := HEA.out.parts.len
            obtain rfl := HEB.out.parts.len
            obtain rfl := HEC.out.parts.len
            obtain rfl := HEA.out.locs.len
            obtain rfl := HEB.out.locs.len
            obtain rfl := HEC.out.locs.len
            have ia := HEA.out.locs.isNone
            have ja := HEA.out.parts.isNone
            have a24 := HEA.out.c24
            have a25 := HEA.out.c25
            have b24 := HEB.out.c24
            have c24 := HEC.out.c24
            have l9 := load9
            have l33 := load33
            have l34 := load34
            have l49 := load49
            have e33 := fun wx a n c n' c' => Lib.run_eql_slice_nil (P := Try.prog) wx 33 _ a n c n' c' Try.underlying33
            have e34 := fun wx a n c n' c' => Lib.run_eql_slice_nil (P := Try.prog) wx 34 _ a n c n' c' Try.underlying34
            have e23 := fun wx a n c n' c' => Lib.run_eql_slice_nil (P := Try.prog) wx 23 _ a n c n' c' Try.underlying23
            have e24 := fun wx a n c n' c' => Lib.run_eql_slice_nil (P := Try.prog) wx 24 _ a n c n' c' Try.underlying24
            have hsum : (ls1.length : Int) + (ls2.length : Int) = (ls.length : Int) := by have := HCL.out; omega
            go_wp2_with fail
            go_loopw [22] (fun i wr => ∃ k : Nat, k ≤ ls.length ∧ i = .int .i64 k ∧ Kp [] w7 wr) (fun i _ => ls.length - (intOf i).toNat)
            case atStart => exact ⟨0, Nat.zero_le _, rfl, Kp.refl _ _⟩
            case round =>
              obtain ⟨k, hk, rfl, hK⟩ := hrel
              by_cases hlt : k < ls.length
              · obtain ⟨l, hl⟩ : ∃ l, ls[k]? = some l := ⟨ls[k]'hlt, by simp⟩
                obtain ⟨b, o, ha, d0, d1⟩ := (HL.out.kp (K7.out.trans hK)) k l hl
                obtain ⟨q, hq, r0, r1⟩ := (HEA.out.kp hK).locs.cells k l hl
                subst ha hq
                have n49 := neq49
                have a24 := hK.cell a24 (by simp)
                clear hl
                go_wp2_with fail
                go_quiet (fail)
                all_goals
                  go_wp2_with fail
                  exact ⟨⟨k + 1, by omega, by go_num, hK.drewN _⟩, by simp [intOf]; omega⟩
              · have HK := hid hK
                clear hK a24 b24 c24 a25
                go_wp2_with fail
                go_loopw [23] (fun i wr => ∃ k : Nat, k ≤ ls1.length ∧ i = .int .i64 k ∧ Kp [] w7 wr) (fun i _ => ls1.length - (intOf i).toNat)
                case atStart => exact ⟨0, Nat.zero_le _, rfl, HK.out⟩
                case round =>
                  obtain ⟨k, hk, rfl, hK⟩ := hrel
                  have hr := Kp.refl [] wr
                  have cx : ∀ w', Kp [] wr w' → w'.cell? ⟨gb, 24, none⟩ = some (.slice xb ls1.length cb) := fun w' kk => (hK.trans kk).cell HEB.out.c24 (by simp)
                  have ax : ∀ w', Kp [] wr w' → w'.cell? ⟨ga, 24, none⟩ = some (.slice xa ls.length ca) := fun w' kk => (hK.trans kk).cell HEA.out.c24 (by simp)
                  by_cases hlt : k < ls1.length
                  · obtain ⟨l, hl⟩ : ∃ l, ls1[k]? = some l := ⟨ls1[k]'hlt, by simp⟩
                    have hl2 : ls[k]? = some l := by rw [HLS.out, List.getElem?_append_left hlt]; exact hl
                    have hlt2 : k < ls.length := (List.getElem?_eq_some_iff.1 hl2).1
                    obtain ⟨q1, hq1, r0, r1⟩ := HEB.out.locs.cells k l hl
                    obtain ⟨q2, hq2, t0, t1⟩ := HEA.out.locs.cells k l hl2
                    subst hq1 hq2
                    have L1 : ∀ w', Kp [] wr w' → (loadVar 51 ⟨q1, k * 2, none⟩).run Try.prog w' = .ok (.agg #[.string l.path, .pointer l.line]) w' := fun w' kk => load51 ((hK.trans kk).cell r0 (by simp)) ((hK.trans kk).cell r1 (by simp))
                    have L2 : ∀ w', Kp [] wr w' → (loadVar 51 ⟨q2, k * 2, none⟩).run Try.prog w' = .ok (.agg #[.string l.path, .pointer l.line]) w' := fun w' kk => load51 ((hK.trans kk).cell t0 (by simp)) ((hK.trans kk).cell t1 (by simp))
                    clear r0 r1 t0 t1 hl hl2
                    go_wp2_with fail
                    go_region_held3 (fun w' => Kp [] wr w') (first | exact (Kp.refl [] _).drew | exact Kp.trans (by assumption) kr | assumption) (first
                      | (go_at_call 11; refine (sameLoc l _).mono ?_; rintro e w8 ⟨rfl, kr⟩))
                    all_goals
                      go_wp2_with fail
                      exact ⟨⟨k + 1, by omega, by go_num, hK.trans (by assumption)⟩, by simp [intOf]; omega⟩
                  · have HK := hid hK
                    clear hK
                    go_wp2_with fail
                    go_loopw [24] (fun i wr => ∃ k : Nat, k ≤ ls2.length ∧ i = .int .i64 k ∧ Kp [] w7 wr) (fun i _ => ls2.length - (intOf i).toNat)
                    case atStart => exact ⟨0, Nat.zero_le _, rfl, HK.out⟩
                    case round =>
                      obtain ⟨k, hk, rfl, hK⟩ := hrel
                      have hr := Kp.refl [] wr
                      have cx : ∀ w', Kp [] wr w' → w'.cell? ⟨gc, 24, none⟩ = some (.slice xc ls2.length cc) := fun w' kk => (hK.trans kk).cell HEC.out.c24 (by simp)
                      have ax : ∀ w', Kp [] wr w' → w'.cell? ⟨ga, 24, none⟩ = some (.slice xa ls.length ca) := fun w' kk => (hK.trans kk).cell HEA.out.c24 (by simp)
                      have bx : ∀ w', Kp [] wr w' → w'.cell? ⟨gb, 24, none⟩ = some (.slice xb ls1.length cb) := fun w' kk => (hK.trans kk).cell HEB.out.c24 (by simp)
                      by_cases hlt : k < ls2.length
                      · obtain ⟨l, hl⟩ : ∃ l, ls2[k]? = some l := ⟨ls2[k]'hlt, by simp⟩
                        have hl2 : ls[ls1.length + k]? = some l := by rw [HLS.out, List.getElem?_append_right (by omega), Nat.add_sub_cancel_left]; exact hl
                        have hlt2 : (ls1.length + k) < ls.length := (List.getElem?_eq_some_iff.1 hl2).1
                        have hi0 : (0 : Int) ≤ (ls1.length : Int) + (k : Int) := by omega
                        have hi1 : (ls1.length : Int) + (k : Int) < (ls.length : Int) := by omega
                        have hi2 : ((ls1.length : Int) + (k : Int)).toNat = ls1.length + k := by omega
                        have hw := wrap_sum ls1.length k (by omega) (by omega)
                        obtain ⟨q1, hq1, r0, r1⟩ := HEC.out.locs.cells k l hl
                        obtain ⟨q2, hq2, t0, t1⟩ := HEA.out.locs.cells (ls1.length + k) l hl2
                        subst hq1 hq2
                        have L1 : ∀ w', Kp [] wr w' → (loadVar 51 ⟨q1, k * 2, none⟩).run Try.prog w' = .ok (.agg #[.string l.path, .pointer l.line]) w' := fun w' kk => load51 ((hK.trans kk).cell r0 (by simp)) ((hK.trans kk).cell r1 (by simp))
                        have L2 : ∀ w', Kp [] wr w' → (loadVar 51 ⟨q2, (ls1.length + k) * 2, none⟩).run Try.prog w' = .ok (.agg #[.string l.path, .pointer l.line]) w' := fun w' kk => load51 ((hK.trans kk).cell t0 (by simp)) ((hK.trans kk).cell t1 (by simp))
                        clear r0 r1 t0 t1 hl hl2
                        go_wp2_with fail
                        go_region_held3 (fun w' => Kp [] wr w') (first | exact (Kp.refl [] _).drew | exact Kp.trans (by assumption) kr | assumption) (first
                          | (go_at_call 11; refine (sameLoc l _).mono ?_; rintro e w8 ⟨rfl, kr⟩))
                        all_goals
                          go_wp2_with fail
                          exact ⟨⟨k + 1, by omega, by go_num, hK.trans (by assumption)⟩, by simp [intOf]; omega⟩
                      · have HK := hid hK
                        clear hK
                        go_wp2_with fail
                        have hr := Kp.refl [] wr
                        have a25 : ∀ w', Kp [] wr w' → w'.cell? ⟨ga, 25, none⟩ = some (.slice xa' ts.length ca') := fun w' kk => (HK.out.trans kk).cell HEA.out.c25 (by simp)
                        have b25 : ∀ w', Kp [] wr w' → w'.cell? ⟨gb, 25, none⟩ = some (.slice xb' ts1.length cb') := fun w' kk => (HK.out.trans kk).cell HEB.out.c25 (by simp)
                        have c25 : ∀ w', Kp [] wr w' → w'.cell? ⟨gc, 25, none⟩ = some (.slice xc' ts2.length cc') := fun w' kk => (HK.out.trans kk).cell HEC.out.c25 (by simp)
                        have hsumT : (ts1.length : Int) + (ts2.length : Int) = (ts.length : Int) := by have := congrArg List.length HTS.out; simp at this; omega
                        have hw := wrap_one ts.length (by omega)
                        go_region_held3 (fun w' => Kp [] wr w') (first | exact (Kp.refl [] _).drew | assumption) (first
                          | (go_at_call 12; refine (C12.out _ ?_).mono ?_; exact HK.out.trans (by assumption); rintro e w' ⟨rfl, rfl⟩))
                        have KR := hid (Kp.refl [] wr).drew
                        go_wp2_with fail
                        clear a25 b25 c25 hsumT hw hr cx ax bx
                        go_loopw [25] (fun i wr => ∃ k : Nat, k ≤ ts1.length ∧ i = .int .i64 k ∧ Kp [] w7 wr) (fun i _ => ts1.length - (intOf i).toNat)
                        case atStart => exact ⟨0, Nat.zero_le _, rfl, HK.out.trans KR.out⟩
                        case round =>
                          obtain ⟨k, hk, rfl, hK⟩ := hrel
                          have hr := Kp.refl [] wr
                          have cx : ∀ w', Kp [] wr w' → w'.cell? ⟨gb, 25, none⟩ = some (.slice xb' ts1.length cb') := fun w' kk => (hK.trans kk).cell HEB.out.c25 (by simp)
                          have ax : ∀ w', Kp [] wr w' → w'.cell? ⟨ga, 25, none⟩ = some (.slice xa' ts.length ca') := fun w' kk => (hK.trans kk).cell HEA.out.c25 (by simp)
                          by_cases hlt : k < ts1.length
                          · obtain ⟨l, hl⟩ : ∃ l, ts1[k]? = some l := ⟨ts1[k]'hlt, by simp⟩
                            have hl2 : ts[k]? = some l := by rw [HTS.out, List.getElem?_append_left hlt]; exact hl
                            have hlt2 : k < ts.length := (List.getElem?_eq_some_iff.1 hl2).1
                            obtain ⟨q1, bp1, hq1, hb1, r1⟩ := HEB.out.parts.cells k l hl
                            obtain ⟨q2, bp2, hq2, hb2, r2⟩ := HEA.out.parts.cells k l hl2
                            subst hq1 hq2
                            have L1 : ∀ w', Kp [] wr w' → (loadVar 58 ⟨q1, k * 7, none⟩).run Try.prog w' = .ok (.agg (l.cells bp1).toArray) w' := fun w' kk => load58 (fun j v hv => (hK.trans kk).cell (r1 j v hv) (by simp))
                            have L2 : ∀ w', Kp [] wr w' → (loadVar 58 ⟨q2, k * 7, none⟩).run Try.prog w' = .ok (.agg (l.cells bp2).toArray) w' := fun w' kk => load58 (fun j v hv => (hK.trans kk).cell (r2 j v hv) (by simp))
                            have SB := hid (And.intro hb1 hb2)
                            clear r1 r2 hl hl2 hb1 hb2
                            go_wp2_with fail
                            go_region_held3 (fun w' => Kp [] wr w') (first | exact (Kp.refl [] _).drew | exact Kp.trans (by assumption) kr | assumption) (first
                              | (go_at_call 13; refine (samePart l bp1 bp2 _ ?_ ?_).mono ?_; exact SB.out.1.kp (hK.trans (by assumption)); exact SB.out.2.kp (hK.trans (by assumption)); rintro e w8 ⟨rfl, kr⟩))
                            all_goals
                              go_wp2_with fail
                              exact ⟨⟨k + 1, by omega, by go_num, hK.trans (by assumption)⟩, by simp [intOf]; omega⟩
                          · have HK := hid hK
                            clear hK
                            go_wp2_with fail
                            go_loopw [26] (fun i wr => ∃ k : Nat, k ≤ ts2.length ∧ i = .int .i64 k ∧ Kp [] w7 wr) (fun i _ => ts2.length - (intOf i).toNat)
                            case atStart => exact ⟨0, Nat.zero_le _, rfl, HK.out⟩
                            case round =>
                              obtain ⟨k, hk, rfl, hK⟩ := hrel
                              have hr := Kp.refl [] wr
                              have cx : ∀ w', Kp [] wr w' → w'.cell? ⟨gc, 25, none⟩ = some (.slice xc' ts2.length cc') := fun w' kk => (hK.trans kk).cell HEC.out.c25 (by simp)
                              have ax : ∀ w', Kp [] wr w' → w'.cell? ⟨ga, 25, none⟩ = some (.slice xa' ts.length ca') := fun w' kk => (hK.trans kk).cell HEA.out.c25 (by simp)
                              have bx : ∀ w', Kp [] wr w' → w'.cell? ⟨gb, 25, none⟩ = some (.slice xb' ts1.length cb') := fun w' kk => (hK.trans kk).cell HEB.out.c25 (by simp)
                              by_cases hlt : k < ts2.length
                              · obtain ⟨l, hl⟩ : ∃ l, ts2[k]? = some l := ⟨ts2[k]'hlt, by simp⟩
                                have hl2 : ts[ts1.length + k]? = some l := by rw [HTS.out, List.getElem?_append_right (by omega), Nat.add_sub_cancel_left]; exact hl
                                have hlt2 : (ts1.length + k) < ts.length := (List.getElem?_eq_some_iff.1 hl2).1
                                have hi0 : (0 : Int) ≤ (ts1.length : Int) + (k : Int) := by omega
                                have hi1 : (ts1.length : Int) + (k : Int) < (ts.length : Int) := by omega
                                have hi2 : ((ts1.length : Int) + (k : Int)).toNat = ts1.length + k := by omega
                                have hw := wrap_sum ts1.length k (by omega) (by omega)
                                obtain ⟨q1, bp1, hq1, hb1, r1⟩ := HEC.out.parts.cells k l hl
                                obtain ⟨q2, bp2, hq2, hb2, r2⟩ := HEA.out.parts.cells (ts1.length + k) l hl2
                                subst hq1 hq2
                                have L1 : ∀ w', Kp [] wr w' → (loadVar 58 ⟨q1, k * 7, none⟩).run Try.prog w' = .ok (.agg (l.cells bp1).toArray) w' := fun w' kk => load58 (fun j v hv => (hK.trans kk).cell (r1 j v hv) (by simp))
                                have L2 : ∀ w', Kp [] wr w' → (loadVar 58 ⟨q2, (ts1.length + k) * 7, none⟩).run Try.prog w' = .ok (.agg (l.cells bp2).toArray) w' := fun w' kk => load58 (fun j v hv => (hK.trans kk).cell (r2 j v hv) (by simp))
                                have SB := hid (And.intro hb1 hb2)
                                clear r1 r2 hl hl2 hb1 hb2
                                go_wp2_with fail
                                go_region_held3 (fun w' => Kp [] wr w') (first | exact (Kp.refl [] _).drew | exact Kp.trans (by assumption) kr | assumption) (first
                                  | (go_at_call 13; refine (samePart l bp1 bp2 _ ?_ ?_).mono ?_; exact SB.out.1.kp (hK.trans (by assumption)); exact SB.out.2.kp (hK.trans (by assumption)); rintro e w8 ⟨rfl, kr⟩))
                                all_goals
                                  go_wp2_with fail
                                  exact ⟨⟨k + 1, by omega, by go_num, hK.trans (by assumption)⟩, by simp [intOf]; omega⟩
                              · have HK := hid hK
                                clear hK
                                go_wp2_with fail
                                go_ret
                                exact ⟨rfl, K7.out.trans HK.out⟩

end Go.Proofs.Qxb6613960a
