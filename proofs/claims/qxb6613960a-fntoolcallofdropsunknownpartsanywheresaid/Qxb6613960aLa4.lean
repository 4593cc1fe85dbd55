/-
  The second law, walked.
-/
import Derived.Test.Qxb6613960aLq
import Derived.Test.Qxb6613960aBz
import Derived.Deep.CutRange
import Derived.RangeFuncBox
set_option linter.unusedVariables false
set_option linter.unusedSimpArgs false
namespace Go.Proofs.Qxb6613960a
open Go.RowKit

/-- An event before it is written. -/
def zeroEv4 : Array Value := #[.int .i64 0, .string em, .int .u64 0, .int .i64 0, .pointer none, .string em, .string em, .string em, .pointer none, .string em, .string em, .string em, .string em, .string em, .string em, .slice none 0 0, .string em, .string em, .string em, .string em, .string em, .string em, .bool false, .string em, .slice none 0 0, .slice none 0 0, .slice none 0 0, .slice none 0 0, .slice none 0 0, .slice none 0 0, .int .i64 0, .string em, .string em, .slice none 0 0]

attribute [-go_sem] storeVar loadVar

set_option maxRecDepth 100000 in
set_option maxHeartbeats 4000000 in
theorem law4_in (typ id ti ki st : ByteArray) (title kind status : Option Addr) (ls : List Lc) (la : Option Addr) (lc : Nat) (ps ps1 ps2 : List Pt) (pa : Option Addr) (pc : Nat) (xp : Pt) (xr : Option Addr) (w : World) (hps : ps = ps1 ++ ps2)
    (hti : SP w title ti) (hki : SP w kind ki) (hsta : SP w status st) (hL : LSl w la ls) (hP : PSl w pa ps) (hO : Olds w ps) (hln : la = none → ls = [] ∧ lc = 0) (hpn : pa = none → ps = [] ∧ pc = 0) (hxr : ResIn w xr xp.c.res) (hxo : OldIn w xp.old) :
    Calls Try.prog 4 #[.string typ, .string id, .pointer title, .pointer kind, .pointer status, .slice la ls.length lc, .slice pa ps.length pc, .int .i64 (ps1.length : Int), .agg (xp.cells xr).toArray] w fun e w' => e = .returned (.bool true) ∧ Kp [] w w' := by
  have hcp : ps.length = ps1.length + ps2.length := by rw [hps]; simp
  have HTI := hid hti
  have HKI := hid hki
  have HST := hid hsta
  have HL := hid hL
  have HP := hid hP
  have HO := hid hO
  have HXR := hid hxr
  have HXO := hid hxo
  have HPS := hid hps
  have HCP := hid hcp
  have hst := fun wx g x n c x' n' c' => store41 wx g typ id ti ki st x n c x' n' c'
  have hnew := fun (wx : World) (Z : Array Value) (h : Z.size = 34) => there_at (heap_push wx (.cells Z 41)) h
  clear hti hki hsta hL hP hO hps hcp hxr hxo
  go_enter Try.func4, Try.ntmps4
  go_upto_region 1 with fail
  generalize hW : w.alloc _ = W0
  have kW : Kp [] w W0 := by rw [← hW]; exact (Kp.refl _ _).alloc _
  have hbx : W0.heap[w.heap.size]? = some (.cells (xp.cells xr).toArray 63 (0, 0)) := by rw [← hW]; exact heap_push _ _
  have HBX : Hid (∀ (j : Nat) (v : Value), (xp.cells xr)[j]? = some v → W0.cell? ⟨w.heap.size, 0 + j, none⟩ = some v) := hid (fun j v hv => by rw [cell_at hbx]; simpa using hv)
  have KW := hid kW
  clear hW kW hbx
  have hx63 := load63 HBX.out
  go_wp2_with fail
  refine (bytes4 typ id ti ki st title kind status ls la lc ps pa pc ps1.length xp xr W0 (HXR.out.kp KW.out) (HXO.out.kp KW.out) (HTI.out.kp KW.out) (HKI.out.kp KW.out) (HST.out.kp KW.out) (HL.out.kp KW.out) (HP.out.kp KW.out) (HO.out.kp KW.out)).mono ?_
  rintro e w1 ⟨b, rfl, -, k1⟩
  have K1 := hid (KW.out.trans k1)
  cases b with
  | false =>
    go_wp2_with fail
    go_ret
    exact ⟨rfl, K1.out⟩
  | true =>
    have HBX : Hid (∀ (j : Nat) (v : Value), (xp.cells xr)[j]? = some v → w1.cell? ⟨w.heap.size, 0 + j, none⟩ = some v) := hid (fun j v hv => k1.cell (HBX.out j v hv) (by simp))
    clear k1 hx63
    have hx63 := load63 HBX.out
    go_wp2_with fail
    refine (partBytes xp xr w1 (HXR.out.kp K1.out) (HXO.out.kp K1.out)).mono ?_
    rintro e w2 ⟨z, rfl, k2⟩
    have K2 := hid (K1.out.trans k2)
    have HBX : Hid (∀ (j : Nat) (v : Value), (xp.cells xr)[j]? = some v → w2.cell? ⟨w.heap.size, 0 + j, none⟩ = some v) := hid (fun j v hv => k2.cell (HBX.out j v hv) (by simp))
    clear k2 hx63 K1
    by_cases hz : 65536 < z
    · go_wp2_with fail
      go_ret
      exact ⟨rfl, K2.out⟩
    · go_wp2_with fail
      refine (toolWithin typ id ti ki st title kind status ls la lc ps pa pc 983040 w2 (HTI.out.kp K2.out) (HKI.out.kp K2.out) (HST.out.kp K2.out) (HL.out.kp K2.out) (HP.out.kp K2.out) (HO.out.kp K2.out)).mono ?_
      rintro e w3 ⟨b, rfl, hb, k3⟩
      have K3 := hid (K2.out.trans k3)
      have HBX : Hid (∀ (j : Nat) (v : Value), (xp.cells xr)[j]? = some v → w3.cell? ⟨w.heap.size, 0 + j, none⟩ = some v) := hid (fun j v hv => k3.cell (HBX.out j v hv) (by simp))
      clear k3 K2
      cases b with
      | false =>
        go_wp2_with fail
        go_ret
        exact ⟨rfl, K3.out⟩
      | true =>
        obtain ⟨hl6, hp6⟩ := hb rfl
        have hp7 : ps1.length ≤ 65536 ∧ ps2.length ≤ 65536 ∧ ¬ ps.length < ps1.length := by have := HCP.out; omega
        obtain ⟨hp7, hp8, g2⟩ := hp7
        have g4 : ¬ (ps.length : Int) < (ps1.length : Int) := by omega
        have l9 := load9
        have x0 : w3.cell? ⟨w.heap.size, 0, none⟩ = some (.string xp.ty) := HBX.out 0 _ rfl
        go_wp2_with fail
        refine (known_all xp.ty w3).mono ?_
        rintro e w4 ⟨rfl, hw4⟩
        subst hw4
        by_cases hkn : isKn xp.ty = true
        · unfold isKn at hkn
          rw [hkn]
          go_wp2_with fail
          go_ret
          exact ⟨rfl, K3.out⟩
        · have hkn : isKn xp.ty = false := by simpa using hkn
          have HXT := hid (tc_unknown xp hkn)
          unfold isKn at hkn
          rw [hkn]
          clear hkn hz hb
          have hmk := run_make_room 24 63 _ 11 160 Try.underlying24 info63 (ps.length + 1) (by omega) (by omega)
          simp only [Int.natCast_add, Int.natCast_one] at hmk
          obtain ⟨AA, hAA⟩ : ∃ AA, AA = madeCells (Value.agg #[.string ⟨#[]⟩, .string ⟨#[]⟩, .string ⟨#[]⟩, .string ⟨#[]⟩, .string ⟨#[]⟩, .string ⟨#[]⟩, .pointer none, .string ⟨#[]⟩, .pointer none, .string ⟨#[]⟩, .string ⟨#[]⟩]).cells ((ps.length + 1) * 11) := ⟨_, rfl⟩
          have hAs : AA.size = (ps.length + 1) * 11 := by rw [hAA, size_madeCells]
          rw [← hAA] at hmk
          have hAs := hid hAs
          clear hAA
          obtain ⟨i63, hi63, hz63, hs63, hb63⟩ := info_parts info63
          go_wp2_with fail
          go_loopw [19, 20] (fun va i wr => ∃ (k : Nat) (out : List (Pt × Option Addr)) (g c : Nat), k ≤ ps1.length ∧ i = .int .i64 k ∧ va = .slice (some ⟨g, 0, none⟩) out.length c ∧ out.map Prod.fst = ps.take k ∧ (∀ x ∈ out, ResIn w4 x.2 x.1.c.res) ∧ wr.ownsRow w4.heap.size 63 11 (.slice (some ⟨g, 0, none⟩) out.length c) out.length (pflat out) ∧ Kp [] w4 wr) (fun _ i _ => ps1.length - (intOf i).toNat)
          case atStart => exact ⟨0, [], w4.heap.size, ps.length + 1, Nat.zero_le _, rfl, rfl, by simp, by simp, ⟨rfl, Or.inr ⟨w4.heap.size, ps.length + 1, AA, rfl, Nat.le_refl _, heap_push _ _, by simp, by unfold maxLen; omega, hAs.out, by simp [pflat]⟩⟩, (Kp.refl _ _).alloc _⟩
          case round =>
            obtain ⟨k, out, g, c, hk, rfl, rfl, hout, hbl, hown, hK⟩ := hrel
            have HOW := hid hown
            have HOUT := hid hout
            have HBL := hid hbl
            clear hown hout hbl
            by_cases hlt : k < ps1.length
            · obtain ⟨p, hp⟩ : ∃ p, ps[k]? = some p := ⟨ps[k]'(by have := HCP.out; omega), by simp⟩
              obtain ⟨b, o, ha, rp, hres, hcs⟩ := (HP.out.kp K3.out) k p hp
              have hkm : k < ps.length := (List.getElem?_eq_some_iff.1 hp).1
              subst ha
              have HT := hid (take_next ps k p hp)
              have HRS := hid hres
              have hol : out.length = k := by have := congrArg List.length HOUT.out; simp at this; omega
              have hk63 : out.length + 1 ≤ maxLen := by unfold maxLen; omega
              have hol2 : out.length ≤ k := by omega
              have hksz := hK.size
              have L63 : (loadVar 63 ⟨b, o + k * 11, none⟩).run Try.prog wr = .ok (.agg #[.string p.ty, .string p.c.ty, .string p.c.text, .string p.c.mime, .string p.c.uri, .string p.c.name, .pointer rp, .string p.path, .pointer p.old, .string p.new, .string p.term]) wr := load63 (p := p) (rp := rp) (fun j v hv => hK.cell (hcs j v hv) (by simp))
              clear hcs hres hp hol
              go_wp2_with (first | (at_builtin; refine wpList_append_own _ rfl (.tmp 70) (.tmp 75) 24 rfl w4.heap.size 63 i63 _ 11 160 Try.underlying24 hi63 hz63 hs63 hb63 rfl (by decide) _ out.length (pflat out) rfl (own_kp HOW.out ((Kp.refl [] wr).alloc _)) ⟨wr.heap.size, 0, none⟩ 1 1 _ rfl rfl (news11 wr p rp) (one11 _ _) hk63 (by omega) (by simp; omega) ?_; intro va' w9 hoA' hgA _; obtain ⟨g', cap', rfl⟩ := ownsRow_succ hoA'; have HO2 := hid hoA'; have HG2 := hid hgA; clear hoA' hgA) | fail)
              obtain ⟨out', hl', hm', hb', ho', hK'⟩ := row_step (p := p) (rp := rp) ((Kp.refl [] wr).alloc _) hK HOW.out HBL.out HRS.out HO2.out HG2.out
              rw [← hl']
              exact ⟨⟨k + 1, out', g', cap', by omega, by go_num, rfl, by rw [hm', HOUT.out, HT.out], hb', ho', hK'⟩, by simp [intOf]; omega⟩
            · obtain rfl : k = ps1.length := by omega
              have HO1 : Hid (out.map Prod.fst = ps1) := hid (by rw [HOUT.out, HPS.out, List.take_left])
              have hol2 : out.length ≤ 65536 := by have := congrArg List.length HO1.out; simp at this; omega
              have hk63 : out.length + 1 ≤ maxLen := by unfold maxLen; omega
              have hksz := hK.size
              have LX : (loadVar 63 ⟨w.heap.size, 0, none⟩).run Try.prog wr = .ok (.agg #[.string xp.ty, .string xp.c.ty, .string xp.c.text, .string xp.c.mime, .string xp.c.uri, .string xp.c.name, .pointer xr, .string xp.path, .pointer xp.old, .string xp.new, .string xp.term]) wr := load63 (p := xp) (rp := xr) (fun j v hv => hK.cell (HBX.out j v hv) (by simp))
              go_wp2_with (first | (at_builtin; refine wpList_append_own _ rfl (.tmp 77) (.tmp 79) 24 rfl w4.heap.size 63 i63 _ 11 160 Try.underlying24 hi63 hz63 hs63 hb63 rfl (by decide) _ out.length (pflat out) rfl (own_kp HOW.out ((Kp.refl [] wr).alloc _)) ⟨wr.heap.size, 0, none⟩ 1 1 _ rfl rfl (news11 wr xp xr) (one11 _ _) hk63 (by omega) (by simp; omega) ?_; intro va' w9 hoA' hgA _; obtain ⟨g', cap', rfl⟩ := ownsRow_succ hoA'; have HO2 := hid hoA'; have HG2 := hid hgA; clear hoA' hgA) | fail)
              obtain ⟨out', hl', hm', hb', ho', hK'⟩ := row_step (p := xp) (rp := xr) ((Kp.refl [] wr).alloc _) hK HOW.out HBL.out (HXR.out.kp K3.out) HO2.out HG2.out
              rw [← hl']
              have HS := hid (And.intro hm' (And.intro hb' (And.intro ho' hK')))
              clear hl' hm' hb' ho' hK' HO2 HG2 HOW HBL HOUT hK LX hksz hol2 hk63 hmk hAs
              go_loopw [19, 21] (fun va i wr => ∃ (k : Nat) (out : List (Pt × Option Addr)) (g c : Nat), ps1.length ≤ k ∧ k ≤ ps.length ∧ i = .int .i64 k ∧ va = .slice (some ⟨g, 0, none⟩) out.length c ∧ out.map Prod.fst = ps1 ++ xp :: ps2.take (k - ps1.length) ∧ (∀ x ∈ out, ResIn w4 x.2 x.1.c.res) ∧ wr.ownsRow w4.heap.size 63 11 (.slice (some ⟨g, 0, none⟩) out.length c) out.length (pflat out) ∧ Kp [] w4 wr) (fun _ i _ => ps.length - (intOf i).toNat)
              case atStart => exact ⟨ps1.length, out', g', cap', Nat.le_refl _, by omega, rfl, rfl, by rw [HS.out.1, HO1.out]; simp, HS.out.2.1, HS.out.2.2.1, HS.out.2.2.2⟩
              case round =>
                clear HS HO1
                obtain ⟨k, out, gx, cx, hk1, hk, rfl, rfl, hout, hbl, hown, hK⟩ := hrel
                have HOW := hid hown
                have HOUT := hid hout
                have HBL := hid hbl
                clear hown hout hbl
                by_cases hlt : k < ps.length
                · obtain ⟨p, hp⟩ : ∃ p, ps[k]? = some p := ⟨ps[k]'hlt, by simp⟩
                  have hp2 : ps2[k - ps1.length]? = some p := by rw [← hp, HPS.out, List.getElem?_append_right hk1]
                  obtain ⟨b, o, ha, rp, hres, hcs⟩ := (HP.out.kp K3.out) k p hp
                  subst ha
                  have HT := hid (take_next ps2 (k - ps1.length) p hp2)
                  have HRS := hid hres
                  have hol2 : out.length ≤ 65537 := by
                    have h1 := congrArg List.length HOUT.out
                    have h2 := List.length_take_le (k - ps1.length) ps2
                    simp only [List.length_map, List.length_append, List.length_cons] at h1
                    have := HCP.out
                    omega
                  have hk63 : out.length + 1 ≤ maxLen := by unfold maxLen; omega
                  have hksz := hK.size
                  have L63 : (loadVar 63 ⟨b, o + k * 11, none⟩).run Try.prog wr = .ok (.agg #[.string p.ty, .string p.c.ty, .string p.c.text, .string p.c.mime, .string p.c.uri, .string p.c.name, .pointer rp, .string p.path, .pointer p.old, .string p.new, .string p.term]) wr := load63 (p := p) (rp := rp) (fun j v hv => hK.cell (hcs j v hv) (by simp))
                  clear hcs hres hp hp2
                  go_wp2_with (first | (at_builtin; refine wpList_append_own _ rfl (.tmp 88) (.tmp 93) 24 rfl w4.heap.size 63 i63 _ 11 160 Try.underlying24 hi63 hz63 hs63 hb63 rfl (by decide) _ out.length (pflat out) rfl (own_kp HOW.out ((Kp.refl [] wr).alloc _)) ⟨wr.heap.size, 0, none⟩ 1 1 _ rfl rfl (news11 wr p rp) (one11 _ _) hk63 (by omega) (by simp; omega) ?_; intro va' w9 hoA' hgA _; obtain ⟨g', cap', rfl⟩ := ownsRow_succ hoA'; have HO2 := hid hoA'; have HG2 := hid hgA; clear hoA' hgA) | fail)
                  obtain ⟨out', hl', hm', hb', ho', hK'⟩ := row_step (p := p) (rp := rp) ((Kp.refl [] wr).alloc _) hK HOW.out HBL.out HRS.out HO2.out HG2.out
                  rw [← hl']
                  exact ⟨⟨k + 1, out', g', cap', by omega, by omega, by go_num, rfl, by rw [hm', HOUT.out, show k + 1 - ps1.length = k - ps1.length + 1 from by omega, HT.out]; simp, hb', ho', hK'⟩, by simp [intOf]; omega⟩
                · obtain rfl : k = ps.length := by omega
                  obtain ⟨psx, hpsx⟩ : ∃ psx, psx = ps1 ++ xp :: ps2 := ⟨_, rfl⟩
                  have hox : out.map Prod.fst = psx := by rw [HOUT.out, show ps.length - ps1.length = ps2.length from by have := HCP.out; omega, List.take_length, hpsx]
                  have hoL : out.length = psx.length := by rw [← hox]; simp
                  have HPX : Hid (PSl wr (some ⟨gx, 0, none⟩) psx) := hid (by rw [← hox]; exact row_psl HOW.out HBL.out hK)
                  have hxl : psx.length ≤ 65537 := by rw [hpsx]; simp; have := HCP.out; omega
                  have HTS : Hid (psx.filterMap Pt.tc = ps.filterMap Pt.tc) := hid (by rw [hpsx, HPS.out, List.filterMap_append, List.filterMap_append, List.filterMap_cons, HXT.out])
                  rw [hoL]
                  have KR := hid (K3.out.trans hK)
                  clear hpsx hox hoL HOW HBL HOUT hK hi63 hz63 hs63 hb63 K3 HBX hlt
                  have C9 := hid (fun wx k => call9 wr id title kind status ls la lc ps pa pc (by omega) (HL.out.kp KR.out) hln (by omega) (HP.out.kp KR.out) (hpn) wx k)
                  have C8 := hid (fun w1 wx vl vp h1 h2 k1 k => call8 wr typ id ti ki st title kind status ls la ps pa (by omega) (by omega) (HTI.out.kp KR.out) (HKI.out.kp KR.out) (HST.out.kp KR.out) w1 wx vl vp h1 h2 k1 k)
                  go_upto_region 21 with fail
                  go_cut [22] from 95 to 103 (fun s wx => ∃ g x n c x' n' c', s = .pointer (some ⟨g, 0, none⟩) ∧ EvAt wx g typ id ti ki st la pa x n c x' n' c' ls (ps.filterMap Pt.tc) ∧ Kp [] wr wx)
                  case first =>
                    go_wp2_with fail
                    refine (C9.out _ (Kp.refl _ _)).mono ?_
                    rintro e w5 ⟨vl, vp, rfl, h1, h2, k3, -⟩
                    go_wp2_with fail
                    refine (C8.out w5 w5 _ _ h1 h2 (Kp.refl _ _) k3).mono ?_
                    rintro e w6 ⟨x, n, c, x', n', c', rfl, h3, h4, -, k4⟩
                    have HM := hid (stored (typ := typ) (id := id) (ti := ti) (ki := ki) (st := st) (heap_push w6 (.cells zeroEv4 41)) rfl k4.size (h3.kp ((Kp.refl [] _).alloc _)) (h4.kp ((Kp.refl [] _).alloc _)) (fun h => (hln h).1) (fun h => by rw [((hpn) h).1]; rfl) (k4.alloc _))
                    clear h1 h2 h3 h4 k3 k4
                    go_wp2_with fail
                    go_meet
                    case rel => exact ⟨_, _, _, _, _, _, _, rfl, HM.out⟩
                  case rest =>
                    obtain ⟨ga, xa, na, ca, xa', na', ca', rfl, EA, K5⟩ := hcut
                    obtain ⟨wA, rfl⟩ : ∃ wA, wA = wc := ⟨_, rfl⟩
                    have HEA := hid EA
                    have KA := hid (KR.out.trans K5)
                    have HPX := hid (HPX.out.kp K5)
                    clear EA K5 C9 C8 KR
                    have C9 := hid (fun wx k => call9 wA id title kind status ls la lc psx (some ⟨gx, 0, none⟩) cx (by omega) (HL.out.kp KA.out) hln (hxl) (HPX.out) (fun h => by cases h) wx k)
                    have C8 := hid (fun w1 wx vl vp h1 h2 k1 k => call8 wA typ id ti ki st title kind status ls la psx (some ⟨gx, 0, none⟩) (by omega) (hxl) (HTI.out.kp KA.out) (HKI.out.kp KA.out) (HST.out.kp KA.out) w1 wx vl vp h1 h2 k1 k)
                    go_upto_region 22 with fail
                    go_cut [23] from 104 to 112 (fun s wx => ∃ g x n c x' n' c', s = .pointer (some ⟨g, 0, none⟩) ∧ EvAt wx g typ id ti ki st la (some ⟨gx, 0, none⟩) x n c x' n' c' ls (psx.filterMap Pt.tc) ∧ Kp [] wA wx)
                    case first =>
                      go_wp2_with fail
                      refine (C9.out _ (Kp.refl _ _)).mono ?_
                      rintro e w5 ⟨vl, vp, rfl, h1, h2, k3, -⟩
                      go_wp2_with fail
                      refine (C8.out w5 w5 _ _ h1 h2 (Kp.refl _ _) k3).mono ?_
                      rintro e w6 ⟨x, n, c, x', n', c', rfl, h3, h4, -, k4⟩
                      have HM := hid (stored (typ := typ) (id := id) (ti := ti) (ki := ki) (st := st) (heap_push w6 (.cells zeroEv4 41)) rfl k4.size (h3.kp ((Kp.refl [] _).alloc _)) (h4.kp ((Kp.refl [] _).alloc _)) (fun h => (hln h).1) (fun h => by cases h) (k4.alloc _))
                      clear h1 h2 h3 h4 k3 k4
                      go_wp2_with fail
                      go_meet
                      case rel => exact ⟨_, _, _, _, _, _, _, rfl, HM.out⟩
                    case rest =>
                      obtain ⟨gb, xb, nb, cb, xb', nb', cb', rfl, EB, K6⟩ := hcut
                      obtain ⟨wB, rfl⟩ : ∃ wB, wB = wc := ⟨_, rfl⟩
                      have HEB := hid EB
                      have HEA := hid (HEA.out.kp K6)
                      have KB := hid (KA.out.trans K6)
                      clear EB K6 C9 C8 KA HPX hst hnew
                      have hld := load41 HEA.out.at_ rfl
                      go_wp2_with fail
                      refine (head_all typ id ti ki st title kind status xa na ca xa' na' ca' wB (HTI.out.kp KB.out) (HKI.out.kp KB.out) (HST.out.kp KB.out)).mono ?_
                      rintro e w5 ⟨rfl, k5⟩
                      have K5 := hid (KB.out.trans k5)
                      have HEA := hid (HEA.out.kp k5)
                      have HEB := hid (HEB.out.kp k5)
                      clear k5 hld KB
                      have hld := load41 HEB.out.at_ rfl
                      go_wp2_with fail
                      refine (head_all typ id ti ki st title kind status xb nb cb xb' nb' cb' w5 (HTI.out.kp K5.out) (HKI.out.kp K5.out) (HST.out.kp K5.out)).mono ?_
                      rintro e w7 ⟨rfl, k6⟩
                      have K7 := hid (K5.out.trans k6)
                      have HEA := hid (HEA.out.kp k6)
                      have HEB := hid (HEB.out.kp k6)
                      clear k6 hld K5
                      rw [HTS.out] at HEB
                      have hTl : (ps.filterMap Pt.tc).length ≤ ps.length := List.length_filterMap_le _ _
                      have C12 := hid (fun wx (k : Kp [] w7 wx) => knownCount ps pa pc wx (by omega) (HP.out.kp (K7.out.trans k)))
                      obtain ⟨ts, hts⟩ : ∃ ts, ts = ps.filterMap Pt.tc := ⟨_, rfl⟩
                      rw [← hts] at HEA HEB hTl C12
                      have ht6 : ts.length ≤ 65536 := by omega
                      have HTD := hid hts
                      clear hts hTl HTS
                      obtain rfl := HEA.out.parts.len
                      obtain rfl := HEB.out.parts.len
                      obtain rfl := HEA.out.locs.len
                      obtain rfl := HEB.out.locs.len
                      have ib : xb'.isNone = false := HEB.out.parts.isNone
                      have a24 := HEA.out.c24
                      have b24 := HEB.out.c24
                      have l9 := load9
                      have l33 := load33
                      have l34 := load34
                      have l49 := load49
                      have n49 := neq49
                      have e34 := fun wx a n c n' c' => Lib.run_eql_slice_nil (P := Try.prog) wx 34 _ a n c n' c' Try.underlying34
                      go_wp2_with fail
                      clear a24 b24
                      go_loopw [24] (fun i wr => ∃ k : Nat, k ≤ ls.length ∧ i = .int .i64 k ∧ Kp [] w7 wr) (fun i _ => ls.length - (intOf i).toNat)
                      case atStart => exact ⟨0, Nat.zero_le _, rfl, Kp.refl _ _⟩
                      case round =>
                        obtain ⟨k, hk, rfl, hK⟩ := hrel
                        have hr := Kp.refl [] wr
                        by_cases hlt : k < ls.length
                        · obtain ⟨l, hl⟩ : ∃ l, ls[k]? = some l := ⟨ls[k]'hlt, by simp⟩
                          have ax : ∀ w', Kp [] wr w' → w'.cell? ⟨ga, 24, none⟩ = some (.slice xa ls.length ca) := fun w' kk => (hK.trans kk).cell HEA.out.c24 (by simp)
                          have bx : ∀ w', Kp [] wr w' → w'.cell? ⟨gb, 24, none⟩ = some (.slice xb ls.length cb) := fun w' kk => (hK.trans kk).cell HEB.out.c24 (by simp)
                          obtain ⟨b, o, ha, d0, d1⟩ := (HL.out.kp (K7.out.trans hK)) k l hl
                          obtain ⟨q1, hq1, r0, r1⟩ := (HEA.out.kp hK).locs.cells k l hl
                          obtain ⟨q2, hq2, t0, t1⟩ := (HEB.out.kp hK).locs.cells k l hl
                          subst ha hq1 hq2
                          have D0 : ∀ w', Kp [] wr w' → w'.cell? ⟨b, o + k * 2, none⟩ = some (.string l.path) := fun w' kk => kk.cell d0 (by simp)
                          have D1 : ∀ w', Kp [] wr w' → w'.cell? ⟨b, o + k * 2 + 1, none⟩ = some (.pointer l.line) := fun w' kk => kk.cell d1 (by simp)
                          have R0 : ∀ w', Kp [] wr w' → w'.cell? ⟨q1, k * 2, none⟩ = some (.string l.path) := fun w' kk => kk.cell r0 (by simp)
                          have R1 : ∀ w', Kp [] wr w' → w'.cell? ⟨q1, k * 2 + 1, none⟩ = some (.pointer l.line) := fun w' kk => kk.cell r1 (by simp)
                          have L1 : ∀ w', Kp [] wr w' → (loadVar 51 ⟨q1, k * 2, none⟩).run Try.prog w' = .ok (.agg #[.string l.path, .pointer l.line]) w' := fun w' kk => load51 (kk.cell r0 (by simp)) (kk.cell r1 (by simp))
                          have L2 : ∀ w', Kp [] wr w' → (loadVar 51 ⟨q2, k * 2, none⟩).run Try.prog w' = .ok (.agg #[.string l.path, .pointer l.line]) w' := fun w' kk => load51 (kk.cell t0 (by simp)) (kk.cell t1 (by simp))
                          clear r0 r1 t0 t1 hl d0 d1
                          go_wp2_with fail
                          go_region_held3 (fun w' => Kp [] wr w') (first | exact (Kp.refl [] _).drew | exact Kp.trans (by assumption) kr | assumption) (first
                            | (go_at_call 11; refine (sameLoc l _).mono ?_; rintro e w8 ⟨rfl, kr⟩))
                          all_goals
                            go_wp2_with fail
                            exact ⟨⟨k + 1, by omega, by go_num, hK.trans (by assumption)⟩, by simp [intOf]; omega⟩
                        · have HK := hid hK
                          clear hK
                          go_wp2_with fail
                          have a25 : ∀ w', Kp [] wr w' → w'.cell? ⟨ga, 25, none⟩ = some (.slice xa' ts.length ca') := fun w' kk => (HK.out.trans kk).cell HEA.out.c25 (by simp)
                          have b25 : ∀ w', Kp [] wr w' → w'.cell? ⟨gb, 25, none⟩ = some (.slice xb' ts.length cb') := fun w' kk => (HK.out.trans kk).cell HEB.out.c25 (by simp)
                          go_region_held3 (fun w' => Kp [] wr w') (first | exact (Kp.refl [] _).drew | assumption) (first
                            | (go_at_call 12; refine (C12.out _ ?_).mono ?_; exact HK.out.trans (by assumption); rintro e w' ⟨rfl, rfl⟩))
                          have KR := hid (Kp.refl [] wr).drew
                          go_wp2_with fail
                          clear a25 b25 hr
                          go_loopw [25, 26] (fun j i wr => ∃ k : Nat, k ≤ ps.length ∧ i = .int .i64 k ∧ j = .int .i64 ((ps.take k).filterMap Pt.tc).length ∧ Kp [] w7 wr) (fun _ i _ => ps.length - (intOf i).toNat)
                          case atStart => exact ⟨0, Nat.zero_le _, rfl, rfl, HK.out.trans KR.out⟩
                          case round =>
                            clear KR HK
                            obtain ⟨k, hk, rfl, rfl, hK⟩ := hrel
                            have hr := Kp.refl [] wr
                            by_cases hlt : k < ps.length
                            · obtain ⟨p, hp⟩ : ∃ p, ps[k]? = some p := ⟨ps[k]'hlt, by simp⟩
                              obtain ⟨b, o, ha, rp, hres, hcs⟩ := (HP.out.kp (K7.out.trans hK)) k p hp
                              subst ha
                              have c0 : wr.cell? ⟨b, o + k * 11, none⟩ = some (.string p.ty) := hcs 0 _ rfl
                              have HT := hid (take_next ps k p hp)
                              have hle : ((ps.take k).filterMap Pt.tc).length ≤ k := Nat.le_trans (List.length_filterMap_le _ _) (List.length_take_le _ _)
                              have hJ : ∀ t, p.tc = some t → ts[((ps.take k).filterMap Pt.tc).length]? = some t := fun t ht => by
                                have e : ps = ps.take k ++ p :: ps.drop (k + 1) := by
                                  conv => lhs; rw [← List.take_append_drop (k + 1) ps]
                                  rw [HT.out, List.append_assoc]; rfl
                                have e2 : ps.filterMap Pt.tc = (ps.take k).filterMap Pt.tc ++ t :: (ps.drop (k + 1)).filterMap Pt.tc := by
                                  conv => lhs; rw [e]
                                  rw [List.filterMap_append, List.filterMap_cons, ht]
                                rw [HTD.out, e2, List.getElem?_append_right (Nat.le_refl _), Nat.sub_self]; rfl
                              clear hp
                              generalize hL : ((ps.take k).filterMap Pt.tc).length = J at hle hJ ⊢
                              have HL := hid hL
                              have HJ := hid hJ
                              clear hL hJ
                              go_wp2_with fail
                              refine (known_all p.ty wr).mono ?_
                              rintro e w8 ⟨rfl, hw8⟩
                              cases hw8
                              by_cases hkn : isKn p.ty = true
                              · obtain ⟨t, ht⟩ := tc_known p hkn
                                have hs : ((ps.take (k + 1)).filterMap Pt.tc).length = J + 1 := by rw [HT.out, List.filterMap_append, List.length_append, HL.out]; simp [ht]
                                have hJt := HJ.out t ht
                                have hJl : J < ts.length := (List.getElem?_eq_some_iff.1 hJt).1
                                unfold isKn at hkn
                                rw [hkn]
                                obtain ⟨q1, bp1, hq1, hb1, r1⟩ := (HEA.out.kp hK).parts.cells J t hJt
                                obtain ⟨q2, bp2, hq2, hb2, r2⟩ := (HEB.out.kp hK).parts.cells J t hJt
                                have ax : ∀ w', Kp [] wr w' → w'.cell? ⟨ga, 25, none⟩ = some (.slice xa' ts.length ca') := fun w' kk => (hK.trans kk).cell HEA.out.c25 (by simp)
                                have bx : ∀ w', Kp [] wr w' → w'.cell? ⟨gb, 25, none⟩ = some (.slice xb' ts.length cb') := fun w' kk => (hK.trans kk).cell HEB.out.c25 (by simp)
                                subst hq1 hq2
                                have L1 : ∀ w', Kp [] wr w' → (loadVar 58 ⟨q1, J * 7, none⟩).run Try.prog w' = .ok (.agg (t.cells bp1).toArray) w' := fun w' kk => load58 (fun j v hv => kk.cell (r1 j v hv) (by simp))
                                have L2 : ∀ w', Kp [] wr w' → (loadVar 58 ⟨q2, J * 7, none⟩).run Try.prog w' = .ok (.agg (t.cells bp2).toArray) w' := fun w' kk => load58 (fun j v hv => kk.cell (r2 j v hv) (by simp))
                                have L3 : ∀ w', Kp [] wr w' → (loadVar 63 ⟨b, o + k * 11, none⟩).run Try.prog w' = .ok (.agg (p.cells rp).toArray) w' := fun w' kk => load63 (fun j v hv => kk.cell (hcs j v hv) (by simp))
                                have SB := hid (And.intro hb1 (And.intro hb2 (And.intro hres ht)))
                                have HS := hid hs
                                clear hs hkn ht r1 r2 hb1 hb2 hres hcs hJt
                                go_wp2_with fail
                                go_region_held3 (fun w' => Kp [] wr w') (first | exact (Kp.refl [] _).drew | exact Kp.trans (by assumption) kr | assumption) (first
                                  | (go_at_call 17; refine (partSpec p t rp bp1 _ SB.out.2.2.2 ?_ ?_).mono ?_; exact SB.out.2.2.1.kp (by assumption); exact SB.out.1.kp (by assumption); rintro e w8 ⟨rfl, kr⟩)
                                  | (go_at_call 13; refine (samePart t bp1 bp2 _ ?_ ?_).mono ?_; exact SB.out.1.kp (by assumption); exact SB.out.2.1.kp (by assumption); rintro e w9 ⟨rfl, kr⟩))
                                all_goals
                                  go_wp2_with fail
                                  exact ⟨⟨k + 1, by omega, by go_num, by rw [HS.out]; go_num, hK.trans (by assumption)⟩, by simp [intOf]; omega⟩
                              · have hkn : isKn p.ty = false := by simpa using hkn
                                have hs : ((ps.take (k + 1)).filterMap Pt.tc).length = J := by rw [HT.out, List.filterMap_append, List.length_append, HL.out]; simp [tc_unknown p hkn]
                                unfold isKn at hkn
                                rw [hkn]
                                have HS := hid hs
                                clear hs hkn hcs hres
                                go_wp2_with fail
                                exact ⟨⟨k + 1, by omega, by go_num, by rw [HS.out], hK⟩, by simp [intOf]; omega⟩
                            · have HK := hid hK
                              clear hK
                              go_wp2_with fail
                              go_ret
                              exact ⟨rfl, K7.out.trans HK.out⟩

end Go.Proofs.Qxb6613960a
