/-
  The law FnAnchorTakesNewWholeKeepsOthers, walked behind its guards.
-/
import Derived.Test.Qxb6613301aAd
import Derived.OwnWalk
import Derived.LaidEqlPtr
set_option linter.unusedVariables false
set_option linter.unusedSimpArgs false
namespace Go.Proofs.Qxb6613301a
open Go.RowKit

theorem info38 : (Try.prog.info? 38).map (fun i => (i.zero, i.size, i.bytes)) = some (some (.agg #[.bool false, .int .i64 0, .int .i64 0]), 3, 24) := by kernel_rfl

theorem info72 : ∃ j, Try.prog.info? 72 = some j := by
  cases h : Try.prog.info? 72 with
  | some j => exact ⟨j, rfl⟩
  | none =>
    have : (Try.prog.info? 72).isSome = true := by kernel_rfl
    rw [h] at this
    cases this
theorem ptr_eql (w : World) (p : Option Addr) : (binOp .eql 45 (.pointer p) (.pointer p)).run Try.prog w = .ok (.bool true) w := by
  cases p with
  | none => exact run_eql_pointer_nil w 45 none (by kernel_rfl)
  | some a =>
    obtain ⟨j, hj⟩ := info72
    exact run_eql_ptr_same w a Try.underlying45 hj
theorem ptr_neq (w : World) (p : Option Addr) : (binOp .neq 45 (.pointer p) (.pointer p)).run Try.prog w = .ok (.bool false) w := by
  cases p with
  | none => exact run_neq_pointer_nil w 45 none (by kernel_rfl)
  | some a =>
    obtain ⟨j, hj⟩ := info72
    have h : ∀ d : Nat, (Op.equalIn (d + 1) 45 (.pointer (some a)) (.pointer (some a))).run Try.prog w = .ok true w := fun d => by
      simp [Op.equalIn, run_underlying Try.underlying45, sizeOf, typeInfo, hj, run_sameAddr_same]
    simp only [binOp]
    simp [Op.equal, Op.maxDepth, h 9999]

theorem run_make_room (t e : TypeId) (z : Value) (size bytes : Nat) (ht : Try.prog.underlying t = some (.slice e)) (hinfo : (Try.prog.info? e).map (fun i => (i.zero, i.size, i.bytes)) = some (some z, size, bytes))
    (n : Nat) (hbytes : bytes * n ≤ 281474976710656) (h63 : n ≤ 9223372036854775807) (w : World) :
    (Instr.makeSlice t (.int .i64 0) (.int .i64 (n : Int))).run Try.prog w = .ok (.slice (some ⟨w.heap.size, 0, none⟩) 0 n) (w.alloc (.cells (madeCells z.cells (n * size)) e)) := by
  obtain ⟨i, hi, hzz⟩ := Option.map_eq_some_iff.1 hinfo
  simp only [Prod.mk.injEq] at hzz
  obtain ⟨hz, hs, hb⟩ := hzz
  have hb' : (i.bytes : Int) * (n : Int) ≤ 281474976710656 := by
    have h : ((i.bytes * n : Nat) : Int) ≤ 281474976710656 := by rw [hb]; omega
    rwa [Int.natCast_mul] at h
  have hr := run_make (P := Try.prog) w t e i z ht hi hz .i64 .i64 0 n (by omega) (by omega) hb' (by omega)
  simp only [Int.toNat_natCast, hs] at hr
  exact hr

theorem cell_news (w : World) (cs : Array Value) (t : TypeId) (j : Nat) : (w.alloc (.cells cs t)).cell? ((⟨w.heap.size, 0, none⟩ : Addr).add j) = cs[j]? := by
  have : (⟨w.heap.size, 0, none⟩ : Addr).add j = ⟨w.heap.size, j, none⟩ := by unfold Addr.add; split <;> simp_all
  rw [this, cell_at (heap_push _ _)]
theorem news3 (w : World) (g : Bool) (h i : Int) : ∀ j u, [Value.bool g, Value.int .i64 h, Value.int .i64 i][j]? = some u → (w.alloc (.cells #[.bool g, .int .i64 h, .int .i64 i] 38)).cell? ((⟨w.heap.size, 0, none⟩ : Addr).add j) = some u := by
  intro j u hj
  rw [cell_news]
  simpa using hj
theorem news1 (w : World) (p : Option Addr) : ∀ j u, [Value.pointer p][j]? = some u → (w.alloc (.cells #[.pointer p] 45)).cell? ((⟨w.heap.size, 0, none⟩ : Addr).add j) = some u := by
  intro j u hj
  rw [cell_news]
  simpa using hj
theorem one3 (g : Bool) (h i : Int) : ∀ u ∈ [Value.bool g, Value.int .i64 h, Value.int .i64 i], u.oneCell' = true := by
  intro u hu
  simp at hu
  rcases hu with rfl | rfl | rfl <;> rfl
theorem one1 (p : Option Addr) : ∀ u ∈ [Value.pointer p], u.oneCell' = true := by
  intro u hu
  simp at hu
  subst hu
  rfl
theorem flat_take {rs : List R} {k : Nat} {r : R} (h : rs[k]? = some r) : flat (rs.take (k + 1)) = flat (rs.take k) ++ [.bool r.g, .int .i64 r.h, .int .i64 r.i] := by
  rw [List.take_add_one, h]; simp [flat]
theorem ptrs_take {ps : List Nat} {k p : Nat} (h : ps[k]? = some p) : ptrs (ps.take (k + 1)) = ptrs (ps.take k) ++ [.pointer (some ⟨p, 0, none⟩)] := by
  rw [List.take_add_one, h]; simp [ptrs]

/-- A response stays while a row of another type grows. -/
theorem resp_keep {w w' : World} {base e size : Nat} {v : Value} {n : Nat} {xs : List Value} {b k : Nat} {g : Bool} {h : Int} (ho : w.ownsRow base e size v n xs) (hb : w.heap[b]? = some (respObj k g h)) (hne : e ≠ 72) (hg : w.grownBy w' v.ownBlock) : w'.heap[b]? = some (respObj k g h) := by
  rw [hg.block b (lt_of_at hb) ?_]; exact hb
  rcases ho.2 with ⟨rfl, _⟩ | ⟨g', cap', cur', rfl, _, hh', _⟩
  · simp [Value.ownBlock]
  · simp [Value.ownBlock]
    rintro rfl
    rw [hb] at hh'
    simp [respObj] at hh'
    exact hne hh'.2.symm
/-- What the first append leaves. -/
theorem after_all {w7 wr w8 : World} {va vb : Value} {k : Nat} {xs ys : List Value} {o : Obj} (hA : wr.ownsRow w7.heap.size 38 3 va k xs) (hB : wr.ownsRow w7.heap.size 45 1 vb k ys) (hK : Kp [] w7 wr) (hg : (wr.alloc o).grownBy w8 va.ownBlock) :
    w8.ownsRow w7.heap.size 45 1 vb k ys ∧ Kp [] w7 w8 :=
  ⟨own_keep (own_kp hB ((Kp.refl _ _).alloc _)) (own_kp hA ((Kp.refl _ _).alloc _)) (by decide) hg, kp_grown (hK.alloc _) (own_kp hA ((Kp.refl _ _).alloc _)) (Nat.le_refl _) hg⟩
theorem after_rs {w7 wr w8 : World} {va vb : Value} {k m : Nat} {xs ys : List Value} {o : Obj} (hA : wr.ownsRow w7.heap.size 38 3 va m xs) (hB : wr.ownsRow w7.heap.size 45 1 vb k ys) (hK : Kp [] w7 wr) (hg : (wr.alloc o).grownBy w8 vb.ownBlock) :
    w8.ownsRow w7.heap.size 38 3 va m xs ∧ Kp [] w7 w8 :=
  ⟨own_keep (own_kp hA ((Kp.refl _ _).alloc _)) (own_kp hB ((Kp.refl _ _).alloc _)) (by decide) hg, kp_grown (hK.alloc _) (own_kp hB ((Kp.refl _ _).alloc _)) (Nat.le_refl _) hg⟩

set_option maxRecDepth 100000 in
set_option maxHeartbeats 4000000 in
theorem main_walk (so st : Bool) (nb : Nat) (a : Option Addr) (cap : Nat) (rs : List R) (x : R) (w : World) (hl : rs.length ≤ 4096) (hnb : nb ≤ 4096) (hr : RSl w a rs) :
    Calls Try.prog 6 #[.bool so, .bool st, .int .i64 (nb : Int), .slice a rs.length cap, .agg #[.bool x.g, .int .i64 x.h, .int .i64 x.i]] w fun e w' => e = .returned (.bool true) ∧ Below w.heap.size w w' := by
  obtain ⟨n, hn⟩ : ∃ n, n = rs.length := ⟨_, rfl⟩
  obtain ⟨g, hg⟩ : ∃ g, g = x.g := ⟨_, rfl⟩
  obtain ⟨h, hh⟩ : ∃ h, h = x.h := ⟨_, rfl⟩
  obtain ⟨i, hi⟩ : ∃ i, i = x.i := ⟨_, rfl⟩
  have hX : x = ⟨g, h, i⟩ := by rw [hg, hh, hi]
  rw [← hn, ← hg, ← hh, ← hi]
  rw [← hn] at hl
  have HN := hid hn
  have HX := hid hX
  have HR := hid hr
  clear hn hg hh hi hX hr
  have hmkA := run_make_room 36 38 _ 3 24 Try.underlying36 info38 (n + 1) (by omega) (by omega)
  have hmkB := run_make_room 41 45 _ 1 8 Try.underlying41 info45 (n + 1) (by omega) (by omega)
  obtain ⟨AA, hAA⟩ : ∃ AA, AA = madeCells (Value.agg #[.bool false, .int .i64 0, .int .i64 0]).cells ((n + 1) * 3) := ⟨_, rfl⟩
  obtain ⟨BB, hBB⟩ : ∃ BB, BB = madeCells (Value.pointer none).cells ((n + 1) * 1) := ⟨_, rfl⟩
  have hAs : AA.size = (n + 1) * 3 := by rw [hAA, size_madeCells]
  have hBs : BB.size = (n + 1) * 1 := by rw [hBB, size_madeCells]
  rw [← hAA] at hmkA
  rw [← hBB] at hmkB
  rw [show ((n + 1 : Nat) : Int) = (n : Int) + 1 from by omega] at hmkA hmkB
  clear hAA hBB
  have hnb1 : ¬ ((nb : Int) < 0) := by omega
  have hnb2 : ¬ ((4096 : Int) < (nb : Int)) := by omega
  have hln : ¬ ((4096 : Int) < (n : Int)) := by omega
  have hpe := ptr_eql
  have hpn := ptr_neq
  go_enter Try.func6, Try.ntmps6
  go_wp2_with fail
  refine (bytes21_any _ _ _ a n cap g h i _ (by omega)).mono ?_
  rintro e w1 ⟨b, rfl, k1⟩
  have hx1 := k1.at (heap_push _ _) (by simp)
  have K1 : Kp [] w w1 := ((Kp.refl _ _).alloc _).trans k1
  cases b
  · go_wp2_with fail
    go_ret
    exact ⟨rfl, K1.below _ (Nat.le_refl _) (by simp)⟩
  have hr1 : RSl w1 a rs := fun k r hk => by
    obtain ⟨b, o, e1, e2, e3, e4⟩ := HR.out k r hk
    exact ⟨b, o, e1, K1.cell e2 (by simp), K1.cell e3 (by simp), K1.cell e4 (by simp)⟩
  have PM := hid (premise_any (nb : Int) a cap rs w1 (by rw [← HN.out]; exact hl) hr1)
  rw [← HN.out] at PM
  have HX1 := hid hx1
  clear hr1 hx1 k1
  go_wp2_with fail
  refine Calls.mono PM.out ?_
  rintro e w2 ⟨b, rfl, q2, hw2⟩
  have k2 : Kp [] w1 w2 := by rw [hw2]; exact (Kp.refl _ _).drewN _
  have hx2 := k2.at HX1.out (by simp)
  have K2 := K1.trans k2
  have HX2 := hid hx2
  have x0 : w2.cell? ⟨w.heap.size, 0, none⟩ = some (.bool g) := by rw [cell_at hx2]; rfl
  have x1 : w2.cell? ⟨w.heap.size, 1, none⟩ = some (.int .i64 h) := by rw [cell_at hx2]; rfl
  have x2 : w2.cell? ⟨w.heap.size, 2, none⟩ = some (.int .i64 i) := by rw [cell_at hx2]; rfl
  clear PM HX1 hx2 hw2 k2 K1
  cases b
  · go_wp2_with fail
    go_ret
    exact ⟨rfl, K2.below _ (Nat.le_refl _) (by simp)⟩
  go_wp2_with fail
  have pm := premise_any (nb : Int) (some ⟨w2.heap.size, 0, none⟩) 1 [⟨g, h, i⟩] (w2.alloc (.cells #[.bool g, .int .i64 h, .int .i64 i] 38)) (by simp) (fun k r hk => by
    cases k with
    | zero =>
      simp at hk
      subst hk
      refine ⟨_, _, rfl, ?_, ?_, ?_⟩
      · rw [cell_at (heap_push _ _)]; rfl
      · rw [cell_at (heap_push _ _)]; rfl
      · rw [cell_at (heap_push _ _)]; rfl
    | succ k => simp at hk)
  simp only [List.length_singleton] at pm
  have PM := hid pm
  clear pm
  refine Calls.mono PM.out ?_
  rintro e w3 ⟨b, rfl, q3, hw3⟩
  have k3 : Kp [] w2 w3 := by rw [hw3]; exact ((Kp.refl _ _).alloc _).drewN _
  have hx3 := k3.at HX2.out (by simp)
  have K3 := K2.trans k3
  have HX3 := hid hx3
  clear PM HX2 hx3 hw3 k3 K2 x0 x1 x2
  cases b
  · go_wp2_with fail
    go_ret
    exact ⟨rfl, K3.below _ (Nat.le_refl _) (by simp)⟩
  have rsl : ∀ wx, Kp [] w wx → RSl wx a rs := fun wx kx k r hk => by
    obtain ⟨b, o, e1, e2, e3, e4⟩ := HR.out k r hk
    exact ⟨b, o, e1, kx.cell e2 (by simp), kx.cell e3 (by simp), kx.cell e4 (by simp)⟩
  have RSL := hid rsl
  clear rsl
  have RS := hid (responses_any a cap rs w3 (by rw [← HN.out]; exact hl) (RSL.out w3 K3))
  rw [← HN.out] at RS
  go_wp2_with fail
  refine Calls.mono RS.out ?_
  rintro e w4 ⟨ps, rfl, hps, hP4, k4⟩
  have hx4 := k4.at HX3.out (by simp)
  have K4 := K3.trans k4
  have HX4 := hid hx4
  have HPS := hid hps
  have HP4 := hid hP4
  clear RS HX3 hx4 k4 K3 hps hP4
  generalize w3.heap.size = rb at *
  have LG := hid (ledger_any so st nb (some ⟨rb, 0, none⟩) n n a cap rs w4 (by rw [← HN.out]; omega) hnb (RSL.out w4 K4))
  rw [← HN.out] at LG
  go_wp2_with fail
  refine Calls.mono LG.out ?_
  rintro e w5 ⟨L, q, ba, bc, rfl, hL, hQ, hL1, hq1, k5⟩
  have hP5 := HP4.out.kp k5 (by simp) (by simp)
  have led5 : Led w5 L so st nb rs ps := ⟨ba, bc, rb, n, n, q, n, by rw [← HN.out]; exact hL, hP5, by rw [← HN.out]; exact hQ⟩
  have hx5 := k5.at HX4.out (by simp)
  have K5 := K4.trans k5
  have HX5 := hid hx5
  have HP5 := hid hP5
  have LED5 := hid led5
  clear LG HX4 HP4 hx5 k5 K4 hP5 led5 hL hQ hL1 hq1
  have CA := hid (callAnchor_any L so st nb rs ps w5 (by rw [HPS.out, HN.out]) (by rw [← HN.out]; omega) LED5.out)
  obtain ⟨p1, s1, hA⟩ : ∃ p1 s1, anc so st nb rs ps = (p1, s1) := ⟨_, _, rfl⟩
  rw [hA] at CA
  go_wp2_with fail
  refine Calls.mono CA.out ?_
  rintro e w6 ⟨rfl, k6⟩
  have hP6 := HP5.out.kp k6 (by simp) (by simp)
  have led6 := LED5.out.kp k6
  have hx6 := k6.at HX5.out (by simp)
  have K6 := K5.trans k6
  have HX6 := hid hx6
  have HP6 := hid hP6
  have CA := hid (callAnchor_any L so st nb rs ps w6 (by rw [HPS.out, HN.out]) (by rw [← HN.out]; omega) led6)
  rw [hA] at CA
  have HA := hid hA
  clear HX5 HP5 LED5 hx6 k6 K5 hP6 led6 hA
  go_wp2_with fail
  refine Calls.mono CA.out ?_
  rintro e w7 ⟨rfl, k7⟩
  have hP7 := HP6.out.kp k7 (by simp) (by simp)
  have hx7 := k7.at HX6.out (by simp)
  have K7 := K6.trans k7
  have HX7 := hid hx7
  have HP7 := hid hP7
  clear HX6 HP6 hx7 k7 K6 hP7 CA
  go_wp2_with fail
  obtain ⟨i38, hi38, hz38, hs38, hb38⟩ := info_parts info38
  obtain ⟨i45, hi45, hz45, hs45, hb45⟩ := info_parts info45
  go_loopw [17, 18, 19] (fun va vb j wr => ∃ k : Nat, k ≤ n ∧ j = .int .i64 k ∧ wr.ownsRow w7.heap.size 38 3 va k (flat (rs.take k)) ∧ wr.ownsRow w7.heap.size 45 1 vb k (ptrs (ps.take k)) ∧ Kp [] w7 wr) (fun _ _ j _ => n - (intOf j).toNat)
  case atStart =>
    exact ⟨0, Nat.zero_le _, rfl, ⟨rfl, Or.inr ⟨w7.heap.size, n + 1, AA, rfl, Nat.le_refl _, heap_old _ _ (heap_push _ _), by omega, by unfold maxLen; omega, hAs, by simp [flat]⟩⟩,
      ⟨rfl, Or.inr ⟨w7.heap.size + 1, n + 1, BB, rfl, by omega, heap_push2 _ _ _, by omega, by unfold maxLen; omega, hBs, by simp [ptrs]⟩⟩, ((Kp.refl _ _).alloc _).alloc _⟩
  case round =>
    obtain ⟨k, hk, rfl, hoA, hoB, hK⟩ := hrel
    by_cases hlt : k < n
    · obtain ⟨r, hrk⟩ : ∃ r, rs[k]? = some r := ⟨rs[k]'(by rw [← HN.out]; exact hlt), by simp⟩
      obtain ⟨p, hpk⟩ : ∃ p, ps[k]? = some p := ⟨ps[k]'(by rw [HPS.out]; exact hlt), by simp⟩
      obtain ⟨b, o, ha, g0, g1, g2⟩ := RSL.out wr (K7.trans hK) k r hrk
      subst ha
      obtain ⟨cur, hc1, hc2, hc3⟩ := HP7.out
      have hp1 := (hc3 k p hpk).1
      have hrow : ∀ wx, Kp [] w7 wx → wx.cell? ⟨rb, k, none⟩ = some (.pointer (some ⟨p, 0, none⟩)) := fun wx kx => kx.cell (by rw [cell_at hc1]; exact hp1) (by simp)
      have HROW := hid hrow
      have HRK := hid hrk
      have HPK := hid hpk
      have HOA := hid hoA
      have HOB := hid hoB
      clear hc1 hc2 hc3 hp1 hrow hrk hpk hoA hoB
      have hk63 : k + 1 ≤ maxLen := by unfold maxLen; omega
      have hmn : (k : Int) < (n : Int) := by omega
      go_wp2_with (first | (at_builtin; refine wpList_append_own _ rfl (.tmp 89) (.tmp 94) 36 rfl w7.heap.size 38 i38 _ 3 24 Try.underlying36 hi38 hz38 hs38 hb38 rfl (by decide) _ k (flat (rs.take k)) rfl (own_kp HOA.out ((Kp.refl _ _).alloc _)) ⟨wr.heap.size, 0, none⟩ 1 1 _ rfl rfl (news3 _ _ _ _) (one3 _ _ _) hk63 (by omega) (by have := hK.size; simp; omega) ?_; intro va' w8 hoA' hgA _; have hnx := after_all HOA.out HOB.out hK hgA; have HOA2 := hid hoA'; have HOB2 := hid hnx.1; have hK8 := hnx.2; have hrow8 := HROW.out w8 hK8; clear hoA' hgA hnx) | (at_builtin; refine wpList_append_own _ rfl (.tmp 96) (.tmp 101) 41 rfl w7.heap.size 45 i45 _ 1 8 Try.underlying41 hi45 hz45 hs45 hb45 rfl (by decide) _ k (ptrs (ps.take k)) rfl (own_kp HOB2.out ((Kp.refl _ _).alloc _)) ⟨w8.heap.size, 0, none⟩ 1 1 _ rfl rfl (news1 _ _) (one1 _) hk63 (by omega) (by have := hK8.size; simp; omega) ?_; intro vb' w9 hoB' hgB _; have hnx := after_rs HOA2.out HOB2.out hK8 hgB; have HOB3 := hid hoB'; have HOA3 := hid hnx.1; have hK9 := hnx.2; clear hoB' hgB hnx))
      exact ⟨⟨k + 1, by omega, by go_num, by rw [flat_take HRK.out]; exact HOA3.out, by rw [ptrs_take HPK.out]; exact HOB3.out, hK9⟩, by simp [intOf]; omega⟩
    · have hkn : k = n := by omega
      subst hkn
      rw [List.take_of_length_le (by rw [← HN.out]; exact Nat.le_refl _)] at hoA
      rw [List.take_of_length_le (by rw [HPS.out]; exact Nat.le_refl _)] at hoB
      have hx8 := hK.at HX7.out (by simp)
      have x0 : wr.cell? ⟨w.heap.size, 0, none⟩ = some (.bool g) := by rw [cell_at hx8]; rfl
      have x1 : wr.cell? ⟨w.heap.size, 1, none⟩ = some (.int .i64 h) := by rw [cell_at hx8]; rfl
      have HOA := hid hoA
      have HOB := hid hoB
      clear hoA hoB hx8
      go_wp2_with fail
      refine (newResp_any _ _ _ _).mono ?_
      rintro e w8 ⟨rfl, hw8⟩
      have k8 : Kp [] wr w8 := by rw [hw8]; exact (Kp.refl _ _).alloc _
      have hnp : w8.heap[wr.heap.size]? = some (respObj k g h) := by rw [hw8]; exact heap_push _ _
      have K8 := hK.trans k8
      have hoA := own_kp HOA.out k8
      have hoB := own_kp HOB.out k8
      have hx8 := K8.at HX7.out (by simp)
      have x0' : w8.cell? ⟨w.heap.size, 0, none⟩ = some (.bool g) := by rw [cell_at hx8]; rfl
      have x1' : w8.cell? ⟨w.heap.size, 1, none⟩ = some (.int .i64 h) := by rw [cell_at hx8]; rfl
      have x2' : w8.cell? ⟨w.heap.size, 2, none⟩ = some (.int .i64 i) := by rw [cell_at hx8]; rfl
      replace HOA := hid hoA
      replace HOB := hid hoB
      have HNP := hid hnp
      clear hw8 k8 hnp hoA hoB hx8 x0 x1 hK
      generalize wr.heap.size = np at *
      have hk63 : k + 1 ≤ maxLen := by unfold maxLen; omega
      go_wp2_with (first | (at_builtin; refine wpList_append_own _ rfl (.tmp 110) (.tmp 112) 36 rfl w7.heap.size 38 i38 _ 3 24 Try.underlying36 hi38 hz38 hs38 hb38 rfl (by decide) _ k (flat rs) rfl (own_kp HOA.out ((Kp.refl _ _).alloc _)) ⟨w8.heap.size, 0, none⟩ 1 1 _ rfl rfl (news3 _ _ _ _) (one3 _ _ _) hk63 (by omega) (by have := K8.size; simp; omega) ?_; intro va' w9 hoA' hgA _; have hnx := after_all HOA.out HOB.out K8 hgA; have HOA2 := hid hoA'; have HOB2 := hid hnx.1; have hK9 := hnx.2; have hnp9 := hid (resp_keep (own_kp HOA.out ((Kp.refl _ _).alloc _)) (heap_old _ _ HNP.out) (by decide) hgA); clear hoA' hgA hnx) | (at_builtin; refine wpList_append_own _ rfl (.tmp 114) (.tmp 116) 41 rfl w7.heap.size 45 i45 _ 1 8 Try.underlying41 hi45 hz45 hs45 hb45 rfl (by decide) _ k (ptrs ps) rfl (own_kp HOB2.out ((Kp.refl _ _).alloc _)) ⟨w9.heap.size, 0, none⟩ 1 1 _ rfl rfl (news1 _ _) (one1 _) hk63 (by omega) (by have := hK9.size; simp; omega) ?_; intro vb' w10 hoB' hgB _; have hnx := after_rs HOA2.out HOB2.out hK9 hgB; have HOB3 := hid hoB'; have HOA3 := hid hnx.1; have hK10 := hnx.2; have hnp10 := hid (resp_keep (own_kp HOB2.out ((Kp.refl _ _).alloc _)) (heap_old _ _ hnp9.out) (by decide) hgB); clear hoB' hgB hnx) | fail)
      have hlen : (rs ++ [x]).length = k + 1 := by simp [← HN.out]
      have hplen : (ps ++ [np]).length = k + 1 := by simp [HPS.out]
      have hoA : w10.ownsRow w7.heap.size 38 3 va' (rs ++ [x]).length (flat (rs ++ [x])) := by
        rw [hlen, flat_append, HX.out]; exact HOA3.out
      have hoB : w10.ownsRow w7.heap.size 45 1 vb' (ps ++ [np]).length (ptrs (ps ++ [np])) := by
        rw [hplen]; have := HOB3.out; simpa [ptrs] using this
      obtain ⟨a', c', hva, hrsl⟩ := own_rsl hoA
      have hresp : ∀ j p, (ps ++ [np])[j]? = some p → ∃ r, (rs ++ [x])[j]? = some r ∧ w10.heap[p]? = some (respObj j r.g r.h) := by
        intro j p hj
        by_cases e : j < k
        · rw [List.getElem?_append_left (by rw [HPS.out]; exact e)] at hj
          obtain ⟨cur, hc1, hc2, hc3⟩ := HP7.out
          obtain ⟨_, r, hr, hb⟩ := hc3 j p hj
          exact ⟨r, by rw [List.getElem?_append_left (by rw [← HN.out]; exact e)]; exact hr, hK10.at hb (by simp)⟩
        · have e2 : j = k := by
            have := (List.getElem?_eq_some_iff.1 hj).1
            omega
          subst e2
          rw [List.getElem?_append_right (by rw [HPS.out]; exact Nat.le_refl _), HPS.out] at hj
          simp at hj
          subst hj
          refine ⟨x, ?_, ?_⟩
          · rw [List.getElem?_append_right (by rw [← HN.out]; exact Nat.le_refl _), ← HN.out]; simp
          · rw [HX.out]; exact hnp10.out
      obtain ⟨gg, cc, hvb, hptrs⟩ := own_ptrs (by rw [hplen, hlen]) (by omega) hoB hresp
      rw [hlen] at hva hvb
      subst hva hvb
      have LG := ledger_any so st nb (some ⟨gg, 0, none⟩) (k + 1) cc a' c' (rs ++ [x]) w10 (by omega) hnb hrsl
      rw [hlen] at LG
      have LG := hid LG
      have HPT := hid hptrs
      have HLEN := hid hlen
      have HPLEN := hid hplen
      clear hoA hoB hresp hrsl hptrs hlen hplen HOA HOB HOA2 HOB2 HOA3 HOB3 hnp9 hnp10 HNP
      refine Calls.mono LG.out ?_
      rintro e w11 ⟨L2, q2', ba2, bc2, rfl, hL, hQ, hL1, hq1, k11⟩
      have hP11 := HPT.out.kp k11 (by simp) (by simp)
      have led : Led w11 L2 so st nb (rs ++ [x]) (ps ++ [np]) := ⟨ba2, bc2, gg, cc, cc, q2', k + 1, by rw [HLEN.out]; exact hL, hP11, by rw [HLEN.out]; exact hQ⟩
      have K11 := (K7.trans hK10).trans k11
      have hx11 := k11.at (hK10.at HX7.out (by simp)) (by simp)
      have CA := hid (callAnchor_any L2 so st nb (rs ++ [x]) (ps ++ [np]) w11 (by rw [HPLEN.out, HLEN.out]) (by rw [HLEN.out]; omega) led)
      obtain ⟨p3, s3, hA3⟩ : ∃ p3 s3, anc so st nb (rs ++ [x]) (ps ++ [np]) = (p3, s3) := ⟨_, _, rfl⟩
      rw [hA3] at CA
      have HA3 := hid hA3
      have HX11 := hid hx11
      clear LG hL hQ hL1 hq1 hP11 led k11 hx11 hA3
      go_wp2_with fail
      refine Calls.mono CA.out ?_
      rintro e w12 ⟨rfl, k12⟩
      have hx12 := k12.at HX11.out (by simp)
      have K12 := K11.trans k12
      have KB := K12.below w.heap.size (Nat.le_refl _) (by simp)
      have y0 : w12.cell? ⟨w.heap.size, 0, none⟩ = some (.bool g) := by rw [cell_at hx12]; rfl
      have y1 : w12.cell? ⟨w.heap.size, 1, none⟩ = some (.int .i64 h) := by rw [cell_at hx12]; rfl
      have y2 : w12.cell? ⟨w.heap.size, 2, none⟩ = some (.int .i64 i) := by rw [cell_at hx12]; rfl
      have hxi : x.i = i := by rw [HX.out]
      have hxh : x.h = h := by rw [HX.out]
      have hxg : x.g = g := by rw [HX.out]
      have hAn := HA.out
      have hA3 := HA3.out
      have hps := HPS.out
      have hns := HN.out
      clear hx12 K12 k12 HX11 CA K11 HA HA3 HX HN HPS HPT HLEN HPLEN HX7 HP7 hAs hBs RSL HR hmkA hmkB
      by_cases hih : i = h
      · subst hih
        have hne : (i != i) = false := by simp
        cases so
        · cases st
          · have e3 := anc_new nb rs ps x np (by rw [hps, hns]) (by rw [hxi, hxh])
            rw [e3] at hA3
            obtain ⟨rfl, rfl⟩ := Prod.mk.inj hA3
            clear hA3 e3 hAn
            obtain ⟨yy, hyy⟩ : ∃ yy, yy = why nb x := ⟨_, rfl⟩
            have hwy : yy = if g then sGone else if i = (nb : Int) then sNothing else sChained := by rw [hyy]; unfold why; rw [hxg, hxh]
            rw [← hyy]
            clear hyy hxi hxh hxg hps hns
            cases g
            · by_cases hq : i = (nb : Int)
              · subst hq
                rw [if_neg (by simp), if_pos rfl] at hwy
                subst hwy
                have hq : ((nb : Int) == (nb : Int)) = true := by simp
                unfold sNothing
                go_wp2_with fail
                go_ret
                exact ⟨rfl, KB⟩
              · rw [if_neg (by simp), if_neg hq] at hwy
                subst hwy
                have hq' : (i == (nb : Int)) = false := by simp [hq]
                clear hq
                unfold sChained
                go_wp2_with fail
                go_ret
                exact ⟨rfl, KB⟩
            · rw [if_pos rfl] at hwy
              subst hwy
              unfold sGone
              go_wp2_with fail
              go_ret
              exact ⟨rfl, KB⟩
          · have e3 : anc false true nb (rs ++ [x]) (ps ++ [np]) = (none, sStateless) := rfl
            rw [e3] at hA3
            obtain ⟨rfl, rfl⟩ := Prod.mk.inj hA3
            clear hA3 e3 hAn hxi hxh hxg hps hns
            unfold sStateless
            go_wp2_with fail
            go_ret
            exact ⟨rfl, KB⟩
        · have e3 : anc true st nb (rs ++ [x]) (ps ++ [np]) = (none, sStoreOff) := rfl
          rw [e3] at hA3
          obtain ⟨rfl, rfl⟩ := Prod.mk.inj hA3
          clear hA3 e3 hAn hxi hxh hxg hps hns
          unfold sStoreOff
          go_wp2_with fail
          go_ret
          exact ⟨rfl, KB⟩
      · have hne : (i != h) = true := by simp [hih]
        have hxx : x.i ≠ x.h := by rw [hxi, hxh]; exact hih
        by_cases h0 : so = false ∧ st = false ∧ k = 0
        · obtain ⟨rfl, rfl, hk0⟩ := h0
          have e3 := anc_first nb rs ps x np (by rw [← hns]; exact hk0) hxx
          rw [e3] at hA3
          obtain ⟨rfl, rfl⟩ := Prod.mk.inj hA3
          have hkz : ((k : Int) == 0) = true := by simp [hk0]
          clear hA3 e3 hAn hxi hxh hxg hps hns hxx hih hk0
          unfold sPrefix
          go_wp2_with fail
          go_ret
          exact ⟨rfl, KB⟩
        · have e3 := anc_keeps so st nb rs ps x np (by rw [hps, hns]) hxx (fun e1 e2 e3 => h0 ⟨e1, e2, by rw [hns]; exact e3⟩)
          rw [e3, hAn] at hA3
          obtain ⟨rfl, rfl⟩ := Prod.mk.inj hA3
          clear hA3 e3 hAn hxi hxh hxg hps hns hxx hih
          cases so
          · cases st
            · have hkz : ((k : Int) == 0) = false := by
                have : ¬ k = 0 := fun e => h0 ⟨rfl, rfl, e⟩
                simp; omega
              clear h0
              go_wp2_with fail
              go_ret
              exact ⟨rfl, KB⟩
            · clear h0
              go_wp2_with fail
              go_ret
              exact ⟨rfl, KB⟩
          · clear h0
            go_wp2_with fail
            go_ret
            exact ⟨rfl, KB⟩

end Go.Proofs.Qxb6613301a
