/-
  zzAnchorLedger: a ledger with its reaches laid.
-/
import Derived.Test.Qxb6613301aAr
set_option linter.unusedVariables false
set_option linter.unusedSimpArgs false
namespace Go.Proofs.Qxb6613301a
open Go.RowKit

theorem run_make_any (t e : TypeId) (z : Value) (size bytes : Nat) (ht : Try.prog.underlying t = some (.slice e)) (hinfo : (Try.prog.info? e).map (fun i => (i.zero, i.size, i.bytes)) = some (some z, size, bytes))
    (n : Nat) (hbytes : bytes * n ≤ 281474976710656) (h63 : n ≤ 9223372036854775807) (w : World) :
    (Instr.makeSlice t (.int .i64 (n : Int)) (.int .i64 (n : Int))).run Try.prog w = .ok (.slice (some ⟨w.heap.size, 0, none⟩) n n) (w.alloc (.cells (madeCells z.cells (n * size)) e)) := by
  obtain ⟨i, hi, hzz⟩ := Option.map_eq_some_iff.1 hinfo
  simp only [Prod.mk.injEq] at hzz
  obtain ⟨hz, hs, hb⟩ := hzz
  have hb' : (i.bytes : Int) * (n : Int) ≤ 281474976710656 := by
    have h : ((i.bytes * n : Nat) : Int) ≤ 281474976710656 := by rw [hb]; omega
    rwa [Int.natCast_mul] at h
  have hr := run_make (P := Try.prog) w t e i z ht hi hz .i64 .i64 n n (by omega) (Int.le_refl _) hb' (by omega)
  simp only [Int.toNat_natCast, hs] at hr
  exact hr

theorem info65 : (Try.prog.info? 65).map (fun i => (i.zero, i.size, i.bytes)) = some (some (.agg #[.int .i64 0, .int .i64 0]), 2, 16) := by kernel_rfl
theorem info92 : (Try.prog.info? 92).map (fun i => (i.zero, i.size, i.bytes)) = some (some (.agg #[.string ⟨#[]⟩, .slice none 0 0, .pointer none, .string ⟨#[]⟩, .string ⟨#[]⟩, .string ⟨#[]⟩, .string ⟨#[]⟩, .string ⟨#[]⟩, .bool false]), 9, 136) := by kernel_rfl

theorem heap_push2 (w : World) (a b : Obj) : ((w.alloc a).alloc b).heap[w.heap.size + 1]? = some b := by
  have := heap_push (w.alloc a) b
  rw [show (w.alloc a).heap.size = w.heap.size + 1 from by simp] at this
  exact this
/-- The reaches' row: the first m elements are laid. -/
def Rch (w : World) (q : Nat) (n : Nat) (rs : List R) (m : Nat) : Prop :=
  ∃ cur : Array Value, w.heap[q]? = some (.cells cur 65 (0, 0)) ∧ cur.size = n * 2 ∧ ∀ k r, k < m → rs[k]? = some r → cur[k * 2]? = some (.int .i64 r.i) ∧ cur[k * 2 + 1]? = some (.int .i64 r.h)

theorem Rch.kp {X : List Nat} {w w' : World} {q n : Nat} {rs : List R} {m : Nat} (h : Rch w q n rs m) (k : Kp X w w') (hq : q ∉ X) : Rch w' q n rs m := by
  obtain ⟨cur, h1, h2⟩ := h
  exact ⟨cur, k.at h1 hq, h2⟩

theorem Rch.push {w : World} {q n : Nat} {rs : List R} {m : Nat} {r : R} (h : Rch w q n rs m) (hm : m < n) (hr : rs[m]? = some r) (o : Obj) :
    Rch (((w.setCell ⟨q, m * 2, none⟩ (.int .i64 r.i)).setCell ⟨q, m * 2 + 1, none⟩ (.int .i64 r.h)).alloc o) q n rs (m + 1) := by
  obtain ⟨cur, h1, h2, h3⟩ := h
  refine ⟨_, heap_old _ _ (heap_setCell_at (heap_setCell_at h1 _ _) _ _), by simpa using h2, fun k r' hk hr' => ?_⟩
  by_cases e : k < m
  · obtain ⟨a, b⟩ := h3 k r' e hr'
    refine ⟨?_, ?_⟩
    · rw [Array.getElem?_setIfInBounds_ne (by omega), Array.getElem?_setIfInBounds_ne (by omega)]; exact a
    · rw [Array.getElem?_setIfInBounds_ne (by omega), Array.getElem?_setIfInBounds_ne (by omega)]; exact b
  · have e2 : k = m := by omega
    subst e2
    rw [hr] at hr'
    cases hr'
    refine ⟨?_, ?_⟩
    · rw [Array.getElem?_setIfInBounds_ne (by omega), Array.getElem?_setIfInBounds_self_of_lt (by omega)]
    · rw [Array.getElem?_setIfInBounds_self_of_lt (by simp; omega)]

set_option maxRecDepth 100000 in
set_option maxHeartbeats 1000000 in
theorem ledger_any (so st : Bool) (nb : Nat) (ra : Option Addr) (rn rc : Nat) (a : Option Addr) (cap : Nat) (rs : List R) (w : World) (hl : rs.length ≤ 4097) (hnb : nb ≤ 4096) (hr : RSl w a rs) :
    Calls Try.prog 24 #[.bool so, .bool st, .int .i64 (nb : Int), .slice ra rn rc, .slice a rs.length cap] w fun e w' =>
      ∃ L q ba bc, e = .returned (.pointer (some ⟨L, 0, none⟩)) ∧ w'.heap[L]? = some (ledObj so st ba nb bc ra rn rc (some ⟨q, 0, none⟩) rs.length rs.length) ∧ Rch w' q rs.length rs rs.length ∧ w.heap.size ≤ L ∧ w.heap.size ≤ q ∧ Kp [] w w' := by
  have HR := hid hr
  clear hr
  obtain ⟨n, hn⟩ : ∃ n, n = rs.length := ⟨_, rfl⟩
  rw [← hn] at hl ⊢
  have HN := hid hn
  clear hn
  have hmk1 := run_make_any 58 92 _ 9 136 Try.underlying58 info92 nb (by omega) (by omega)
  have hmk2 := run_make_any 63 65 _ 2 16 Try.underlying63 info65 n (by omega) (by omega)
  generalize madeCells _ (nb * 9) = BB at hmk1
  obtain ⟨QQ, hQ⟩ : ∃ QQ, QQ = madeCells (Value.agg #[.int .i64 0, .int .i64 0]).cells (n * 2) := ⟨_, rfl⟩
  have hQs : QQ.size = n * 2 := by rw [hQ, size_madeCells]
  rw [← hQ] at hmk2
  clear hQ
  go_enter Try.func24, Try.ntmps24
  go_wp2
  go_loopw [13] (fun i wr => ∃ k : Nat, k ≤ n ∧ i = .int .i64 k ∧ Rch wr (w.heap.size + 1) n rs k ∧ Kp [] w wr) (fun i _ => n - (intOf i).toNat)
  case atStart => exact ⟨0, Nat.zero_le _, rfl, ⟨_, heap_push2 _ _ _, hQs, by simp⟩, ((Kp.refl _ _).alloc _).alloc _⟩
  case round =>
    obtain ⟨k, hk, rfl, hP, hK⟩ := hrel
    by_cases hlt : k < n
    · obtain ⟨r, hrk⟩ : ∃ r, rs[k]? = some r := ⟨rs[k]'(by rw [← HN.out]; exact hlt), by simp⟩
      obtain ⟨b, o, ha, g0, g1, g2⟩ := HR.out k r hrk
      subst ha
      have hb : b < w.heap.size := lt_of_cell g0
      have g1 := hK.cell g1 (by simp)
      have g2 := hK.cell g2 (by simp)
      have HP := hid hP
      have HRK := hid hrk
      obtain ⟨cur, hc1, hc2, hc3⟩ := hP
      have lrb := lt_of_at hc1
      have lrb1 : w.heap.size + 1 < wr.heap.size + 1 := by omega
      have hb2 : b < wr.heap.size := by omega
      have hb3 : b < wr.heap.size + 1 := by omega
      obtain ⟨v0, hv0⟩ : ∃ v, cur[k * 2]? = some v := ⟨cur[k * 2]'(by omega), by simp⟩
      obtain ⟨v1, hv1⟩ : ∃ v, cur[k * 2 + 1]? = some v := ⟨cur[k * 2 + 1]'(by omega), by simp⟩
      have c0 : wr.cell? ⟨w.heap.size + 1, k * 2, none⟩ = some v0 := by rw [cell_at hc1]; exact hv0
      have c1 : wr.cell? ⟨w.heap.size + 1, k * 2 + 1, none⟩ = some v1 := by rw [cell_at hc1]; exact hv1
      have f0 := frozen_at hc1 (k * 2)
      have f1 := frozen_at hc1 (k * 2 + 1)
      clear hc1 hc2 hc3 hv0 hv1 hrk g0
      go_wp2
      go_region_with (go_at_call 33; refine (newReach_any _ _ _).mono ?_; rintro e w1 ⟨rfl, rfl⟩)
      all_goals
        go_wp2
        exact ⟨⟨k + 1, by omega, by go_num, HP.out.push hlt HRK.out _, (((hK.setCell (Or.inr (by simp)) _).setCell (Or.inr (by simp)) _).alloc _).drew⟩, by simp [intOf]; omega⟩
    · go_wp2_with fail
      refine (newLedger_any so st _ _ _ _ _ _ _ _ _ _).mono ?_
      rintro e w1 ⟨rfl, hw1⟩
      go_wp2_with fail
      go_ret
      have hkk : k = n := by omega
      subst hkk
      exact ⟨wr.heap.size, w.heap.size + 1, _, _, rfl, heap_push _ _, hP.kp ((Kp.refl [] _).alloc _) (by simp), hK.size, by omega, hK.alloc _⟩

end Go.Proofs.Qxb6613301a
