/-
  zzAnchorResponses: a row of pointers to new responses.
-/
import Derived.Test.Qxb6613301aAn
import Derived.Deep.OwnRows
set_option linter.unusedVariables false
set_option linter.unusedSimpArgs false
namespace Go.Proofs.Qxb6613301a
open Go.RowKit

def respObj (k : Nat) (g : Bool) (h : Int) : Obj := .cells #[.string ⟨#[]⟩, .int .i64 (k : Int), .pointer none, .int .i64 0, .pointer none, .slice none 0 0, .int .i64 h, .bool g] 72 (0, 0)

/-- The responses that the first m pointers of the row lead to. -/
def Ptrs (w : World) (rb : Nat) (cap : Nat) (rs : List R) (ps : List Nat) : Prop :=
  ∃ cur : Array Value, w.heap[rb]? = some (.cells cur 45 (0, 0)) ∧ cur.size = cap ∧ ∀ k p, ps[k]? = some p → cur[k]? = some (.pointer (some ⟨p, 0, none⟩)) ∧ ∃ r, rs[k]? = some r ∧ w.heap[p]? = some (respObj k r.g r.h)

theorem info45 : (Try.prog.info? 45).map (fun i => (i.zero, i.size, i.bytes)) = some (some (.pointer none), 1, 8) := by kernel_rfl

theorem Ptrs.kp {X : List Nat} {w w' : World} {rb cap : Nat} {rs : List R} {ps : List Nat} (h : Ptrs w rb cap rs ps) (k : Kp X w w') (hr : rb ∉ X) (hp : ∀ p ∈ ps, p ∉ X) : Ptrs w' rb cap rs ps := by
  obtain ⟨cur, h1, h2, h3⟩ := h
  refine ⟨cur, k.at h1 hr, h2, fun j p hj => ?_⟩
  obtain ⟨a, r, b, c⟩ := h3 j p hj
  exact ⟨a, r, b, k.at c (hp p (List.mem_of_getElem? hj))⟩
theorem Ptrs.lt {w : World} {rb cap : Nat} {rs : List R} {ps : List Nat} (h : Ptrs w rb cap rs ps) : ∀ p ∈ ps, p < w.heap.size := by
  obtain ⟨cur, h1, h2, h3⟩ := h
  intro p hp
  obtain ⟨k, hk⟩ := List.getElem?_of_mem hp
  obtain ⟨_, r, _, c⟩ := h3 k p hk
  exact lt_of_at c
theorem Ptrs.ne {w : World} {rb cap : Nat} {rs : List R} {ps : List Nat} (h : Ptrs w rb cap rs ps) : ∀ p ∈ ps, p ≠ rb := by
  obtain ⟨cur, h1, h2, h3⟩ := h
  intro p hp
  obtain ⟨k, hk⟩ := List.getElem?_of_mem hp
  obtain ⟨_, r, _, c⟩ := h3 k p hk
  rintro rfl
  rw [h1] at c
  simp [respObj] at c

theorem heap_push_set (w : World) (p : Addr) (u : Value) (o : Obj) : ((w.setCell p u).alloc o).heap[w.heap.size]? = some o := by
  have := heap_push (w.setCell p u) o
  rw [show (w.setCell p u).heap.size = w.heap.size from by simp [World.setCell]] at this
  exact this
/-- One response more. -/
theorem Ptrs.push {w : World} {rb cap : Nat} {rs : List R} {ps : List Nat} {r : R} (h : Ptrs w rb cap rs ps) (hl : ps.length < cap) (hr : rs[ps.length]? = some r) :
    Ptrs ((w.setCell ⟨rb, ps.length, none⟩ (.pointer (some ⟨w.heap.size, 0, none⟩))).alloc (respObj ps.length r.g r.h)) rb cap rs (ps ++ [w.heap.size]) := by
  have hne := h.ne
  have hlt := h.lt
  obtain ⟨cur, h1, h2, h3⟩ := h
  refine ⟨_, heap_old _ _ (heap_setCell_at h1 _ _), by simpa using h2, fun k p hk => ?_⟩
  by_cases e : k < ps.length
  · rw [List.getElem?_append_left e] at hk
    obtain ⟨a, r', b, c⟩ := h3 k p hk
    refine ⟨?_, r', b, heap_old _ _ (at_setCell c _ _ (hne p (List.mem_of_getElem? hk)))⟩
    rw [Array.getElem?_setIfInBounds_ne (by omega)]
    exact a
  · have e2 : k = ps.length := by
      have := (List.getElem?_eq_some_iff.1 hk).1
      simp at this
      omega
    subst e2
    simp at hk
    subst hk
    refine ⟨?_, r, hr, heap_push_set _ _ _ _⟩
    rw [Array.getElem?_setIfInBounds_self_of_lt (by omega)]

set_option maxRecDepth 100000 in
set_option maxHeartbeats 1000000 in
theorem responses_any (a : Option Addr) (cap : Nat) (rs : List R) (w : World) (hl : rs.length ≤ 4096) (hr : RSl w a rs) :
    Calls Try.prog 23 #[.slice a rs.length cap] w fun e w' => ∃ ps : List Nat, e = .returned (.slice (some ⟨w.heap.size, 0, none⟩) rs.length rs.length) ∧ ps.length = rs.length ∧ Ptrs w' w.heap.size rs.length rs ps ∧ Kp [] w w' := by
  have HR := hid hr
  clear hr
  obtain ⟨n, hn⟩ : ∃ n, n = rs.length := ⟨_, rfl⟩
  rw [← hn] at hl ⊢
  have HN := hid hn
  clear hn
  have hmk := run_make_row' (P := Try.prog) 41 45 (.pointer none) 8 Try.underlying41 info45 rfl .i64 .i64 n (by omega) (by omega)
  go_enter Try.func23, Try.ntmps23
  go_wp2
  go_loopw [4] (fun i wr => ∃ k : Nat, k ≤ n ∧ i = .int .i64 k ∧ ∃ ps : List Nat, ps.length = k ∧ Ptrs wr w.heap.size n rs ps ∧ Kp [] w wr) (fun i _ => n - (intOf i).toNat)
  case atStart => exact ⟨0, Nat.zero_le _, rfl, [], rfl, ⟨_, heap_push _ _, by simp [size_madeCells], by simp⟩, (Kp.refl _ _).alloc _⟩
  case round =>
    obtain ⟨k, hk, rfl, ps, hps, hP, hK⟩ := hrel
    subst hps
    by_cases hlt : ps.length < n
    · obtain ⟨r, hrk⟩ : ∃ r, rs[ps.length]? = some r := ⟨rs[ps.length]'(by rw [← HN.out]; exact hlt), by simp⟩
      obtain ⟨b, o, ha, g0, g1, g2⟩ := HR.out ps.length r hrk
      subst ha
      have hb : b < w.heap.size := lt_of_cell g0
      have g0 := hK.cell g0 (by simp)
      have g1 := hK.cell g1 (by simp)
      have HP := hid hP
      have HRK := hid hrk
      obtain ⟨cur, hc1, hc2, hc3⟩ := hP
      have lrb := lt_of_at hc1
      have lrb1 : w.heap.size < wr.heap.size + 1 := by omega
      have hb2 : b < wr.heap.size := by omega
      obtain ⟨v0, hv0⟩ : ∃ v, cur[ps.length]? = some v := ⟨cur[ps.length]'(by omega), by simp⟩
      have c0 : wr.cell? ⟨w.heap.size, ps.length, none⟩ = some v0 := by rw [cell_at hc1]; exact hv0
      have f0 := frozen_at hc1 ps.length
      clear hc1 hc2 hc3 hv0 hrk g2
      go_wp2
      go_region_with (go_at_call 26; refine (newResp_any _ _ _ _).mono ?_; rintro e w1 ⟨rfl, rfl⟩)
      all_goals
        go_wp2
        exact ⟨⟨ps.length + 1, by omega, by go_num, ps ++ [wr.heap.size], by simp, HP.out.push hlt HRK.out, ((hK.setCell (Or.inr (Nat.le_refl _)) _).alloc _).drew⟩, by simp [intOf]; omega⟩
    · go_wp2
      go_ret
      exact ⟨ps, rfl, by omega, hP, hK⟩

end Go.Proofs.Qxb6613301a
