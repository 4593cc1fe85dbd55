/-
  locationsOf and zzACPLocs, walked.
-/
import Derived.Test.Qxb6613960aTc
set_option linter.unusedVariables false
set_option linter.unusedSimpArgs false
namespace Go.Proofs.Qxb6613960a
open Go.RowKit

structure Lc where
  path : ByteArray
  line : Option Addr

/-- A row of locations at block q: the first m are laid. -/
def LRow (w : World) (t : TypeId) (q n : Nat) (ls : List Lc) (m : Nat) : Prop :=
  ∃ cur : Array Value, w.heap[q]? = some (.cells cur t (0, 0)) ∧ cur.size = n * 2 ∧ ∀ k l, k < m → ls[k]? = some l → cur[k * 2]? = some (.string l.path) ∧ cur[k * 2 + 1]? = some (.pointer l.line)

theorem LRow.kp {X : List Nat} {w w' : World} {t q n : Nat} {ls : List Lc} {m : Nat} (h : LRow w t q n ls m) (k : Kp X w w') (hq : q ∉ X) : LRow w' t q n ls m := by
  obtain ⟨cur, h1, h2⟩ := h
  exact ⟨cur, k.at h1 hq, h2⟩

theorem LRow.push {w : World} {t q n : Nat} {ls : List Lc} {m : Nat} {l : Lc} (h : LRow w t q n ls m) (hm : m < n) (hr : ls[m]? = some l) :
    LRow ((w.setCell ⟨q, m * 2, none⟩ (.string l.path)).setCell ⟨q, m * 2 + 1, none⟩ (.pointer l.line)) t q n ls (m + 1) := by
  obtain ⟨cur, h1, h2, h3⟩ := h
  refine ⟨_, heap_setCell_at (heap_setCell_at h1 _ _) _ _, by simpa using h2, fun k r' hk hr' => ?_⟩
  by_cases e : k < m
  · obtain ⟨a, b⟩ := h3 k r' e hr'
    refine ⟨?_, ?_⟩
    · rw [Array.getElem?_setIfInBounds_ne (by omega), Array.getElem?_setIfInBounds_ne (by omega)]; exact a
    · rw [Array.getElem?_setIfInBounds_ne (by omega), Array.getElem?_setIfInBounds_ne (by omega)]; exact b
  · have e2 : k = m := by omega
    subst e2
    rw [hr] at hr'
    cases hr'
    refine ⟨?_, ?_⟩
    · rw [Array.getElem?_setIfInBounds_ne (by omega), Array.getElem?_setIfInBounds_self_of_lt (by omega)]
    · rw [Array.getElem?_setIfInBounds_self_of_lt (by simp; omega)]

theorem run_make_any (t e : TypeId) (z : Value) (size bytes : Nat) (ht : Try.prog.underlying t = some (.slice e)) (hinfo : (Try.prog.info? e).map (fun i => (i.zero, i.size, i.bytes)) = some (some z, size, bytes))
    (n : Nat) (hbytes : bytes * n ≤ 281474976710656) (h63 : n ≤ 9223372036854775807) (w : World) :
    (Instr.makeSlice t (.int .i64 (n : Int)) (.int .i64 (n : Int))).run Try.prog w = .ok (.slice (some ⟨w.heap.size, 0, none⟩) n n) (w.alloc (.cells (madeCells z.cells (n * size)) e)) := by
  obtain ⟨i, hi, hzz⟩ := Option.map_eq_some_iff.1 hinfo
  simp only [Prod.mk.injEq] at hzz
  obtain ⟨hz, hs, hb⟩ := hzz
  have hb' : (i.bytes : Int) * (n : Int) ≤ 281474976710656 := by
    have h : ((i.bytes * n : Nat) : Int) ≤ 281474976710656 := by rw [hb]; omega
    rwa [Int.natCast_mul] at h
  have hr := run_make (P := Try.prog) w t e i z ht hi hz .i64 .i64 n n (by omega) (Int.le_refl _) hb' (by omega)
  simp only [Int.toNat_natCast, hs] at hr
  exact hr

theorem info51 : (Try.prog.info? 51).map (fun i => (i.zero, i.size, i.bytes)) = some (some (.agg #[.string ⟨#[]⟩, .pointer none]), 2, 24) := by kernel_rfl
theorem info110 : (Try.prog.info? 110).map (fun i => (i.zero, i.size, i.bytes)) = some (some (.agg #[.string ⟨#[]⟩, .pointer none]), 2, 24) := by kernel_rfl

theorem locationsOf_nil (w : World) : Calls Try.prog 30 #[.slice none 0 0] w fun e w' => e = .returned (.slice none 0 0) ∧ w' = w := by
  have heq := fun wx a n c n' c' => Lib.run_eql_slice_nil (P := Try.prog) wx 43 110 a n c n' c' Try.underlying43
  go_enter Try.func30, Try.ntmps30
  go_wp2
  go_ret
  exact ⟨rfl, rfl⟩

set_option maxRecDepth 100000 in
set_option maxHeartbeats 1000000 in
theorem locationsOf_any (ls : List Lc) (q cap : Nat) (w : World) (hl : ls.length ≤ 65537) (hA : LRow w 110 q ls.length ls ls.length) :
    Calls Try.prog 30 #[.slice (some ⟨q, 0, none⟩) ls.length cap] w fun e w' => ∃ g, e = .returned (.slice (some ⟨g, 0, none⟩) ls.length ls.length) ∧ LRow w' 51 g ls.length ls ls.length ∧ w.heap.size ≤ g ∧ Kp [] w w' := by
  obtain ⟨n, hn⟩ : ∃ n, n = ls.length := ⟨_, rfl⟩
  rw [← hn] at hl hA ⊢
  have HN := hid hn
  have HA := hid hA
  have hqw : q < w.heap.size := lt_of_at hA.choose_spec.1
  clear hn hA
  have heq := fun wx a n c n' c' => Lib.run_eql_slice_nil (P := Try.prog) wx 43 110 a n c n' c' Try.underlying43
  have hmk := run_make_any 33 51 _ 2 24 Try.underlying33 info51 n (by omega) (by omega)
  obtain ⟨AA, hAA⟩ : ∃ AA, AA = madeCells (Value.agg #[.string ⟨#[]⟩, .pointer none]).cells (n * 2) := ⟨_, rfl⟩
  have hAs : AA.size = n * 2 := by rw [hAA, size_madeCells]
  rw [← hAA] at hmk
  clear hAA
  go_enter Try.func30, Try.ntmps30
  go_wp2_with fail
  go_loopw [13] (fun i wr => ∃ k : Nat, k ≤ n ∧ i = .int .i64 k ∧ LRow wr 51 w.heap.size n ls k ∧ Kp [] w wr) (fun i _ => n - (intOf i).toNat)
  case atStart => exact ⟨0, Nat.zero_le _, rfl, ⟨AA, heap_push _ _, hAs, fun k l hk => by omega⟩, (Kp.refl _ _).alloc _⟩
  case round =>
    obtain ⟨k, hk, rfl, hrow, hK⟩ := hrel
    by_cases hlt : k < n
    · obtain ⟨l, hlk⟩ : ∃ l, ls[k]? = some l := ⟨ls[k]'(by rw [← HN.out]; exact hlt), by simp⟩
      have hq' := HA.out.kp hK (by simp)
      obtain ⟨cu, hu1, hu2, hu3⟩ := hq'
      obtain ⟨hu4, hu5⟩ := hu3 k l hlt hlk
      have c0 : wr.cell? ⟨q, k * 2, none⟩ = some (.string l.path) := by rw [cell_at hu1]; exact hu4
      have c1 : wr.cell? ⟨q, k * 2 + 1, none⟩ = some (.pointer l.line) := by rw [cell_at hu1]; exact hu5
      have HROW := hid hrow
      have HLK := hid hlk
      obtain ⟨cur, h1, h2, h3⟩ := hrow
      obtain ⟨v0, hv0⟩ : ∃ v, cur[k * 2]? = some v := ⟨cur[k * 2]'(by omega), by simp⟩
      obtain ⟨v1, hv1⟩ : ∃ v, cur[k * 2 + 1]? = some v := ⟨cur[k * 2 + 1]'(by omega), by simp⟩
      have d0 : wr.cell? ⟨w.heap.size, k * 2, none⟩ = some v0 := by rw [cell_at h1]; exact hv0
      have d1 : wr.cell? ⟨w.heap.size, k * 2 + 1, none⟩ = some v1 := by rw [cell_at h1]; exact hv1
      have f0 := frozen_at h1 (k * 2)
      have f1 := frozen_at h1 (k * 2 + 1)
      have hlw := lt_of_at h1
      have hlq := lt_of_at hu1
      obtain ⟨path, line⟩ := l
      dsimp only at c0 c1
      clear hu1 hu2 hu3 hu4 hu5 h1 h2 h3 hv0 hv1 hlk
      go_wp2_with fail
      exact ⟨⟨k + 1, by omega, by go_num, (HROW.out.push hlt HLK.out).kp ((Kp.refl [] _).alloc _) (by simp), ((hK.setCell (p := ⟨w.heap.size, k * 2, none⟩) (Or.inr (Nat.le_refl _)) _).setCell (p := ⟨w.heap.size, k * 2 + 1, none⟩) (Or.inr (Nat.le_refl _)) _).alloc _⟩, by simp [intOf]; omega⟩
    · have hkn : n = k := by omega
      subst hkn
      go_wp2_with fail
      go_ret
      exact ⟨w.heap.size, rfl, hrow, Nat.le_refl _, hK⟩

/-- The cells of a slice of ZLoc. -/
def LSl (w : World) (a : Option Addr) (ls : List Lc) : Prop :=
  ∀ (k : Nat) (l : Lc), ls[k]? = some l → ∃ b o, a = some ⟨b, o, none⟩ ∧ w.cell? ⟨b, o + k * 2, none⟩ = some (.string l.path) ∧ w.cell? ⟨b, o + k * 2 + 1, none⟩ = some (.pointer l.line)

theorem acpLocs_nil (w : World) : Calls Try.prog 25 #[.slice none 0 0] w fun e w' => e = .returned (.slice none 0 0) ∧ w' = w := by
  have heq := fun wx a n c n' c' => Lib.run_eql_slice_nil (P := Try.prog) wx 23 53 a n c n' c' Try.underlying23
  go_enter Try.func25, Try.ntmps25
  go_wp2
  go_ret
  exact ⟨rfl, rfl⟩

end Go.Proofs.Qxb6613960a
