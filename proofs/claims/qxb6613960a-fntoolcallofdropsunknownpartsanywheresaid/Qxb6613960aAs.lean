/-
  zzACPParts, walked.
-/
import Derived.Test.Qxb6613960aAr2
set_option linter.unusedVariables false
set_option linter.unusedSimpArgs false
namespace Go.Proofs.Qxb6613960a
open Go.RowKit

set_option maxRecDepth 100000 in
set_option maxHeartbeats 2000000 in
theorem acpParts_any (ps : List Pt) (a : Addr) (cap : Nat) (w : World) (hl : ps.length ≤ 65537) (hA : PSl w (some a) ps) :
    Calls Try.prog 26 #[.slice (some a) ps.length cap] w fun e w' => ∃ g, e = .returned (.slice (some ⟨g, 0, none⟩) ps.length ps.length) ∧ ARow w' g ps.length ps ps.length ∧ w.heap.size ≤ g ∧ Kp [] w w' := by
  obtain ⟨n, hn⟩ : ∃ n, n = ps.length := ⟨_, rfl⟩
  rw [← hn] at hl ⊢
  have HN := hid hn
  have HA := hid hA
  clear hn hA
  have heq := fun wx a n c n' c' => Lib.run_eql_slice_nil (P := Try.prog) wx 24 63 a n c n' c' Try.underlying24
  have hmk := run_make_any 44 117 _ 11 160 Try.underlying44 info117 n (by omega) (by omega)
  generalize hAA : madeCells _ (n * 11) = AA at hmk
  have hAs : AA.size = n * 11 := by rw [← hAA, size_madeCells]
  clear hAA
  go_enter Try.func26, Try.ntmps26
  go_wp2_with fail
  go_loopw [4] (fun i wr => ∃ k : Nat, k ≤ n ∧ i = .int .i64 k ∧ ARow wr w.heap.size n ps k ∧ Kp [] w wr) (fun i _ => n - (intOf i).toNat)
  case atStart => exact ⟨0, Nat.zero_le _, rfl, ⟨AA, heap_push _ _, hAs, fun k l hk => by omega⟩, (Kp.refl _ _).alloc _⟩
  case round =>
    obtain ⟨k, hk, rfl, hrow, hK⟩ := hrel
    by_cases hlt : k < n
    · obtain ⟨p, hp⟩ : ∃ p, ps[k]? = some p := ⟨ps[k]'(by rw [← HN.out]; exact hlt), by simp⟩
      obtain ⟨b, o, ha, rp, hres, hcs⟩ := HA.out k p hp
      cases ha
      have HROW := hid hrow
      have HP := hid hp
      obtain ⟨ty, ⟨cty, ctext, cmime, curi, cname, cres⟩, path, old, new, term⟩ := p
      simp only [Pt.cells] at hcs
      dsimp only at hres
      have c0 := hK.cell (hcs 0 _ rfl) (by simp)
      have c1 := hK.cell (hcs 1 _ rfl) (by simp)
      have c2 := hK.cell (hcs 2 _ rfl) (by simp)
      have c3 := hK.cell (hcs 3 _ rfl) (by simp)
      have c4 := hK.cell (hcs 4 _ rfl) (by simp)
      have c5 := hK.cell (hcs 5 _ rfl) (by simp)
      have c6 := hK.cell (hcs 6 _ rfl) (by simp)
      have c7 := hK.cell (hcs 7 _ rfl) (by simp)
      have c8 := hK.cell (hcs 8 _ rfl) (by simp)
      have c9 := hK.cell (hcs 9 _ rfl) (by simp)
      have c10 := hK.cell (hcs 10 _ rfl) (by simp)
      simp only [Nat.add_zero] at c0
      obtain ⟨cur, h1, h2, h3⟩ := hrow
      have hlw := lt_of_at h1
      obtain ⟨v0, hv0⟩ : ∃ v, cur[k * 11 + 0]? = some v := ⟨cur[k * 11 + 0]'(by omega), by simp⟩
      have d0 : wr.cell? ⟨w.heap.size, k * 11 + 0, none⟩ = some v0 := by rw [cell_at h1]; exact hv0
      have f0 := frozen_at h1 (k * 11 + 0)
      obtain ⟨v1, hv1⟩ : ∃ v, cur[k * 11 + 1]? = some v := ⟨cur[k * 11 + 1]'(by omega), by simp⟩
      have d1 : wr.cell? ⟨w.heap.size, k * 11 + 1, none⟩ = some v1 := by rw [cell_at h1]; exact hv1
      have f1 := frozen_at h1 (k * 11 + 1)
      obtain ⟨v2, hv2⟩ : ∃ v, cur[k * 11 + 2]? = some v := ⟨cur[k * 11 + 2]'(by omega), by simp⟩
      have d2 : wr.cell? ⟨w.heap.size, k * 11 + 2, none⟩ = some v2 := by rw [cell_at h1]; exact hv2
      have f2 := frozen_at h1 (k * 11 + 2)
      obtain ⟨v3, hv3⟩ : ∃ v, cur[k * 11 + 3]? = some v := ⟨cur[k * 11 + 3]'(by omega), by simp⟩
      have d3 : wr.cell? ⟨w.heap.size, k * 11 + 3, none⟩ = some v3 := by rw [cell_at h1]; exact hv3
      have f3 := frozen_at h1 (k * 11 + 3)
      obtain ⟨v4, hv4⟩ : ∃ v, cur[k * 11 + 4]? = some v := ⟨cur[k * 11 + 4]'(by omega), by simp⟩
      have d4 : wr.cell? ⟨w.heap.size, k * 11 + 4, none⟩ = some v4 := by rw [cell_at h1]; exact hv4
      have f4 := frozen_at h1 (k * 11 + 4)
      obtain ⟨v5, hv5⟩ : ∃ v, cur[k * 11 + 5]? = some v := ⟨cur[k * 11 + 5]'(by omega), by simp⟩
      have d5 : wr.cell? ⟨w.heap.size, k * 11 + 5, none⟩ = some v5 := by rw [cell_at h1]; exact hv5
      have f5 := frozen_at h1 (k * 11 + 5)
      obtain ⟨v6, hv6⟩ : ∃ v, cur[k * 11 + 6]? = some v := ⟨cur[k * 11 + 6]'(by omega), by simp⟩
      have d6 : wr.cell? ⟨w.heap.size, k * 11 + 6, none⟩ = some v6 := by rw [cell_at h1]; exact hv6
      have f6 := frozen_at h1 (k * 11 + 6)
      obtain ⟨v7, hv7⟩ : ∃ v, cur[k * 11 + 7]? = some v := ⟨cur[k * 11 + 7]'(by omega), by simp⟩
      have d7 : wr.cell? ⟨w.heap.size, k * 11 + 7, none⟩ = some v7 := by rw [cell_at h1]; exact hv7
      have f7 := frozen_at h1 (k * 11 + 7)
      obtain ⟨v8, hv8⟩ : ∃ v, cur[k * 11 + 8]? = some v := ⟨cur[k * 11 + 8]'(by omega), by simp⟩
      have d8 : wr.cell? ⟨w.heap.size, k * 11 + 8, none⟩ = some v8 := by rw [cell_at h1]; exact hv8
      have f8 := frozen_at h1 (k * 11 + 8)
      obtain ⟨v9, hv9⟩ : ∃ v, cur[k * 11 + 9]? = some v := ⟨cur[k * 11 + 9]'(by omega), by simp⟩
      have d9 : wr.cell? ⟨w.heap.size, k * 11 + 9, none⟩ = some v9 := by rw [cell_at h1]; exact hv9
      have f9 := frozen_at h1 (k * 11 + 9)
      obtain ⟨v10, hv10⟩ : ∃ v, cur[k * 11 + 10]? = some v := ⟨cur[k * 11 + 10]'(by omega), by simp⟩
      have d10 : wr.cell? ⟨w.heap.size, k * 11 + 10, none⟩ = some v10 := by rw [cell_at h1]; exact hv10
      have f10 := frozen_at h1 (k * 11 + 10)
      simp only [Nat.add_zero] at d0 f0
      clear hcs h1 h2 h3 hv0 hv1 hv2 hv3 hv4 hv5 hv6 hv7 hv8 hv9 hv10 hp
      have hbw := lt_of_cell c0
      cases cres with
      | none =>
        have e : rp = none := hres
        subst e
        have hpush := HROW.out.push (rp := none) hlt HP.out rfl
        have hkp := setRow_kp (Pt.cells ⟨ty, ⟨cty, ctext, cmime, curi, cname, none⟩, path, old, new, term⟩ none) wr w [] w.heap.size (k * 11) hK (Or.inr (Nat.le_refl _))
        simp only [Pt.cells, setRow, Nat.add_assoc, Nat.reduceAdd] at hpush hkp
        have HPU := hid hpush
        have HKP := hid hkp
        clear hpush hkp
        go_wp2_with fail
        exact ⟨⟨k + 1, by omega, by go_num, HPU.out.kp ((Kp.refl [] _).alloc _), HKP.out.alloc _⟩, by simp [intOf]; omega⟩
      | some r =>
        obtain ⟨b2, o2, rfl, r0, r1, r2⟩ := hres
        have hbl2 : b2 < w.heap.size := lt_of_cell r0
        have r0 := hK.cell r0 (by simp)
        have r1 := hK.cell r1 (by simp)
        have r2 := hK.cell r2 (by simp)
        have hksz := hK.size
        have hb3 : b2 < wr.heap.size := by omega
        have hb4 : b2 < wr.heap.size + 1 := by omega
        obtain ⟨ru, rm, rt⟩ := r
        dsimp only at r0 r1 r2
        have hpush := fun o : Obj => HROW.out.pushRes (o := o) hlt HP.out rfl
        have hkp := setRow_kp (Pt.cells ⟨ty, ⟨cty, ctext, cmime, curi, cname, some ⟨ru, rm, rt⟩⟩, path, old, new, term⟩ (some ⟨wr.heap.size + 1, 0, none⟩)) wr w [] w.heap.size (k * 11) hK (Or.inr (Nat.le_refl _))
        simp only [Pt.cells, setRow, Nat.add_assoc, Nat.reduceAdd] at hpush hkp
        have HPU := hid hpush
        have HKP := hid hkp
        clear hpush hkp
        go_wp2_with fail
        go_region
        all_goals
          go_wp2_with fail
          exact ⟨⟨k + 1, by omega, by go_num, HPU.out _, ((HKP.out.alloc _).alloc _).drew⟩, by simp [intOf]; omega⟩
    · have hkn : n = k := by omega
      subst hkn
      go_wp2_with fail
      go_ret
      exact ⟨w.heap.size, rfl, hrow, Nat.le_refl _, hK⟩

end Go.Proofs.Qxb6613960a
