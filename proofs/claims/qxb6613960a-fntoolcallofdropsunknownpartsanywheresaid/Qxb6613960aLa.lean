/-
  zzACPLocs, walked.
-/
import Derived.Test.Qxb6613960aLo
set_option linter.unusedVariables false
set_option linter.unusedSimpArgs false
namespace Go.Proofs.Qxb6613960a
open Go.RowKit

set_option maxRecDepth 100000 in
set_option maxHeartbeats 1000000 in
theorem acpLocs_any (ls : List Lc) (a : Addr) (cap : Nat) (w : World) (hl : ls.length ≤ 65537) (hA : LSl w (some a) ls) :
    Calls Try.prog 25 #[.slice (some a) ls.length cap] w fun e w' => ∃ g, e = .returned (.slice (some ⟨g, 0, none⟩) ls.length ls.length) ∧ LRow w' 110 g ls.length ls ls.length ∧ w.heap.size ≤ g ∧ Kp [] w w' := by
  obtain ⟨n, hn⟩ : ∃ n, n = ls.length := ⟨_, rfl⟩
  rw [← hn] at hl ⊢
  have HN := hid hn
  have HA := hid hA
  clear hn hA
  have heq := fun wx a n c n' c' => Lib.run_eql_slice_nil (P := Try.prog) wx 23 53 a n c n' c' Try.underlying23
  have hmk := run_make_any 43 110 _ 2 24 Try.underlying43 info110 n (by omega) (by omega)
  obtain ⟨AA, hAA⟩ : ∃ AA, AA = madeCells (Value.agg #[.string ⟨#[]⟩, .pointer none]).cells (n * 2) := ⟨_, rfl⟩
  have hAs : AA.size = n * 2 := by rw [hAA, size_madeCells]
  rw [← hAA] at hmk
  clear hAA
  go_enter Try.func25, Try.ntmps25
  go_wp2_with fail
  go_loopw [4] (fun i wr => ∃ k : Nat, k ≤ n ∧ i = .int .i64 k ∧ LRow wr 110 w.heap.size n ls k ∧ Kp [] w wr) (fun i _ => n - (intOf i).toNat)
  case atStart => exact ⟨0, Nat.zero_le _, rfl, ⟨AA, heap_push _ _, hAs, fun k l hk => by omega⟩, (Kp.refl _ _).alloc _⟩
  case round =>
    obtain ⟨k, hk, rfl, hrow, hK⟩ := hrel
    by_cases hlt : k < n
    · obtain ⟨l, hlk⟩ : ∃ l, ls[k]? = some l := ⟨ls[k]'(by rw [← HN.out]; exact hlt), by simp⟩
      obtain ⟨b, o, ha, c0, c1⟩ := HA.out k l hlk
      cases ha
      have c0 := hK.cell c0 (by simp)
      have c1 := hK.cell c1 (by simp)
      have HROW := hid hrow
      have HLK := hid hlk
      obtain ⟨cur, h1, h2, h3⟩ := hrow
      obtain ⟨v0, hv0⟩ : ∃ v, cur[k * 2]? = some v := ⟨cur[k * 2]'(by omega), by simp⟩
      obtain ⟨v1, hv1⟩ : ∃ v, cur[k * 2 + 1]? = some v := ⟨cur[k * 2 + 1]'(by omega), by simp⟩
      have d0 : wr.cell? ⟨w.heap.size, k * 2, none⟩ = some v0 := by rw [cell_at h1]; exact hv0
      have d1 : wr.cell? ⟨w.heap.size, k * 2 + 1, none⟩ = some v1 := by rw [cell_at h1]; exact hv1
      have f0 := frozen_at h1 (k * 2)
      have f1 := frozen_at h1 (k * 2 + 1)
      have hlw := lt_of_at h1
      obtain ⟨path, line⟩ := l
      dsimp only at c0 c1
      clear h1 h2 h3 hv0 hv1 hlk
      go_wp2_with fail
      go_region
      all_goals
        go_wp2_with fail
        have hpu := (HROW.out.push hlt HLK.out).kp ((Kp.refl [] _).drew) (by simp)
        exact ⟨⟨k + 1, by omega, by go_num, hpu, ((hK.setCell (p := ⟨w.heap.size, k * 2, none⟩) (Or.inr (Nat.le_refl _)) _).setCell (p := ⟨w.heap.size, k * 2 + 1, none⟩) (Or.inr (Nat.le_refl _)) _).drew⟩, by simp [intOf]; omega⟩
    · have hkn : n = k := by omega
      subst hkn
      go_wp2_with fail
      go_ret
      exact ⟨w.heap.size, rfl, hrow, Nat.le_refl _, hK⟩

end Go.Proofs.Qxb6613960a
