/-
  zzAnchorPremise: it answers a bool, and reads only.
-/
import Derived.Test.Qxb6613301aAn
set_option linter.unusedVariables false
set_option linter.unusedSimpArgs false
namespace Go.Proofs.Qxb6613301a
open Go.RowKit

set_option maxRecDepth 100000 in
set_option maxHeartbeats 1000000 in
theorem premise_any (nb : Int) (a : Option Addr) (cap : Nat) (rs : List R) (w : World) (hl : rs.length ≤ 4096) (hr : RSl w a rs) :
    Calls Try.prog 22 #[.int .i64 nb, .slice a rs.length cap] w fun e w' => ∃ b, e = .returned (.bool b) ∧ ∃ q, w' = w.drewN q := by
  have HR := hid hr
  clear hr
  obtain ⟨n, hn⟩ : ∃ n, n = rs.length := ⟨_, rfl⟩
  rw [← hn] at hl ⊢
  have HN := hid hn
  clear hn
  go_enter Try.func22, Try.ntmps22
  go_wp2
  go_loopw [5] (fun i wr => ∃ k : Nat, k ≤ n ∧ i = .int .i64 k ∧ ∃ q, wr = w.drewN q) (fun i _ => n - (intOf i).toNat)
  case atStart => exact ⟨0, Nat.zero_le _, rfl, 0, rfl⟩
  case round =>
    obtain ⟨k, hk, rfl, q, rfl⟩ := hrel
    by_cases hlt : k < n
    · obtain ⟨r, hrk⟩ : ∃ r, rs[k]? = some r := ⟨rs[k]'(by rw [← HN.out]; exact hlt), by simp⟩
      obtain ⟨b, o, ha, g0, g1, g2⟩ := HR.out k r hrk
      subst ha
      clear hrk
      by_cases c1 : r.h < 0
      · have d1 : decide (r.h < 0) = true := by simpa using c1
        go_wp2
        go_quiet (fail)
        go_wp2
        go_ret
        exact ⟨_, rfl, q + nq, by simp⟩
      by_cases c2 : r.i < 0
      · have d1 : decide (r.h < 0) = false := by simpa using c1
        have d2 : decide (r.i < 0) = true := by simpa using c2
        go_wp2
        go_quiet (fail)
        go_wp2
        go_ret
        exact ⟨_, rfl, q + nq, by simp⟩
      by_cases c3 : r.h < r.i
      · have d1 : decide (r.h < 0) = false := by simpa using c1
        have d2 : decide (r.i < 0) = false := by simpa using c2
        have d3 : decide (r.h < r.i) = true := by simpa using c3
        go_wp2
        go_quiet (fail)
        go_wp2
        go_ret
        exact ⟨_, rfl, q + nq, by simp⟩
      by_cases c4 : nb < r.i
      · have d1 : decide (r.h < 0) = false := by simpa using c1
        have d2 : decide (r.i < 0) = false := by simpa using c2
        have d3 : decide (r.h < r.i) = false := by simpa using c3
        have d4 : decide (nb < r.i) = true := by simpa using c4
        go_wp2
        go_quiet (fail)
        go_wp2
        go_ret
        exact ⟨_, rfl, q + nq, by simp⟩
      have d1 : decide (r.h < 0) = false := by simpa using c1
      have d2 : decide (r.i < 0) = false := by simpa using c2
      have d3 : decide (r.h < r.i) = false := by simpa using c3
      have d4 : decide (nb < r.i) = false := by simpa using c4
      go_wp2
      go_quiet (fail)
      go_wp2
      exact ⟨⟨k + 1, by omega, by go_num, _, rfl⟩, by simp [intOf]; omega⟩
    · go_wp2
      go_ret
      exact ⟨_, rfl, q, rfl⟩

end Go.Proofs.Qxb6613301a
