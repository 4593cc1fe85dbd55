/-
  zzKnownCount, walked.
-/
import Derived.Test.Qxb6613960aSa
set_option linter.unusedVariables false
set_option linter.unusedSimpArgs false
namespace Go.Proofs.Qxb6613960a
open Go.RowKit

def isKn (s : ByteArray) : Bool := s.toList == lContent || s.toList == lDiff || s.toList == lTerm
theorem tc_known (p : Pt) : isKn p.ty = true → ∃ t, p.tc = some t := by
  intro h
  simp only [isKn, Bool.or_eq_true, beq_iff_eq] at h
  unfold Pt.tc
  simp only [beq_iff_eq]
  split
  · split <;> exact ⟨_, rfl⟩
  · split
    · exact ⟨_, rfl⟩
    · split
      · exact ⟨_, rfl⟩
      · rcases h with (h | h) | h <;> contradiction
theorem tc_unknown (p : Pt) : isKn p.ty = false → p.tc = none := by
  intro h
  simp only [isKn, Bool.or_eq_false_iff, beq_eq_false_iff_ne, ne_eq] at h
  unfold Pt.tc
  simp only [beq_iff_eq]
  rw [if_neg h.1.1, if_neg h.1.2, if_neg h.2]

theorem take_next {α : Type} (xs : List α) (k : Nat) (x : α) (h : xs[k]? = some x) : xs.take (k + 1) = xs.take k ++ [x] := by
  rw [List.take_add_one, h]; rfl

set_option maxRecDepth 100000 in
set_option maxHeartbeats 2000000 in
theorem knownCount (ps : List Pt) (pa : Option Addr) (cap : Nat) (w : World) (hl : ps.length ≤ 65537) (hA : PSl w pa ps) :
    Calls Try.prog 12 #[.slice pa ps.length cap] w fun e w' => e = .returned (.int .i64 (ps.filterMap Pt.tc).length) ∧ w' = w := by
  obtain ⟨n, hn⟩ : ∃ n, n = ps.length := ⟨_, rfl⟩
  rw [← hn] at hl ⊢
  have HN := hid hn
  have HA := hid hA
  clear hn hA
  have hk16 := fun s => known_all s w
  go_enter Try.func12, Try.ntmps12
  go_wp2_with fail
  go_loopw [3, 4] (fun s i wr => ∃ k : Nat, k ≤ n ∧ i = .int .i64 k ∧ s = .int .i64 ((ps.take k).filterMap Pt.tc).length ∧ wr = w) (fun s i _ => n - (intOf i).toNat)
  case atStart => exact ⟨0, Nat.zero_le _, rfl, rfl, rfl⟩
  case round =>
    obtain ⟨k, hk, rfl, rfl, rfl⟩ := hrel
    by_cases hlt : k < n
    · obtain ⟨p, hp⟩ : ∃ p, ps[k]? = some p := ⟨ps[k]'(by rw [← HN.out]; exact hlt), by simp⟩
      obtain ⟨b, o, ha, rp, hres, hcs⟩ := HA.out k p hp
      subst ha
      have c0 : _ = _ := hcs 0 _ rfl
      simp only [Nat.add_zero] at c0
      have HT := hid (take_next ps k p hp)
      have hle : ((ps.take k).filterMap Pt.tc).length ≤ k := Nat.le_trans (List.length_filterMap_le _ _) (List.length_take_le _ _)
      clear hcs hres hp
      generalize hL : ((ps.take k).filterMap Pt.tc).length = L at hle ⊢
      have HL := hid hL
      clear hL
      go_wp2_with fail
      refine (known_all p.ty _).mono ?_
      rintro e w1 ⟨rfl, rfl⟩
      by_cases hkn : isKn p.ty = true
      · obtain ⟨t, ht⟩ := tc_known p hkn
        have hs : ((ps.take (k + 1)).filterMap Pt.tc).length = L + 1 := by rw [HT.out, List.filterMap_append, List.length_append, HL.out]; simp [ht]
        unfold isKn at hkn
        rw [hkn]
        have HS := hid hs
        clear hs hkn ht
        go_wp2_with fail
        exact ⟨⟨k + 1, by omega, by go_num, by rw [HS.out]; go_num, trivial⟩, by simp [intOf]; omega⟩
      · have hkn : isKn p.ty = false := by simpa using hkn
        have hs : ((ps.take (k + 1)).filterMap Pt.tc).length = L := by rw [HT.out, List.filterMap_append, List.length_append, HL.out]; simp [tc_unknown p hkn]
        unfold isKn at hkn
        rw [hkn]
        have HS := hid hs
        clear hs hkn
        go_wp2_with fail
        exact ⟨⟨k + 1, by omega, by go_num, by rw [HS.out], trivial⟩, by simp [intOf]; omega⟩
    · have hkn : n = k := by omega
      subst hkn
      have ht : ps.take n = ps := by rw [HN.out]; exact List.take_length
      rw [ht]
      go_wp2_with fail
      go_ret
      exact ⟨rfl, rfl⟩

end Go.Proofs.Qxb6613960a
