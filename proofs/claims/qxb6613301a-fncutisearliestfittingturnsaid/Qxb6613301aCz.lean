/-
  The two size guards of the cut's law.
-/
import Derived.Test.Qxb6613301aCb
set_option linter.unusedVariables false
set_option linter.unusedSimpArgs false
namespace Go.Proofs.Qxb6613301a
open Go.RowKit

/-- The cells of a slice of CutItem. -/
def ISl (w : World) (a : Option Addr) (its : List It) : Prop :=
  ∀ k t, its[k]? = some t → ∃ b o, a = some ⟨b, o, none⟩ ∧ w.cell? ⟨b, o + k * 5, none⟩ = some (.string t.ty) ∧ w.cell? ⟨b, o + k * 5 + 1, none⟩ = some (.string t.id) ∧
    w.cell? ⟨b, o + k * 5 + 2, none⟩ = some (.string t.call) ∧ w.cell? ⟨b, o + k * 5 + 3, none⟩ = some (.string t.role) ∧ w.cell? ⟨b, o + k * 5 + 4, none⟩ = some (.string t.raw)

def It.small (t : It) : Prop := t.ty.size ≤ 1048576 ∧ t.id.size ≤ 1048576 ∧ t.call.size ≤ 1048576 ∧ t.role.size ≤ 1048576 ∧ t.raw.size ≤ 1048576

def It.sum (t : It) : Nat := 80 + t.ty.size + t.id.size + t.call.size + t.role.size + t.raw.size

def tot (its : List It) (k : Nat) : Nat := ((its.take k).map It.sum).sum

theorem tot_succ {its : List It} {k : Nat} {t : It} (h : its[k]? = some t) : tot its (k + 1) = tot its k + t.sum := by
  simp [tot, List.take_add_one, h]

set_option maxRecDepth 100000 in
set_option maxHeartbeats 1000000 in
theorem bytes17 (its : List It) (a : Option Addr) (cap : Nat) (bud : Value) (w : World) (hl : its.length ≤ 9223372036854775807) (hs : ISl w a its) :
    Calls Try.prog 17 #[.slice a its.length cap, bud] w fun e w' => ∃ b, e = .returned (.bool b) ∧ (b = true → ∀ (k : Nat) (t : It), its[k]? = some t → t.small) ∧ w' = w := by
  obtain ⟨n, hn⟩ : ∃ n, n = its.length := ⟨_, rfl⟩
  rw [← hn] at hl ⊢
  have HN := hid hn
  have HS := hid hs
  clear hn hs
  by_cases hbig : n ≤ 1048576
  · go_enter Try.func17, Try.ntmps17
    go_wp2
    go_loopw [5, 6] (fun z i wr => ∃ k m : Nat, k ≤ n ∧ i = .int .i64 k ∧ z = .int .i64 m ∧ m ≤ 1048576 ∧ (∀ (j : Nat) (t : It), j < k → its[j]? = some t → t.small) ∧ wr = w) (fun _ i _ => n - (intOf i).toNat)
    case atStart => exact ⟨0, n, Nat.zero_le _, rfl, rfl, hbig, by simp, rfl⟩
    case round =>
      obtain ⟨k, m, hk, rfl, rfl, hm, hall, rfl⟩ := hrel
      have HA := hid hall
      clear hall
      by_cases hlt : k < n
      · obtain ⟨t, ht⟩ : ∃ t, its[k]? = some t := ⟨its[k]'(by rw [← HN.out]; exact hlt), by simp⟩
        obtain ⟨b, o, rfl, c0, c1, c2, c3, c4⟩ := HS.out k t ht
        obtain ⟨ty, id, call, role, raw⟩ := t
        dsimp only at c0 c1 c2 c3 c4
        have HT := hid ht
        clear ht
        go_wp2
        all_goals first
          | (go_ret; exact ⟨_, rfl, by simp, rfl⟩)
          | (refine ⟨⟨k + 1, m + ty.size + id.size + call.size + role.size + raw.size, by omega, by go_num, by go_num, by omega, ?_, by first | rfl | trivial⟩, by simp [intOf]; omega⟩
             intro j t hj ht
             by_cases e : j < k
             · exact HA.out j t e ht
             · have e2 : j = k := by omega
               subst e2
               rw [HT.out] at ht
               cases ht
               unfold It.small
               dsimp only
               omega)
      · go_wp2
        go_ret
        exact ⟨_, rfl, fun _ j t ht => HA.out j t (by have := (List.getElem?_eq_some_iff.1 ht).1; have := HN.out; omega) ht, rfl⟩
  · go_enter Try.func17, Try.ntmps17
    go_wp2
    go_ret
    exact ⟨_, rfl, by simp, rfl⟩

set_option maxRecDepth 100000 in
set_option maxHeartbeats 1000000 in
theorem tooBig18 (its : List It) (a : Option Addr) (cap : Nat) (w : World) (hl : its.length ≤ 9223372036854775807) (hs : ISl w a its) (hsm : ∀ (k : Nat) (t : It), its[k]? = some t → t.small) :
    Calls Try.prog 18 #[.slice a its.length cap, .int .i64 0] w fun e w' => ∃ b, e = .returned (.bool b) ∧ (b = false → its.length ≤ 4096 ∧ tot its its.length ≤ 1048576) ∧ w' = w := by
  obtain ⟨n, hn⟩ : ∃ n, n = its.length := ⟨_, rfl⟩
  rw [← hn] at hl ⊢
  have HN := hid hn
  have HS := hid hs
  have HM := hid hsm
  clear hn hs hsm
  by_cases hbig : n ≤ 4096
  · go_enter Try.func18, Try.ntmps18
    go_wp2
    go_loopw [5, 6] (fun z i wr => ∃ k m : Nat, k ≤ n ∧ i = .int .i64 k ∧ z = .int .i64 m ∧ m ≤ 1048576 ∧ Hid (m = tot its k) ∧ wr = w) (fun _ i _ => n - (intOf i).toNat)
    case atStart => exact ⟨0, 0, Nat.zero_le _, rfl, rfl, by omega, hid (by simp [tot]), rfl⟩
    case round =>
      obtain ⟨k, m, hk, rfl, rfl, hm, hall, rfl⟩ := hrel
      by_cases hlt : k < n
      · obtain ⟨t, ht⟩ : ∃ t, its[k]? = some t := ⟨its[k]'(by rw [← HN.out]; exact hlt), by simp⟩
        obtain ⟨b, o, rfl, c0, c1, c2, c3, c4⟩ := HS.out k t ht
        obtain ⟨s0, s1, s2, s3, s4⟩ := HM.out k t ht
        have hts : tot its (k + 1) = tot its k + t.sum := tot_succ ht
        obtain ⟨ty, id, call, role, raw⟩ := t
        dsimp only at c0 c1 c2 c3 c4 s0 s1 s2 s3 s4
        have HT := hid hts
        clear ht hts
        go_wp2
        all_goals first
          | (go_ret; exact ⟨_, rfl, by simp, rfl⟩)
          | (refine ⟨⟨k + 1, m + 80 + ty.size + id.size + call.size + role.size + raw.size, by omega, by go_num, by go_num, by omega, ?_, by first | rfl | trivial⟩, by simp [intOf]; omega⟩
             refine hid ?_
             rw [HT.out, ← hall.out]
             simp only [It.sum]
             omega)
      · go_wp2
        go_ret
        have hkn : k = n := by omega
        exact ⟨_, rfl, fun _ => ⟨hbig, by rw [← hkn, ← hall.out]; exact hm⟩, rfl⟩
  · go_enter Try.func18, Try.ntmps18
    go_wp2
    go_ret
    exact ⟨_, rfl, by simp, rfl⟩

end Go.Proofs.Qxb6613301a
