/-
  zzBytes of the first law, walked: some Boolean.
-/
import Derived.Test.Qxb6613960aTw
import Derived.Deep.CutRange
set_option linter.unusedVariables false
set_option linter.unusedSimpArgs false
namespace Go.Proofs.Qxb6613960a
open Go.RowKit

set_option maxRecDepth 100000 in
set_option maxHeartbeats 40000000 in
theorem bytes3 (typ id ti ki st : ByteArray) (title kind status : Option Addr) (ls : List Lc) (la : Option Addr) (lc : Nat) (ps : List Pt) (pa : Option Addr) (pc : Nat) (L M : Int) (w : World)
    (hti : SP w title ti) (hki : SP w kind ki) (hsta : SP w status st) (hL : LSl w la ls) (hP : PSl w pa ps) (hO : Olds w ps) :
    Calls Try.prog 6 #[.string typ, .string id, .pointer title, .pointer kind, .pointer status, .slice la ls.length lc, .slice pa ps.length pc, .int .i64 L, .int .i64 M] w fun e w' =>
      BoolSays True w e w' := by
  obtain ⟨n, hn⟩ : ∃ n, n = ls.length := ⟨_, rfl⟩
  obtain ⟨m, hm⟩ : ∃ m, m = ps.length := ⟨_, rfl⟩
  rw [← hn, ← hm]
  have HN := hid hn
  have HM := hid hm
  have HL := hid hL
  have HP := hid hP
  have HO := hid hO
  have HTI := hid hti
  have HKI := hid hki
  have HST := hid hsta
  clear hn hm hL hP hO hti hki hsta
  go_enter Try.func6, Try.ntmps6
  go_upto_if 41 with fail
  try (any_goals (go_ret; exact ⟨false, rfl, fun _ => trivial, Kp.refl _ _⟩))
  go_cut [19] from 42 to 54 (fun s wx => ∃ z, s = .int .i64 z ∧ w = wx)
  case first =>
    have h := HTI.out
    cases title with
    | none =>
      go_wp2_with fail
      go_meet
      case rel => exact ⟨_, rfl, rfl⟩
    | some a =>
      have h : w.cell? a = some (.string ti) := h
      go_wp2_with fail
      try (any_goals (go_ret; exact ⟨false, rfl, fun _ => trivial, Kp.refl _ _⟩))
      go_meet
      case rel => exact ⟨_, rfl, rfl⟩
  case rest =>
    obtain ⟨z1, rfl, rfl⟩ := hcut
    go_upto_if 56 with fail
    try (any_goals (go_ret; exact ⟨false, rfl, fun _ => trivial, Kp.refl _ _⟩))
    go_cut [19] from 57 to 69 (fun s wx => ∃ z, s = .int .i64 z ∧ w = wx)
    case first =>
      have h := HKI.out
      cases kind with
      | none =>
        go_wp2_with fail
        go_meet
        case rel => exact ⟨_, rfl, rfl⟩
      | some a =>
        have h : w.cell? a = some (.string ki) := h
        go_wp2_with fail
        try (any_goals (go_ret; exact ⟨false, rfl, fun _ => trivial, Kp.refl _ _⟩))
        go_meet
        case rel => exact ⟨_, rfl, rfl⟩
    case rest =>
      obtain ⟨z2, rfl, rfl⟩ := hcut
      go_upto_if 71 with fail
      try (any_goals (go_ret; exact ⟨false, rfl, fun _ => trivial, Kp.refl _ _⟩))
      go_cut [19] from 72 to 84 (fun s wx => ∃ z, s = .int .i64 z ∧ w = wx)
      case first =>
        have h := HST.out
        cases status with
        | none =>
          go_wp2_with fail
          go_meet
          case rel => exact ⟨_, rfl, rfl⟩
        | some a =>
          have h : w.cell? a = some (.string st) := h
          go_wp2_with fail
          try (any_goals (go_ret; exact ⟨false, rfl, fun _ => trivial, Kp.refl _ _⟩))
          go_meet
          case rel => exact ⟨_, rfl, rfl⟩
      case rest =>
        obtain ⟨z3, rfl, rfl⟩ := hcut
        go_wp2_with fail
        try (any_goals (go_ret; exact ⟨false, rfl, fun _ => trivial, Kp.refl _ _⟩))
        go_loopw [19, 20] (fun s i wr => ∃ (k : Nat) (z : Int), k ≤ n ∧ i = .int .i64 k ∧ s = .int .i64 z ∧ w = wr) (fun s i _ => n - (intOf i).toNat)
        case atStart => exact ⟨0, _, Nat.zero_le _, rfl, rfl, rfl⟩
        case round =>
          obtain ⟨k, z, hk, rfl, rfl, rfl⟩ := hrel
          by_cases hlt : k < n
          · obtain ⟨l, hl⟩ : ∃ l, ls[k]? = some l := ⟨ls[k]'(by rw [← HN.out]; exact hlt), by simp⟩
            obtain ⟨b, o, ha, c0, c1⟩ := HL.out k l hl
            subst ha
            clear hl c1
            go_wp2_with fail
            all_goals first
              | (go_ret; exact ⟨false, rfl, fun _ => trivial, Kp.refl _ _⟩)
              | exact ⟨⟨k + 1, _, by omega, by go_num, rfl, trivial⟩, by simp [intOf]; omega⟩
          · have hkn : n = k := by omega
            subst hkn
            go_wp2_with fail
            try (any_goals (go_ret; exact ⟨false, rfl, fun _ => trivial, Kp.refl _ _⟩))
            go_loopw [19, 21] (fun s i wr => ∃ (k : Nat) (z : Int), k ≤ m ∧ i = .int .i64 k ∧ s = .int .i64 z ∧ w = wr) (fun s i _ => m - (intOf i).toNat)
            case atStart => exact ⟨0, _, Nat.zero_le _, rfl, rfl, rfl⟩
            case round =>
              obtain ⟨k, z, hk, rfl, rfl, rfl⟩ := hrel
              by_cases hlt : k < m
              · obtain ⟨p, hp⟩ : ∃ p, ps[k]? = some p := ⟨ps[k]'(by rw [← HM.out]; exact hlt), by simp⟩
                obtain ⟨b, o, ha, rp, hres, hcs⟩ := HP.out k p hp
                obtain ⟨so, hold⟩ := HO.out k p hp
                subst ha
                obtain ⟨ty, ⟨cty, ctext, cmime, curi, cname, cres⟩, path, old, new, term⟩ := p
                simp only [Pt.cells] at hcs
                dsimp only at hres hold
                have c0 := hcs 0 _ rfl
                have c1 := hcs 1 _ rfl
                have c2 := hcs 2 _ rfl
                have c3 := hcs 3 _ rfl
                have c4 := hcs 4 _ rfl
                have c5 := hcs 5 _ rfl
                have c6 := hcs 6 _ rfl
                have c7 := hcs 7 _ rfl
                have c8 := hcs 8 _ rfl
                have c9 := hcs 9 _ rfl
                have c10 := hcs 10 _ rfl
                simp only [Nat.add_zero] at c0
                clear hcs hp
                go_upto_if 250 with fail
                try (any_goals (go_ret; exact ⟨false, rfl, fun _ => trivial, Kp.refl _ _⟩))
                go_cut [19] from 251 to 325 (fun s wx => ∃ z, s = .int .i64 z ∧ w = wx)
                case first => as_aux_lemma =>
                  cases cres with
                  | none =>
                    have e : rp = none := hres
                    subst e
                    go_wp2_with fail
                    go_meet
                    case rel => exact ⟨_, rfl, rfl⟩
                  | some r =>
                    obtain ⟨b2, o2, rfl, r0, r1, r2⟩ := hres
                    go_wp2_with fail
                    try (any_goals (go_ret; exact ⟨false, rfl, fun _ => trivial, Kp.refl _ _⟩))
                    go_meet
                    case rel => exact ⟨_, rfl, rfl⟩
                case rest => as_aux_lemma =>
                  obtain ⟨z5, rfl, rfl⟩ := hcut
                  go_upto_if 348 with fail
                  try (any_goals (go_ret; exact ⟨false, rfl, fun _ => trivial, Kp.refl _ _⟩))
                  go_cut [19] from 349 to 369 (fun s wx => ∃ z, s = .int .i64 z ∧ w = wx)
                  case first => as_aux_lemma =>
                    cases old with
                    | none =>
                      go_wp2_with fail
                      go_meet
                      case rel => exact ⟨_, rfl, rfl⟩
                    | some a =>
                      have hold : w.cell? a = some (.string so) := hold
                      go_wp2_with fail
                      try (any_goals (go_ret; exact ⟨false, rfl, fun _ => trivial, Kp.refl _ _⟩))
                      go_meet
                      case rel => exact ⟨_, rfl, rfl⟩
                  case rest => as_aux_lemma =>
                    obtain ⟨z6, rfl, rfl⟩ := hcut
                    go_wp2_with fail
                    try (any_goals (go_ret; exact ⟨false, rfl, fun _ => trivial, Kp.refl _ _⟩))
                    go_roundw
                    case rel => (repeat apply Exists.intro); exact ⟨⟨k + 1, _, by omega, by go_num, rfl, rfl⟩, rfl⟩
                    case measure => exact (by simp [intOf]; omega : m - (intOf (.int .i64 ((k : Int) + 1))).toNat < m - (intOf (.int .i64 (k : Int))).toNat)
              · have hkn : m = k := by omega
                subst hkn
                go_wp2_with fail
                go_ret
                exact ⟨true, rfl, fun _ => trivial, Kp.refl _ _⟩

end Go.Proofs.Qxb6613960a
