/-
  zzBytes of the second law, walked: some Boolean.
-/
import Derived.Test.Qxb6613960aTw
import Derived.Deep.CutRange
set_option linter.unusedVariables false
set_option linter.unusedSimpArgs false
namespace Go.Proofs.Qxb6613960a
open Go.RowKit

set_option maxRecDepth 100000 in
set_option maxHeartbeats 40000000 in
theorem bytes4 (typ id ti ki st : ByteArray) (title kind status : Option Addr) (ls : List Lc) (la : Option Addr) (lc : Nat) (ps : List Pt) (pa : Option Addr) (pc : Nat) (L : Int) (xp : Pt) (xr : Option Addr) (w : World) (hxr : ResIn w xr xp.c.res) (hxo : OldIn w xp.old)
    (hti : SP w title ti) (hki : SP w kind ki) (hsta : SP w status st) (hL : LSl w la ls) (hP : PSl w pa ps) (hO : Olds w ps) :
    Calls Try.prog 14 #[.string typ, .string id, .pointer title, .pointer kind, .pointer status, .slice la ls.length lc, .slice pa ps.length pc, .int .i64 L, .agg (xp.cells xr).toArray] w fun e w' =>
      BoolSays True w e w' := by
  obtain ⟨n, hn⟩ : ∃ n, n = ls.length := ⟨_, rfl⟩
  obtain ⟨m, hm⟩ : ∃ m, m = ps.length := ⟨_, rfl⟩
  rw [← hn, ← hm]
  have HN := hid hn
  have HM := hid hm
  have HL := hid hL
  have HP := hid hP
  have HO := hid hO
  have HTI := hid hti
  have HKI := hid hki
  have HST := hid hsta
  clear hn hm hL hP hO hti hki hsta
  obtain ⟨xty, ⟨xcty, xctext, xcmime, xcuri, xcname, xcres⟩, xpath, xold, xnew, xterm⟩ := xp
  obtain ⟨xso, hxo⟩ := hxo
  simp only [Pt.cells]
  dsimp only at hxr hxo
  go_enter Try.func14, Try.ntmps14
  go_upto_region 1 with fail
  generalize hW : w.alloc _ = W
  have kW : Kp [] w W := by rw [← hW]; exact (Kp.refl _ _).alloc _
  have hbx : W.heap[w.heap.size]? = some (.cells #[.string xty, .string xcty, .string xctext, .string xcmime, .string xcuri, .string xcname, .pointer xr, .string xpath, .pointer xold, .string xnew, .string xterm] 63 (0, 0)) := by rw [← hW]; exact heap_push _ _
  have HBX := hid hbx
  have HXR := hid (hxr.kp kW)
  have HXO := hid (hxo.kp kW)
  have KW := hid kW
  clear hW kW hbx hxr hxo
  go_upto_if 41 with fail
  try (any_goals (go_ret; exact ⟨false, rfl, fun _ => trivial, KW.out⟩))
  go_cut [19] from 42 to 54 (fun s wx => ∃ z, s = .int .i64 z ∧ W = wx)
  case first =>
    have h := HTI.out.kp KW.out
    cases title with
    | none =>
      go_wp2_with fail
      go_meet
      case rel => exact ⟨_, rfl, rfl⟩
    | some a =>
      have h : W.cell? a = some (.string ti) := h
      go_wp2_with fail
      try (any_goals (go_ret; exact ⟨false, rfl, fun _ => trivial, KW.out⟩))
      go_meet
      case rel => exact ⟨_, rfl, rfl⟩
  case rest =>
    obtain ⟨z1, rfl, rfl⟩ := hcut
    go_upto_if 56 with fail
    try (any_goals (go_ret; exact ⟨false, rfl, fun _ => trivial, KW.out⟩))
    go_cut [19] from 57 to 69 (fun s wx => ∃ z, s = .int .i64 z ∧ W = wx)
    case first =>
      have h := HKI.out.kp KW.out
      cases kind with
      | none =>
        go_wp2_with fail
        go_meet
        case rel => exact ⟨_, rfl, rfl⟩
      | some a =>
        have h : W.cell? a = some (.string ki) := h
        go_wp2_with fail
        try (any_goals (go_ret; exact ⟨false, rfl, fun _ => trivial, KW.out⟩))
        go_meet
        case rel => exact ⟨_, rfl, rfl⟩
    case rest =>
      obtain ⟨z2, rfl, rfl⟩ := hcut
      go_upto_if 71 with fail
      try (any_goals (go_ret; exact ⟨false, rfl, fun _ => trivial, KW.out⟩))
      go_cut [19] from 72 to 84 (fun s wx => ∃ z, s = .int .i64 z ∧ W = wx)
      case first =>
        have h := HST.out.kp KW.out
        cases status with
        | none =>
          go_wp2_with fail
          go_meet
          case rel => exact ⟨_, rfl, rfl⟩
        | some a =>
          have h : W.cell? a = some (.string st) := h
          go_wp2_with fail
          try (any_goals (go_ret; exact ⟨false, rfl, fun _ => trivial, KW.out⟩))
          go_meet
          case rel => exact ⟨_, rfl, rfl⟩
      case rest =>
        obtain ⟨z3, rfl, rfl⟩ := hcut
        go_wp2_with fail
        try (any_goals (go_ret; exact ⟨false, rfl, fun _ => trivial, KW.out⟩))
        go_loopw [19, 20] (fun s i wr => ∃ (k : Nat) (z : Int), k ≤ n ∧ i = .int .i64 k ∧ s = .int .i64 z ∧ W = wr) (fun s i _ => n - (intOf i).toNat)
        case atStart => exact ⟨0, _, Nat.zero_le _, rfl, rfl, rfl⟩
        case round =>
          obtain ⟨k, z, hk, rfl, rfl, rfl⟩ := hrel
          by_cases hlt : k < n
          · obtain ⟨l, hl⟩ : ∃ l, ls[k]? = some l := ⟨ls[k]'(by rw [← HN.out]; exact hlt), by simp⟩
            obtain ⟨b, o, ha, c0, c1⟩ := (HL.out.kp KW.out) k l hl
            subst ha
            clear hl c1
            go_wp2_with fail
            all_goals first
              | (go_ret; exact ⟨false, rfl, fun _ => trivial, KW.out⟩)
              | exact ⟨⟨k + 1, _, by omega, by go_num, rfl, trivial⟩, by simp [intOf]; omega⟩
          · have hkn : n = k := by omega
            subst hkn
            go_wp2_with fail
            try (any_goals (go_ret; exact ⟨false, rfl, fun _ => trivial, KW.out⟩))
            go_loopw [19, 21] (fun s i wr => ∃ (k : Nat) (z : Int), k ≤ m ∧ i = .int .i64 k ∧ s = .int .i64 z ∧ W = wr) (fun s i _ => m - (intOf i).toNat)
            case atStart => exact ⟨0, _, Nat.zero_le _, rfl, rfl, rfl⟩
            case round =>
              obtain ⟨k, z, hk, rfl, rfl, rfl⟩ := hrel
              by_cases hlt : k < m
              · obtain ⟨p, hp⟩ : ∃ p, ps[k]? = some p := ⟨ps[k]'(by rw [← HM.out]; exact hlt), by simp⟩
                obtain ⟨b, o, ha, rp, hres, hcs⟩ := (HP.out.kp KW.out) k p hp
                obtain ⟨so, hold⟩ := (HO.out.kp KW.out) k p hp
                subst ha
                obtain ⟨ty, ⟨cty, ctext, cmime, curi, cname, cres⟩, path, old, new, term⟩ := p
                simp only [Pt.cells] at hcs
                dsimp only at hres hold
                have c0 := hcs 0 _ rfl
                have c1 := hcs 1 _ rfl
                have c2 := hcs 2 _ rfl
                have c3 := hcs 3 _ rfl
                have c4 := hcs 4 _ rfl
                have c5 := hcs 5 _ rfl
                have c6 := hcs 6 _ rfl
                have c7 := hcs 7 _ rfl
                have c8 := hcs 8 _ rfl
                have c9 := hcs 9 _ rfl
                have c10 := hcs 10 _ rfl
                simp only [Nat.add_zero] at c0
                clear hcs hp
                go_upto_if 250 with fail
                try (any_goals (go_ret; exact ⟨false, rfl, fun _ => trivial, KW.out⟩))
                go_cut [19] from 251 to 325 (fun s wx => ∃ z, s = .int .i64 z ∧ W = wx)
                case first => as_aux_lemma =>
                  cases cres with
                  | none =>
                    have e : rp = none := hres
                    subst e
                    go_wp2_with fail
                    go_meet
                    case rel => exact ⟨_, rfl, rfl⟩
                  | some r =>
                    obtain ⟨b2, o2, rfl, r0, r1, r2⟩ := hres
                    go_wp2_with fail
                    try (any_goals (go_ret; exact ⟨false, rfl, fun _ => trivial, KW.out⟩))
                    go_meet
                    case rel => exact ⟨_, rfl, rfl⟩
                case rest => as_aux_lemma =>
                  obtain ⟨z5, rfl, rfl⟩ := hcut
                  go_upto_if 348 with fail
                  try (any_goals (go_ret; exact ⟨false, rfl, fun _ => trivial, KW.out⟩))
                  go_cut [19] from 349 to 369 (fun s wx => ∃ z, s = .int .i64 z ∧ W = wx)
                  case first => as_aux_lemma =>
                    cases old with
                    | none =>
                      go_wp2_with fail
                      go_meet
                      case rel => exact ⟨_, rfl, rfl⟩
                    | some a =>
                      have hold : W.cell? a = some (.string so) := hold
                      go_wp2_with fail
                      try (any_goals (go_ret; exact ⟨false, rfl, fun _ => trivial, KW.out⟩))
                      go_meet
                      case rel => exact ⟨_, rfl, rfl⟩
                  case rest => as_aux_lemma =>
                    obtain ⟨z6, rfl, rfl⟩ := hcut
                    go_wp2_with fail
                    try (any_goals (go_ret; exact ⟨false, rfl, fun _ => trivial, KW.out⟩))
                    go_roundw
                    case rel => (repeat apply Exists.intro); exact ⟨⟨k + 1, _, by omega, by go_num, rfl, rfl⟩, rfl⟩
                    case measure => exact (by simp [intOf]; omega : m - (intOf (.int .i64 ((k : Int) + 1))).toNat < m - (intOf (.int .i64 (k : Int))).toNat)
              · have hkn : m = k := by omega
                subst hkn
                have x0 : W.cell? ⟨w.heap.size, 0, none⟩ = _ := cell_at HBX.out 0
                have x1 : W.cell? ⟨w.heap.size, 1, none⟩ = _ := cell_at HBX.out 1
                have x2 : W.cell? ⟨w.heap.size, 2, none⟩ = _ := cell_at HBX.out 2
                have x3 : W.cell? ⟨w.heap.size, 3, none⟩ = _ := cell_at HBX.out 3
                have x4 : W.cell? ⟨w.heap.size, 4, none⟩ = _ := cell_at HBX.out 4
                have x5 : W.cell? ⟨w.heap.size, 5, none⟩ = _ := cell_at HBX.out 5
                have x6 : W.cell? ⟨w.heap.size, 6, none⟩ = _ := cell_at HBX.out 6
                have x7 : W.cell? ⟨w.heap.size, 7, none⟩ = _ := cell_at HBX.out 7
                have x8 : W.cell? ⟨w.heap.size, 8, none⟩ = _ := cell_at HBX.out 8
                have x9 : W.cell? ⟨w.heap.size, 9, none⟩ = _ := cell_at HBX.out 9
                have x10 : W.cell? ⟨w.heap.size, 10, none⟩ = _ := cell_at HBX.out 10
                simp at x0 x1 x2 x3 x4 x5 x6 x7 x8 x9 x10
                go_upto_if 483 with fail
                try (any_goals (go_ret; exact ⟨false, rfl, fun _ => trivial, KW.out⟩))
                go_cut [19] from 484 to 540 (fun s wx => ∃ z, s = .int .i64 z ∧ W = wx)
                case first => as_aux_lemma =>
                  have hres := HXR.out
                  cases xcres with
                  | none =>
                    have e : xr = none := hres
                    subst e
                    go_wp2_with fail
                    go_meet
                    case rel => exact ⟨_, rfl, rfl⟩
                  | some r =>
                    obtain ⟨b2, o2, rfl, r0, r1, r2⟩ := hres
                    go_wp2_with fail
                    try (any_goals (go_ret; exact ⟨false, rfl, fun _ => trivial, KW.out⟩))
                    go_meet
                    case rel => exact ⟨_, rfl, rfl⟩
                case rest => as_aux_lemma =>
                  obtain ⟨z7, rfl, rfl⟩ := hcut
                  go_upto_if 554 with fail
                  try (any_goals (go_ret; exact ⟨false, rfl, fun _ => trivial, KW.out⟩))
                  go_cut [19] from 555 to 569 (fun s wx => ∃ z, s = .int .i64 z ∧ W = wx)
                  case first => as_aux_lemma =>
                    have hold := HXO.out
                    cases xold with
                    | none =>
                      go_wp2_with fail
                      go_meet
                      case rel => exact ⟨_, rfl, rfl⟩
                    | some a =>
                      have hold : W.cell? a = some (.string xso) := hold
                      go_wp2_with fail
                      try (any_goals (go_ret; exact ⟨false, rfl, fun _ => trivial, KW.out⟩))
                      go_meet
                      case rel => exact ⟨_, rfl, rfl⟩
                  case rest => as_aux_lemma =>
                    obtain ⟨z8, rfl, rfl⟩ := hcut
                    go_wp2_with fail
                    all_goals first
                      | (go_ret; exact ⟨false, rfl, fun _ => trivial, KW.out⟩)
                      | (go_ret; exact ⟨true, rfl, fun _ => trivial, KW.out⟩)

end Go.Proofs.Qxb6613960a
