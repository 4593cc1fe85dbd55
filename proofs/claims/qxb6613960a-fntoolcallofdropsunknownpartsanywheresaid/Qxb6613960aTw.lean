/-
  zzToolWithin, walked: some Boolean; true: the lengths are at most 65536.
-/
import Derived.Test.Qxb6613960aPb
set_option linter.unusedVariables false
set_option linter.unusedSimpArgs false
namespace Go.Proofs.Qxb6613960a
open Go.RowKit

def Olds (w : World) (ps : List Pt) : Prop := ∀ (k : Nat) (p : Pt), ps[k]? = some p → OldIn w p.old
theorem Olds.kp {w w' : World} {ps : List Pt} (h : Olds w ps) (k : Kp [] w w') : Olds w' ps := fun i p hp => (h i p hp).kp k

/-- Some Boolean; true says X. -/
def BoolSays (X : Prop) (w : World) (e : Ending) (w' : World) : Prop := ∃ b, e = .returned (.bool b) ∧ (b = true → X) ∧ Kp [] w w'

set_option maxRecDepth 100000 in
set_option maxHeartbeats 4000000 in
theorem toolWithin (typ id ti ki st : ByteArray) (title kind status : Option Addr) (ls : List Lc) (la : Option Addr) (lc : Nat) (ps : List Pt) (pa : Option Addr) (pc : Nat) (L : Int) (w : World)
    (hti : SP w title ti) (hki : SP w kind ki) (hsta : SP w status st) (hL : LSl w la ls) (hP : PSl w pa ps) (hO : Olds w ps) :
    Calls Try.prog 7 #[.string typ, .string id, .pointer title, .pointer kind, .pointer status, .slice la ls.length lc, .slice pa ps.length pc, .int .i64 L] w fun e w' =>
      BoolSays (ls.length ≤ 65536 ∧ ps.length ≤ 65536) w e w' := by
  obtain ⟨n, hn⟩ : ∃ n, n = ls.length := ⟨_, rfl⟩
  obtain ⟨m, hm⟩ : ∃ m, m = ps.length := ⟨_, rfl⟩
  rw [← hn, ← hm]
  have HN := hid hn
  have HM := hid hm
  have HL := hid hL
  have HP := hid hP
  have HO := hid hO
  have D0 := hid (deref_all title ti w hti)
  have D1 := hid (deref_all kind ki w hki)
  have D2 := hid (deref_all status st w hsta)
  clear hn hm hL hP hO hti hki hsta
  by_cases h1 : n ≤ 65536
  case neg =>
    have g1 : (65536 : Int) < (n : Int) := by omega
    go_enter Try.func7, Try.ntmps7
    go_wp2_with fail
    go_ret
    exact ⟨false, rfl, by simp, Kp.refl _ _⟩
  by_cases h2 : m ≤ 65536
  case neg =>
    have g1 : ¬ (65536 : Int) < (n : Int) := by omega
    have g2 : (65536 : Int) < (m : Int) := by omega
    clear h1 h2
    go_enter Try.func7, Try.ntmps7
    go_wp2_with fail
    go_ret
    exact ⟨false, rfl, by simp, Kp.refl _ _⟩
  have HB := hid (And.intro h1 h2)
  have g1 : ¬ (65536 : Int) < (n : Int) := by omega
  have g2 : ¬ (65536 : Int) < (m : Int) := by omega
  clear h1 h2
  go_enter Try.func7, Try.ntmps7
  go_upto_region 3 with fail
  go_cut [17] (fun s wx => ∃ z, s = .int .i64 z ∧ w = wx)
  case first =>
    go_wp2_with fail
    refine D0.out.mono ?_
    rintro e w1 ⟨rfl, rfl⟩
    go_wp2_with fail
    refine D1.out.mono ?_
    rintro e w1 ⟨rfl, rfl⟩
    go_wp2_with fail
    refine D2.out.mono ?_
    rintro e w1 ⟨rfl, rfl⟩
    go_wp2_with fail
    go_meet
    case rel => exact ⟨_, rfl, rfl⟩
  case rest =>
    obtain ⟨z0, rfl, rfl⟩ := hcut
    by_cases hz : L < z0
    · go_wp2_with fail
      go_ret
      exact ⟨false, rfl, by simp, Kp.refl _ _⟩
    · go_wp2_with fail
      go_loopw [17, 18] (fun s i wr => ∃ (k : Nat) (z : Int), k ≤ n ∧ i = .int .i64 k ∧ s = .int .i64 z ∧ w = wr) (fun s i _ => n - (intOf i).toNat)
      case atStart => exact ⟨0, _, Nat.zero_le _, rfl, rfl, rfl⟩
      case round =>
        obtain ⟨k, z, hk, rfl, rfl, rfl⟩ := hrel
        by_cases hlt : k < n
        · obtain ⟨l, hl⟩ : ∃ l, ls[k]? = some l := ⟨ls[k]'(by rw [← HN.out]; exact hlt), by simp⟩
          obtain ⟨b, o, ha, c0, c1⟩ := HL.out k l hl
          subst ha
          clear hl c1
          go_wp2_with fail
          all_goals first
            | exact ⟨⟨k + 1, _, by omega, by go_num, rfl, trivial⟩, by simp [intOf]; omega⟩
            | (go_ret; exact ⟨false, rfl, by simp, Kp.refl _ _⟩)
        · have hkn : n = k := by omega
          subst hkn
          go_wp2_with fail
          go_loopw [17, 19] (fun s i wr => ∃ (k : Nat) (z : Int), k ≤ m ∧ i = .int .i64 k ∧ s = .int .i64 z ∧ Kp [] w wr) (fun s i _ => m - (intOf i).toNat)
          case atStart => exact ⟨0, _, Nat.zero_le _, rfl, rfl, Kp.refl _ _⟩
          case round =>
            obtain ⟨k, z, hk, rfl, rfl, hK⟩ := hrel
            by_cases hlt : k < m
            · obtain ⟨p, hp⟩ : ∃ p, ps[k]? = some p := ⟨ps[k]'(by rw [← HM.out]; exact hlt), by simp⟩
              obtain ⟨b, o, ha, rp, hres, hcs⟩ := HP.out k p hp
              have hold := HO.out k p hp
              subst ha
              have c0 := hK.cell (hcs 0 _ rfl) (by simp)
              have c1 := hK.cell (hcs 1 _ rfl) (by simp)
              have c2 := hK.cell (hcs 2 _ rfl) (by simp)
              have c3 := hK.cell (hcs 3 _ rfl) (by simp)
              have c4 := hK.cell (hcs 4 _ rfl) (by simp)
              have c5 := hK.cell (hcs 5 _ rfl) (by simp)
              have c6 := hK.cell (hcs 6 _ rfl) (by simp)
              have c7 := hK.cell (hcs 7 _ rfl) (by simp)
              have c8 := hK.cell (hcs 8 _ rfl) (by simp)
              have c9 := hK.cell (hcs 9 _ rfl) (by simp)
              have c10 := hK.cell (hcs 10 _ rfl) (by simp)
              simp only [Nat.add_zero] at c0
              have C := hid (partBytes p rp wr (hres.kp hK) (hold.kp hK))
              have HK := hid hK
              clear hcs hp hK hres hold
              go_wp2_with fail
              refine C.out.mono ?_
              rintro e w1 ⟨y, rfl, k1⟩
              have K2 := hid (HK.out.trans k1)
              clear k1
              go_wp2_with fail
              all_goals first
                | exact ⟨⟨k + 1, _, by omega, by go_num, rfl, K2.out⟩, by simp [intOf]; omega⟩
                | (go_ret; exact ⟨false, rfl, by simp, K2.out⟩)
            · have hkn : m = k := by omega
              subst hkn
              have HK := hid hK
              go_wp2_with fail
              go_ret
              exact ⟨true, rfl, fun _ => HB.out, HK.out⟩

end Go.Proofs.Qxb6613960a
