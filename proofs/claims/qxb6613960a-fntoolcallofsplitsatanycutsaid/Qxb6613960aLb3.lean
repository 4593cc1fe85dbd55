/-
  The first law at whatever cuts.
-/
import Derived.Test.Qxb6613960aLa3
set_option linter.unusedVariables false
set_option linter.unusedSimpArgs false
namespace Go.Proofs.Qxb6613960a
open Go.RowKit

set_option maxRecDepth 100000 in
set_option maxHeartbeats 2000000 in
theorem law3_out (typ id ti ki st : ByteArray) (title kind status : Option Addr) (ls : List Lc) (la : Option Addr) (lc : Nat) (ps : List Pt) (pa : Option Addr) (pc : Nat) (L M : Int) (w : World)
    (hti : SP w title ti) (hki : SP w kind ki) (hsta : SP w status st) (hL : LSl w la ls) (hP : PSl w pa ps) (hO : Olds w ps)
    (hbad : L < 0 ∨ (¬ L < 0 ∧ (ls.length : Int) < L) ∨ (¬ L < 0 ∧ ¬ (ls.length : Int) < L ∧ M < 0) ∨ (¬ L < 0 ∧ ¬ (ls.length : Int) < L ∧ ¬ M < 0 ∧ (ps.length : Int) < M)) :
    Calls Try.prog 3 #[.string typ, .string id, .pointer title, .pointer kind, .pointer status, .slice la ls.length lc, .slice pa ps.length pc, .int .i64 L, .int .i64 M] w fun e w' => e = .returned (.bool true) ∧ Kp [] w w' := by
  have B := hid (bytes3 typ id ti ki st title kind status ls la lc ps pa pc L M w hti hki hsta hL hP hO)
  have HTI := hid hti
  have HKI := hid hki
  have HST := hid hsta
  have HL := hid hL
  have HP := hid hP
  have HO := hid hO
  clear hti hki hsta hL hP hO
  rcases hbad with h1 | ⟨h1, h2⟩ | ⟨h1, h2, h3⟩ | ⟨h1, h2, h3, h4⟩
  all_goals
    go_enter Try.func3, Try.ntmps3
    go_wp2_with fail
    refine B.out.mono ?_
    rintro e w1 ⟨b, rfl, -, k1⟩
    cases b with
    | false =>
      go_wp2_with fail
      go_ret
      exact ⟨rfl, k1⟩
    | true =>
      go_wp2_with fail
      refine (toolWithin typ id ti ki st title kind status ls la lc ps pa pc 1048576 w1 (HTI.out.kp k1) (HKI.out.kp k1) (HST.out.kp k1) (HL.out.kp k1) (HP.out.kp k1) (HO.out.kp k1)).mono ?_
      rintro e w2 ⟨b, rfl, -, k2⟩
      have K2 := hid (k1.trans k2)
      clear k1 k2
      cases b with
      | false =>
        go_wp2_with fail
        go_ret
        exact ⟨rfl, K2.out⟩
      | true =>
        go_wp2_with fail
        go_ret
        exact ⟨rfl, K2.out⟩

theorem law3_all (typ id ti ki st : ByteArray) (title kind status : Option Addr) (ls : List Lc) (la : Option Addr) (lc : Nat) (ps : List Pt) (pa : Option Addr) (pc : Nat) (L M : Int) (w : World)
    (hti : SP w title ti) (hki : SP w kind ki) (hsta : SP w status st) (hL : LSl w la ls) (hP : PSl w pa ps) (hO : Olds w ps) (hln : la = none → ls = [] ∧ lc = 0) (hpn : pa = none → ps = [] ∧ pc = 0)
    (hlc : ls.length ≤ lc) (hpc : ps.length ≤ pc) :
    Calls Try.prog 3 #[.string typ, .string id, .pointer title, .pointer kind, .pointer status, .slice la ls.length lc, .slice pa ps.length pc, .int .i64 L, .int .i64 M] w fun e w' => e = .returned (.bool true) ∧ Below w.heap.size w w' := by
  have fin : ∀ e w', (e = Ending.returned (.bool true) ∧ Kp [] w w') → e = .returned (.bool true) ∧ Below w.heap.size w w' := fun e w' h => ⟨h.1, h.2.below _ (Nat.le_refl _) (by simp)⟩
  by_cases h1 : L < 0
  · exact (law3_out typ id ti ki st title kind status ls la lc ps pa pc L M w hti hki hsta hL hP hO (Or.inl h1)).mono fin
  by_cases h2 : (ls.length : Int) < L
  · exact (law3_out typ id ti ki st title kind status ls la lc ps pa pc L M w hti hki hsta hL hP hO (Or.inr (Or.inl ⟨h1, h2⟩))).mono fin
  by_cases h3 : M < 0
  · exact (law3_out typ id ti ki st title kind status ls la lc ps pa pc L M w hti hki hsta hL hP hO (Or.inr (Or.inr (Or.inl ⟨h1, h2, h3⟩)))).mono fin
  by_cases h4 : (ps.length : Int) < M
  · exact (law3_out typ id ti ki st title kind status ls la lc ps pa pc L M w hti hki hsta hL hP hO (Or.inr (Or.inr (Or.inr ⟨h1, h2, h3, h4⟩)))).mono fin
  obtain ⟨l, rfl⟩ := Int.eq_ofNat_of_zero_le (show 0 ≤ L by omega)
  obtain ⟨m, rfl⟩ := Int.eq_ofNat_of_zero_le (show 0 ≤ M by omega)
  have e1 : (ls.take l).length = l := by rw [List.length_take]; omega
  have e2 : (ps.take m).length = m := by rw [List.length_take]; omega
  have := law3_in typ id ti ki st title kind status ls (ls.take l) (ls.drop l) la lc ps (ps.take m) (ps.drop m) pa pc w (List.take_append_drop _ _).symm (List.take_append_drop _ _).symm hti hki hsta hL hP hO hln hpn hlc hpc
  rw [e1, e2] at this
  exact this.mono fin

end Go.Proofs.Qxb6613960a
