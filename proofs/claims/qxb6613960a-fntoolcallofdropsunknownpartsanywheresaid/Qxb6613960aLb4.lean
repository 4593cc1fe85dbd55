/-
  The second law at whatever position.
-/
import Derived.Test.Qxb6613960aLa4
set_option linter.unusedVariables false
set_option linter.unusedSimpArgs false
namespace Go.Proofs.Qxb6613960a
open Go.RowKit

attribute [-go_sem] loadVar

set_option maxRecDepth 100000 in
set_option maxHeartbeats 2000000 in
theorem law4_out (typ id ti ki st : ByteArray) (title kind status : Option Addr) (ls : List Lc) (la : Option Addr) (lc : Nat) (ps : List Pt) (pa : Option Addr) (pc : Nat) (L : Int) (xp : Pt) (xr : Option Addr) (w : World)
    (hti : SP w title ti) (hki : SP w kind ki) (hsta : SP w status st) (hL : LSl w la ls) (hP : PSl w pa ps) (hO : Olds w ps) (hxr : ResIn w xr xp.c.res) (hxo : OldIn w xp.old)
    (hbad : L < 0 ∨ (¬ L < 0 ∧ (ps.length : Int) < L)) :
    Calls Try.prog 4 #[.string typ, .string id, .pointer title, .pointer kind, .pointer status, .slice la ls.length lc, .slice pa ps.length pc, .int .i64 L, .agg (xp.cells xr).toArray] w fun e w' => e = .returned (.bool true) ∧ Kp [] w w' := by
  have HTI := hid hti
  have HKI := hid hki
  have HST := hid hsta
  have HL := hid hL
  have HP := hid hP
  have HO := hid hO
  have HXR := hid hxr
  have HXO := hid hxo
  clear hti hki hsta hL hP hO hxr hxo
  rcases hbad with h1 | ⟨h1, h2⟩
  all_goals
    go_enter Try.func4, Try.ntmps4
    go_upto_region 1 with fail
    generalize hW : w.alloc _ = W0
    have kW : Kp [] w W0 := by rw [← hW]; exact (Kp.refl _ _).alloc _
    have hbx : W0.heap[w.heap.size]? = some (.cells (xp.cells xr).toArray 63 (0, 0)) := by rw [← hW]; exact heap_push _ _
    have HBX : Hid (∀ (j : Nat) (v : Value), (xp.cells xr)[j]? = some v → W0.cell? ⟨w.heap.size, 0 + j, none⟩ = some v) := hid (fun j v hv => by rw [cell_at hbx]; simpa using hv)
    have KW := hid kW
    clear hW kW hbx
    have hx63 := load63 HBX.out
    go_wp2_with fail
    refine (bytes4 typ id ti ki st title kind status ls la lc ps pa pc L xp xr W0 (HXR.out.kp KW.out) (HXO.out.kp KW.out) (HTI.out.kp KW.out) (HKI.out.kp KW.out) (HST.out.kp KW.out) (HL.out.kp KW.out) (HP.out.kp KW.out) (HO.out.kp KW.out)).mono ?_
    rintro e w1 ⟨b, rfl, -, k1⟩
    have K1 := hid (KW.out.trans k1)
    cases b with
    | false =>
      go_wp2_with fail
      go_ret
      exact ⟨rfl, K1.out⟩
    | true =>
      have HBX : Hid (∀ (j : Nat) (v : Value), (xp.cells xr)[j]? = some v → w1.cell? ⟨w.heap.size, 0 + j, none⟩ = some v) := hid (fun j v hv => k1.cell (HBX.out j v hv) (by simp))
      clear k1 hx63
      have hx63 := load63 HBX.out
      go_wp2_with fail
      refine (partBytes xp xr w1 (HXR.out.kp K1.out) (HXO.out.kp K1.out)).mono ?_
      rintro e w2 ⟨z, rfl, k2⟩
      have K2 := hid (K1.out.trans k2)
      clear k2 hx63 K1
      by_cases hz : 65536 < z
      · go_wp2_with fail
        go_ret
        exact ⟨rfl, K2.out⟩
      · go_wp2_with fail
        refine (toolWithin typ id ti ki st title kind status ls la lc ps pa pc 983040 w2 (HTI.out.kp K2.out) (HKI.out.kp K2.out) (HST.out.kp K2.out) (HL.out.kp K2.out) (HP.out.kp K2.out) (HO.out.kp K2.out)).mono ?_
        rintro e w3 ⟨b, rfl, -, k3⟩
        have K3 := hid (K2.out.trans k3)
        clear k3 K2
        cases b with
        | false =>
          go_wp2_with fail
          go_ret
          exact ⟨rfl, K3.out⟩
        | true =>
          go_wp2_with fail
          go_ret
          exact ⟨rfl, K3.out⟩

theorem law4_all (typ id ti ki st : ByteArray) (title kind status : Option Addr) (ls : List Lc) (la : Option Addr) (lc : Nat) (ps : List Pt) (pa : Option Addr) (pc : Nat) (L : Int) (xp : Pt) (xr : Option Addr) (w : World)
    (hti : SP w title ti) (hki : SP w kind ki) (hsta : SP w status st) (hL : LSl w la ls) (hP : PSl w pa ps) (hO : Olds w ps) (hln : la = none → ls = [] ∧ lc = 0) (hpn : pa = none → ps = [] ∧ pc = 0) (hxr : ResIn w xr xp.c.res) (hxo : OldIn w xp.old) :
    Calls Try.prog 4 #[.string typ, .string id, .pointer title, .pointer kind, .pointer status, .slice la ls.length lc, .slice pa ps.length pc, .int .i64 L, .agg (xp.cells xr).toArray] w fun e w' => e = .returned (.bool true) ∧ Below w.heap.size w w' := by
  have fin : ∀ e w', (e = Ending.returned (.bool true) ∧ Kp [] w w') → e = .returned (.bool true) ∧ Below w.heap.size w w' := fun e w' h => ⟨h.1, h.2.below _ (Nat.le_refl _) (by simp)⟩
  by_cases h1 : L < 0
  · exact (law4_out typ id ti ki st title kind status ls la lc ps pa pc L xp xr w hti hki hsta hL hP hO hxr hxo (Or.inl h1)).mono fin
  by_cases h2 : (ps.length : Int) < L
  · exact (law4_out typ id ti ki st title kind status ls la lc ps pa pc L xp xr w hti hki hsta hL hP hO hxr hxo (Or.inr ⟨h1, h2⟩)).mono fin
  obtain ⟨m, rfl⟩ := Int.eq_ofNat_of_zero_le (show 0 ≤ L by omega)
  have e2 : (ps.take m).length = m := by rw [List.length_take]; omega
  have := law4_in typ id ti ki st title kind status ls la lc ps (ps.take m) (ps.drop m) pa pc xp xr w (List.take_append_drop _ _).symm hti hki hsta hL hP hO hln hpn hxr hxo
  rw [e2] at this
  exact this.mono fin

end Go.Proofs.Qxb6613960a
