/-
  zzPartBytes, walked: some number.
-/
import Derived.Test.Qxb6613960aHd
set_option linter.unusedVariables false
set_option linter.unusedSimpArgs false
namespace Go.Proofs.Qxb6613960a
open Go.RowKit

/-- A string lies behind the pointer, if it is one. -/
def OldIn (w : World) (p : Option Addr) : Prop := ∃ s, SP w p s
theorem OldIn.kp {w w' : World} {p : Option Addr} (h : OldIn w p) (k : Kp [] w w') : OldIn w' p := by
  obtain ⟨s, hs⟩ := h; exact ⟨s, hs.kp k⟩

set_option maxRecDepth 100000 in
set_option maxHeartbeats 4000000 in
theorem partBytes (p : Pt) (rp : Option Addr) (w : World) (hr : ResIn w rp p.c.res) (ho : OldIn w p.old) :
    Calls Try.prog 15 #[.agg (p.cells rp).toArray] w fun e w' => ∃ z, e = .returned (.int .i64 z) ∧ Kp [] w w' := by
  obtain ⟨ty, ⟨cty, ctext, cmime, curi, cname, cres⟩, path, old, new, term⟩ := p
  simp only [Pt.cells]
  dsimp only at hr ho
  obtain ⟨so, hso⟩ := ho
  cases cres with
  | none =>
    have e : rp = none := hr
    subst e
    cases old with
    | none =>
      go_enter Try.func15, Try.ntmps15
      go_wp2_with fail
      go_ret
      exact ⟨_, rfl, (Kp.refl _ _).alloc _⟩
    | some a =>
      have hso : w.cell? a = some (.string so) := hso
      have hne := lt_of_cell hso
      go_enter Try.func15, Try.ntmps15
      go_wp2_with fail
      go_ret
      exact ⟨_, rfl, (Kp.refl _ _).alloc _⟩
  | some r =>
    obtain ⟨b, o, rfl, r0, r1, r2⟩ := hr
    have hne := lt_of_cell r0
    cases old with
    | none =>
      go_enter Try.func15, Try.ntmps15
      go_wp2_with fail
      go_quiet (fail)
      all_goals
        go_wp2_with fail
        go_ret
        exact ⟨_, rfl, ((Kp.refl _ _).alloc _).drewN _⟩
    | some a =>
      have hso : w.cell? a = some (.string so) := hso
      have hne := lt_of_cell hso
      go_enter Try.func15, Try.ntmps15
      go_wp2_with fail
      go_quiet (fail)
      all_goals
        go_wp2_with fail
        go_ret
        exact ⟨_, rfl, ((Kp.refl _ _).alloc _).drewN _⟩

end Go.Proofs.Qxb6613960a
