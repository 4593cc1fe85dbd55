/-
  What the walks of the two laws on readBlock share.
-/
import Derived.Test.Qxb6613256aFmtBx
set_option linter.unusedVariables false
set_option linter.unusedSimpArgs false
namespace Go.Proofs.Qxb6613256aFmt
open Go.RowKit Go.Extern.Stop Go.Stop Go.Extern

set_option maxHeartbeats 400000 in
theorem bytes26_any (a : Option Addr) (len cap : Nat) (c1 : Value) (w : World) (hl : len ≤ 9223372036854775807) :
    Calls Tryf.prog 26 #[.slice a len cap, c1] w fun e w' => ∃ b, e = .returned (.bool b) ∧ (b = true → len ≤ 1048576) ∧ w' = w := by
  go_enter Tryf.func26, Tryf.ntmps26
  go_wp2
  all_goals
    go_ret
    refine ⟨_, rfl, ?_, rfl⟩
    intro hb
    first | (cases hb; done) | omega
set_option maxHeartbeats 400000 in
theorem bytes30_any (a : Option Addr) (len cap : Nat) (c1 : Value) (w : World) (hl : len ≤ 9223372036854775807) :
    Calls Tryf.prog 30 #[.slice a len cap, c1] w fun e w' => ∃ b, e = .returned (.bool b) ∧ (b = true → len ≤ 1048576) ∧ w' = w := by
  go_enter Tryf.func30, Tryf.ntmps30
  go_wp2
  all_goals
    go_ret
    refine ⟨_, rfl, ?_, rfl⟩
    intro hb
    first | (cases hb; done) | omega

/-- A slice cut at o of a copy of the call's own. -/
theorem BySl.cut {w : World} {bb : Nat} {zs : List Int} (h : BySl w (some ⟨bb, 0, none⟩) zs) (o : Nat) : Src w (some ⟨bb, o, none⟩) (zs.drop o) := by
  rcases h with ⟨h, _⟩ | ⟨b, h, hb⟩
  · cases h
  · cases h
    refine Or.inr ⟨_, rfl, fun j v hj => ?_⟩
    have : (⟨bb, o, none⟩ : Addr).add j = ⟨bb, o + j, none⟩ := by unfold Addr.add; split <;> simp_all
    rw [this, cell_at hb]
    simpa [bs] using hj
theorem clone_some_any (ad : Addr) (len cap : Nat) (zs : List Int) (w : World) (hz : zs.length = len) (hl : len ≤ 1048576) (h : Src w (some ad) zs) :
    Calls Tryf.prog 17 #[.slice (some ad) len cap] w fun e w' =>
      ∃ bb, e = .returned (.slice (some ⟨bb, 0, none⟩) len len) ∧ BySl w' (some ⟨bb, 0, none⟩) zs ∧ w.heap.size ≤ bb ∧ Kp [] w w' := by
  rcases h with ⟨h, _⟩ | ⟨ad', h, hc⟩
  · cases h
  · cases h
    refine (clone_some ad len cap zs w hz hl hc).mono ?_
    rintro e w' ⟨rfl, h1, h2⟩
    exact ⟨_, rfl, Or.inr ⟨_, rfl, h1⟩, Nat.le_refl _, h2⟩
theorem src_empty (w : World) (ad : Addr) : Src w (some ad) [] := Or.inr ⟨ad, rfl, fun j v hj => by simp at hj⟩

end Go.Proofs.Qxb6613256aFmt
