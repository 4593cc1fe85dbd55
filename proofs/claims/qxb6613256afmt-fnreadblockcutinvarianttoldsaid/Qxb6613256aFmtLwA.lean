/-
  zzClone, whole; what the walks of the law FnHeaderVersionHeldAcrossMessages share.
-/
import Derived.Test.Qxb6613256aFmtHdX
set_option linter.unusedVariables false
set_option linter.unusedSimpArgs false
namespace Go.Proofs.Qxb6613256aFmt
open Go.RowKit Go.Extern.Stop Go.Stop Go.Extern

/-- A slice value of bytes, wherever it lies, nil or not. -/
def Src (w : World) (a : Option Addr) (zs : List Int) : Prop :=
  (a = none ∧ zs = []) ∨ ∃ ad, a = some ad ∧ ∀ j v, (zs.map (Value.int .u8))[j]? = some v → w.cell? (ad.add j) = some v
theorem hid {p : Prop} (h : p) : Hid p := h
theorem BySl.src {w : World} {a : Option Addr} {zs : List Int} (h : BySl w a zs) : Src w a zs := by
  rcases h with h | ⟨bb, rfl, h⟩
  · exact Or.inl h
  · refine Or.inr ⟨_, rfl, fun j v hj => ?_⟩
    have : (⟨bb, 0, none⟩ : Addr).add j = ⟨bb, j, none⟩ := by unfold Addr.add; split <;> simp_all
    rw [this, cell_at h]
    simpa [bs] using hj

theorem clone_any (a : Option Addr) (len cap : Nat) (zs : List Int) (w : World) (hz : zs.length = len) (hcap : a = none → cap = 0) (hl : len ≤ 1048576) (h : Src w a zs) :
    Calls Tryf.prog 17 #[.slice a len cap] w fun e w' =>
      ∃ a', e = .returned (.slice a' len len) ∧ BySl w' a' zs ∧ (∀ b, a' = some ⟨b, 0, none⟩ → w.heap.size ≤ b) ∧ Kp [] w w' := by
  rcases h with ⟨rfl, rfl⟩ | ⟨ad, rfl, hc⟩
  · obtain rfl := hcap rfl
    simp at hz
    subst hz
    refine (clone_nil w).mono ?_
    rintro e w' ⟨rfl, rfl⟩
    exact ⟨none, rfl, Or.inl ⟨rfl, rfl⟩, fun b hb => (by cases hb), Kp.refl _ _⟩
  · refine (clone_some ad len cap zs w hz hl hc).mono ?_
    rintro e w' ⟨rfl, h1, h2⟩
    exact ⟨_, rfl, Or.inr ⟨_, rfl, h1⟩, fun b hb => (by cases hb; exact Nat.le_refl _), h2⟩

theorem hver_keeps (h0 h1 v c h4 : Int) (h : hok h0 h1 v c = true) : hver h4 (hver h0 v) = hver h0 v := by
  unfold hok at h
  have : hver h0 v ≠ 0 := by
    unfold hver
    by_cases v0 : v = 0
    · simp [v0] at h
      rcases h.2 with e | e <;> simp [v0, e]
    · simp [v0]
  generalize hver h0 v = u at this
  simp [hver, this]

end Go.Proofs.Qxb6613256aFmt
