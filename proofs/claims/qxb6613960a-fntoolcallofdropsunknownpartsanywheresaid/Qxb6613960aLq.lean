/-
  A row of parts that is appended to.
-/
import Derived.Test.Qxb6613960aLp
import Derived.Test.Qxb6613960aPs
set_option linter.unusedVariables false
set_option linter.unusedSimpArgs false
namespace Go.Proofs.Qxb6613960a
open Go.RowKit

def pflat (out : List (Pt × Option Addr)) : List Value := out.flatMap fun x => x.1.cells x.2
theorem pflat_append (out : List (Pt × Option Addr)) (x : Pt × Option Addr) : pflat (out ++ [x]) = pflat out ++ x.1.cells x.2 := by simp [pflat]
theorem pflat_at : ∀ (out : List (Pt × Option Addr)) (k j : Nat) (x : Pt × Option Addr) (v : Value), out[k]? = some x → (x.1.cells x.2)[j]? = some v → (pflat out)[k * 11 + j]? = some v
  | [], _, _, _, _, h, _ => by simp at h
  | y :: out, 0, j, x, v, h, hv => by
    simp at h; subst h
    have hj := (List.getElem?_eq_some_iff.1 hv).1
    rw [show pflat (y :: out) = y.1.cells y.2 ++ pflat out from by simp [pflat], Nat.zero_mul, Nat.zero_add, List.getElem?_append_left hj]
    exact hv
  | y :: out, k + 1, j, x, v, h, hv => by
    simp at h
    have := pflat_at out k j x v h hv
    rw [show pflat (y :: out) = y.1.cells y.2 ++ pflat out from by simp [pflat], List.getElem?_append_right (by simp [Pt.cells]; omega), show (k + 1) * 11 + j - (y.1.cells y.2).length = k * 11 + j from by simp [Pt.cells]; omega]
    exact this
theorem news11 (w : World) (p : Pt) (rp : Option Addr) : ∀ j u, (p.cells rp)[j]? = some u → (w.alloc (.cells #[.string p.ty, .string p.c.ty, .string p.c.text, .string p.c.mime, .string p.c.uri, .string p.c.name, .pointer rp, .string p.path, .pointer p.old, .string p.new, .string p.term] 63)).cell? ((⟨w.heap.size, 0, none⟩ : Addr).add j) = some u := by
  intro j u hj
  rw [cell_news]
  simpa [Pt.cells] using hj
theorem one11 (p : Pt) (rp : Option Addr) : ∀ u ∈ p.cells rp, u.oneCell' = true := by
  intro u hu
  simp [Pt.cells] at hu
  rcases hu with rfl | rfl | rfl | rfl | rfl | rfl | rfl | rfl | rfl | rfl | rfl <;> rfl
theorem info63 : (Try.prog.info? 63).map (fun i => (i.zero, i.size, i.bytes)) = some (some (.agg #[.string ⟨#[]⟩, .string ⟨#[]⟩, .string ⟨#[]⟩, .string ⟨#[]⟩, .string ⟨#[]⟩, .string ⟨#[]⟩, .pointer none, .string ⟨#[]⟩, .pointer none, .string ⟨#[]⟩, .string ⟨#[]⟩]), 11, 160) := by kernel_rfl

/-- The row as the calls read it. -/
theorem row_psl {w w0 : World} {base g c : Nat} {out : List (Pt × Option Addr)} (h : w.ownsRow base 63 11 (.slice (some ⟨g, 0, none⟩) out.length c) out.length (pflat out)) (hr : ∀ x ∈ out, ResIn w0 x.2 x.1.c.res) (k : Kp [] w0 w) : PSl w (some ⟨g, 0, none⟩) (out.map Prod.fst) := by
  intro i p hp
  simp only [List.getElem?_map, Option.map_eq_some_iff] at hp
  obtain ⟨x, hx, rfl⟩ := hp
  refine ⟨g, 0, rfl, x.2, (hr x (List.mem_of_getElem? hx)).kp k, fun j v hv => ?_⟩
  have hf := pflat_at out i j x v hx hv
  rcases h.2 with ⟨h1, h2⟩ | ⟨g', cap', cur, h1, _, hh, _, _, _, ht⟩
  · cases h1
  · cases h1
    rw [Nat.zero_add, cell_at hh]
    rw [← ht, List.getElem?_take] at hf
    split at hf
    · simpa using hf
    · cases hf
theorem row_step {w wr wx w9 : World} {out : List (Pt × Option Addr)} {g c g' c' : Nat} {p : Pt} {rp : Option Addr} (hk : Kp [] wr wx) (hK : Kp [] w wr)
    (ho : wr.ownsRow w.heap.size 63 11 (.slice (some ⟨g, 0, none⟩) out.length c) out.length (pflat out)) (hbl : ∀ x ∈ out, ResIn w x.2 x.1.c.res) (hr : ResIn w rp p.c.res)
    (ho2 : w9.ownsRow w.heap.size 63 11 (.slice (some ⟨g', 0, none⟩) (out.length + 1) c') (out.length + 1) (pflat out ++ p.cells rp)) (hg : wx.grownBy w9 (Value.slice (some ⟨g, 0, none⟩) out.length c).ownBlock) :
    ∃ out' : List (Pt × Option Addr), out'.length = out.length + 1 ∧ out'.map Prod.fst = out.map Prod.fst ++ [p] ∧ (∀ x ∈ out', ResIn w x.2 x.1.c.res) ∧ w9.ownsRow w.heap.size 63 11 (.slice (some ⟨g', 0, none⟩) out'.length c') out'.length (pflat out') ∧ Kp [] w w9 := by
  refine ⟨out ++ [(p, rp)], by simp, by simp, fun x hx => ?_, ?_, kp_grown (hK.trans hk) (own_kp ho hk) (Nat.le_refl _) hg⟩
  · rcases List.mem_append.1 hx with hx | hx
    · exact hbl x hx
    · simp at hx
      subst hx
      exact hr
  · rw [pflat_append, List.length_append]
    exact ho2

end Go.Proofs.Qxb6613960a
