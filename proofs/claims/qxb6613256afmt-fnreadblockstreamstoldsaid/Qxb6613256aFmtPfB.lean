/-
  What the told cards' proofs share.
-/
import Derived.Test.Qxb6613256aFmtRows
import Derived.Test.Qxb6613256aFmtLwA
import Derived.ProofKit
import Derived.Stop.JoinedAt
import Derived.Stop.Texts
import Derived.Stop.JoinedTold
import Derived.SizedLaws
import Derived.SevenToldRow
set_option linter.unusedVariables false
set_option linter.unusedSimpArgs false
namespace Go.Proofs.Qxb6613256aFmt
open Go.ChangeShapes Go.WideShapes Go.ChangeAt Go.RowKit Go.Kit
open Go.ChangeMaps (open_string shut_string)
open Go.Extern.Stop Go.Stop Go.Extern

theorem Tryf.own : ownKnob Tryf.prog.godebug = none := by kernel_rfl
theorem Tryf.laidOut : laidOutB Tryf.pinned.checked.prog = true := by kernel_rfl
theorem Tryf.cells5 : Tryf.prog.cellsOf 5 = 1 := by kernel_rfl
theorem Tryf.stops : Tryf.pinned.checked.prog.stops = ["fmt.Sprintf", "fmt.errorf"] := by kernel_rfl
theorem Tryf.stopKnobs : Tryf.pinned.checked.prog.stopKnobs = [] := by kernel_rfl
theorem Tryf.quiet (os : Os) : Stop.quiet Tryf.pinned.checked.prog os := by
  intro k hk
  rw [Tryf.stopKnobs] at hk
  cases hk

/-- All arguments read as they did: nothing that was there has turned. -/
theorem below_trodAll {H : Type} {enc : TypeId × Value → H} {P : Program} (hl : laidOutB P = true) {W W' : World} (hb : Below W.heap.size W W') :
    ∀ {ts : List TypeId} {vs : List Value} {ds : List (DataW H)} {ps : List MemPlace}, (∀ t ∈ ts, P.readableRec t = true ∧ t < P.types.size) →
      DataW.TrodAll enc P W 0 (fun _ => true) true ts vs ds ps → (∀ x ∈ ps, x.block < W.heap.size) → DataW.TrodAll enc P W' 0 (fun b => decide (b < W.heap.size)) true ts vs ds ps := by
  intro ts
  induction ts with
  | nil =>
    intro vs ds ps _ h _
    obtain ⟨rfl, rfl, rfl⟩ := trodAll_nil h
    exact trodAll_mk0
  | cons t ts ih =>
    intro vs ds ps ht h hlt
    obtain ⟨v, vs', d, ds', p, q, rfl, rfl, rfl, h0, h1⟩ := trodAll_cons h
    exact ⟨_, _, Below.trod hl (ht t (by simp)).1 (ht t (by simp)).2 h0 hb (fun x hx => hlt x (by simp [hx])), ih (fun t' ht' => ht t' (by simp [ht'])) h1 (fun x hx => hlt x (by simp [hx])), rfl⟩

/-- What the walk is told of the bytes that came in. -/
theorem src_of {W : World} {a : Addr} {len : Nat} {zs : List Int} (hlen : len ≤ zs.length) (hcell : ∀ i, i < zs.length → W.cell? (a.add i) = some (.int .u8 (zs.getD i 0))) : Src W (some a) (zs.take len) := by
  refine Or.inr ⟨a, rfl, fun j v hj => ?_⟩
  rw [List.getElem?_map] at hj
  obtain ⟨z, hz1, rfl⟩ := Option.map_eq_some_iff.1 hj
  have hjl : j < len := by
    have := (List.getElem?_eq_some_iff.1 hz1).1
    simp at this
    omega
  rw [hcell j (by omega)]
  rw [List.getElem?_take_of_lt hjl] at hz1
  simp [List.getD, hz1]

/-- The bytes that came in, as the walk is told of them. -/
theorem bytes_in {H : Type} {enc : TypeId × Value → H} {W : World} {base : Nat} {a0 : Option Addr} {len cap : Nat} {d : DataW H} {ps : List MemPlace}
    (h : DataW.Trod enc Tryf.prog W base (fun _ => true) true 26 (.slice a0 len cap) d ps) :
    ∃ zs : List Int, zs.length = len ∧ (a0 = none → cap = 0) ∧ Src W a0 zs ∧ len ≤ 9223372036854775807 ∧ ∀ z ∈ zs, 0 ≤ z ∧ z < 256 := by
  obtain ⟨fuel, hf⟩ := h
  rcases open_ints Tryf.underlying26 Tryf.underlying5 Tryf.cells5 hf with ⟨hcs, _⟩ | ⟨x, l, c, zs, hcs, _, hl, hm, hz, _, hcell, hwz⟩
  · simp [Value.cells] at hcs
    obtain ⟨rfl, rfl, rfl⟩ := hcs
    exact ⟨[], rfl, fun _ => rfl, Or.inl ⟨rfl, rfl⟩, by omega, by simp⟩
  · simp [Value.cells] at hcs
    obtain ⟨rfl, rfl, rfl⟩ := hcs
    unfold maxLen at hm
    simp only [if_true] at hz
    refine ⟨zs.take len, by rw [List.length_take]; omega, (fun h => by cases h), src_of (by omega) hcell, by omega, fun z hz' => ?_⟩
    have := hwz z (List.mem_of_mem_take hz')
    simp [Lit.wf, IntKind.min, IntKind.max, IntKind.signed, IntKind.bits] at this
    omega

end Go.Proofs.Qxb6613256aFmt
