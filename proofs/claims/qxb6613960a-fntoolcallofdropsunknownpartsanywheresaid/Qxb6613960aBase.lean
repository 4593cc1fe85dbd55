/-
  What a call of the road leaves as it was: 'Kp X w w'': all blocks of w but those of X read in w' as in w; the streams and the tape are as they were.
-/
import Derived.Test.Qxb6613960aProg
import Derived.KernelRfl
import Derived.WalkKit
import Derived.WalkSpells
import Derived.WalkLawsBesides
import Derived.BigQuiet
import Derived.Deep.QuietTactic
import Derived.Deep.RegionWith
import Derived.Laws.CopyOwn
import Derived.WideLaws
namespace Go.Proofs.Qxb6613960a
open Go.RowKit

structure Kp (X : List Nat) (w w' : World) : Prop where
  os : w'.os = w.os
  tape : w'.tape = w.tape
  output : w'.output = w.output
  size : w.heap.size ≤ w'.heap.size
  block : ∀ k, k < w.heap.size → k ∉ X → w'.heap[k]? = w.heap[k]?

theorem Kp.refl (X : List Nat) (w : World) : Kp X w w := ⟨rfl, rfl, rfl, Nat.le_refl _, fun _ _ _ => rfl⟩
theorem Kp.trans {X : List Nat} {a b c : World} (h : Kp X a b) (k : Kp X b c) : Kp X a c :=
  ⟨k.os.trans h.os, k.tape.trans h.tape, k.output.trans h.output, Nat.le_trans h.size k.size, fun i hi hx => (k.block i (Nat.lt_of_lt_of_le hi h.size) hx).trans (h.block i hi hx)⟩
theorem Kp.mono {X Y : List Nat} {w w' : World} (h : Kp X w w') (hs : ∀ k ∈ X, k ∈ Y) : Kp Y w w' :=
  ⟨h.os, h.tape, h.output, h.size, fun k hk hy => h.block k hk (fun hx => hy (hs k hx))⟩
theorem Kp.nil {X : List Nat} {w w' : World} (h : Kp [] w w') : Kp X w w' := h.mono (fun _ hk => by cases hk)
/-- A block that lies in X but was made behind w need not be named. -/
theorem Kp.drop {X : List Nat} {w w' : World} (h : Kp X w w') (Y : List Nat) (hs : ∀ k ∈ X, k < w.heap.size → k ∈ Y) : Kp Y w w' :=
  ⟨h.os, h.tape, h.output, h.size, fun k hk hy => h.block k hk (fun hx => hy (hs k hx hk))⟩
theorem Kp.drew {X : List Nat} {a w : World} (h : Kp X a w) : Kp X a w.drew := ⟨h.os, h.tape, h.output, h.size, h.block⟩
theorem Kp.drewN {X : List Nat} {a w : World} (h : Kp X a w) (n : Nat) : Kp X a (w.drewN n) := ⟨h.os, h.tape, h.output, h.size, h.block⟩
theorem Kp.alloc {X : List Nat} {a w : World} (h : Kp X a w) (o : Obj) : Kp X a (w.alloc o) :=
  h.trans ⟨rfl, rfl, rfl, by simp, fun k hk _ => Below.heap_alloc _ _ _ hk⟩
theorem Kp.setCell {X : List Nat} {a w : World} (h : Kp X a w) {p : Addr} (hp : p.block ∈ X ∨ a.heap.size ≤ p.block) (u : Value) : Kp X a (w.setCell p u) :=
  ⟨h.os, h.tape, h.output, by simpa [World.setCell] using h.size, fun k hk hx => (Below.heap_setCell _ _ _ _ (by
    rcases hp with hp | hp
    · exact fun e => hx (e ▸ hp)
    · omega)).trans (h.block k hk hx)⟩
theorem Kp.below {X : List Nat} {w w' : World} (h : Kp X w w') (B : Nat) (hB : B ≤ w.heap.size) (hX : ∀ k ∈ X, B ≤ k) : Below B w w' :=
  ⟨h.os, h.tape, h.output, h.size, fun k hk => h.block k (by omega) (fun hx => by have := hX k hx; omega)⟩
theorem Kp.ofBelow {w w' : World} (h : Below w.heap.size w w') : Kp [] w w' := ⟨h.os, h.tape, h.output, h.size, fun k hk _ => h.block k hk⟩
theorem Kp.at {X : List Nat} {w w' : World} (h : Kp X w w') {k : Nat} {o : Obj} (hk : w.heap[k]? = some o) (hx : k ∉ X) : w'.heap[k]? = some o := by
  rw [h.block k ?_ hx]; exact hk
  exact (Array.getElem?_eq_some_iff.1 hk).1
theorem lt_of_at {w : World} {k : Nat} {o : Obj} (hk : w.heap[k]? = some o) : k < w.heap.size := (Array.getElem?_eq_some_iff.1 hk).1

/-- A cell of a block that is known. -/
theorem cell_at {w : World} {b : Nat} {cs : Array Value} {t : TypeId} {m : Nat × Nat} (h : w.heap[b]? = some (.cells cs t m)) (i : Nat) : w.cell? ⟨b, i, none⟩ = cs[i]? := by
  simp [World.cell?, h]
theorem frozen_at {w : World} {b : Nat} {cs : Array Value} {t : TypeId} (h : w.heap[b]? = some (.cells cs t (0, 0))) (i : Nat) : w.frozen? ⟨b, i, none⟩ = false := by
  simp [World.frozen?, h]
theorem heap_setCell_at {w : World} {b : Nat} {cs : Array Value} {t : TypeId} {m : Nat × Nat} (h : w.heap[b]? = some (.cells cs t m)) (i : Nat) (v : Value) :
    (w.setCell ⟨b, i, none⟩ v).heap[b]? = some (.cells (cs.setIfInBounds i v) t m) := by
  simp [World.setCell, Array.getElem?_modify, h]

theorem heap_push (w : World) (o : Obj) : (w.alloc o).heap[w.heap.size]? = some o := by
  show (w.heap.push o)[w.heap.size]? = _
  simp
theorem heap_old (w : World) (o : Obj) {k : Nat} {x : Obj} (h : w.heap[k]? = some x) : (w.alloc o).heap[k]? = some x := by
  rw [Below.heap_alloc _ _ _ (lt_of_at h)]; exact h
theorem lt_of_cell {w : World} {a : Addr} {v : Value} (h : w.cell? a = some v) : a.block < w.heap.size := by
  unfold World.cell? at h
  split at h
  · exact lt_of_at (by assumption)
  · cases h
theorem Kp.cell {X : List Nat} {w w' : World} (h : Kp X w w') {a : Addr} {v : Value} (hc : w.cell? a = some v) (hx : a.block ∉ X) : w'.cell? a = some v := by
  rw [World.cell?_of_block (w := w) (h.block a.block (lt_of_cell hc) hx)]; exact hc
theorem at_setCell {w : World} {k : Nat} {o : Obj} (h : w.heap[k]? = some o) (p : Addr) (u : Value) (hne : k ≠ p.block) : (w.setCell p u).heap[k]? = some o := by
  rw [Below.heap_setCell _ _ _ _ hne]; exact h
theorem hid {p : Prop} (h : p) : Hid p := h

end Go.Proofs.Qxb6613960a
