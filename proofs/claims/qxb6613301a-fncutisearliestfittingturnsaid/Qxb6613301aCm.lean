/-
  Rows of integers and of strings that a function makes for itself.
-/
import Derived.Test.Qxb6613301aCz
import Derived.Laws.OwnMore
set_option linter.unusedVariables false
set_option linter.unusedSimpArgs false
namespace Go.Proofs.Qxb6613301a
open Go.RowKit

def RowI (w : World) (B : Nat) (xs : List Int) : Prop := w.heap[B]? = some (.cells (xs.map (Value.int .i64)).toArray 3 (0, 0))
def RowS (w : World) (B : Nat) (xs : List ByteArray) : Prop := w.heap[B]? = some (.cells (xs.map Value.string).toArray 9 (0, 0))

theorem RowI.cell {w : World} {B : Nat} {xs : List Int} (h : RowI w B xs) {k : Nat} {v : Int} (hv : xs[k]? = some v) : w.cell? ⟨B, k, none⟩ = some (.int .i64 v) := by
  rw [cell_at h]; simp [hv]
theorem RowS.cell {w : World} {B : Nat} {xs : List ByteArray} (h : RowS w B xs) {k : Nat} {v : ByteArray} (hv : xs[k]? = some v) : w.cell? ⟨B, k, none⟩ = some (.string v) := by
  rw [cell_at h]; simp [hv]
theorem RowI.frozen {w : World} {B : Nat} {xs : List Int} (h : RowI w B xs) (k : Nat) : w.frozen? ⟨B, k, none⟩ = false := frozen_at h k
theorem RowS.frozen {w : World} {B : Nat} {xs : List ByteArray} (h : RowS w B xs) (k : Nat) : w.frozen? ⟨B, k, none⟩ = false := frozen_at h k
theorem RowI.set {w : World} {B : Nat} {xs : List Int} (h : RowI w B xs) (k : Nat) (v : Int) : RowI (w.setCell ⟨B, k, none⟩ (.int .i64 v)) B (xs.set k v) := by
  unfold RowI; rw [heap_setCell_at h]; simp [List.map_set]
theorem RowS.set {w : World} {B : Nat} {xs : List ByteArray} (h : RowS w B xs) (k : Nat) (v : ByteArray) : RowS (w.setCell ⟨B, k, none⟩ (.string v)) B (xs.set k v) := by
  unfold RowS; rw [heap_setCell_at h]; simp [List.map_set]
theorem RowI.kp {X : List Nat} {w w' : World} {B : Nat} {xs : List Int} (h : RowI w B xs) (k : Kp X w w') (hB : B ∉ X) : RowI w' B xs := k.at h hB
theorem RowS.kp {X : List Nat} {w w' : World} {B : Nat} {xs : List ByteArray} (h : RowS w B xs) (k : Kp X w w') (hB : B ∉ X) : RowS w' B xs := k.at h hB
theorem RowI.old {w : World} {B : Nat} {xs : List Int} (h : RowI w B xs) (o : Obj) : RowI (w.alloc o) B xs := heap_old _ _ h
theorem RowS.old {w : World} {B : Nat} {xs : List ByteArray} (h : RowS w B xs) (o : Obj) : RowS (w.alloc o) B xs := heap_old _ _ h
theorem RowI.other {w : World} {B : Nat} {xs : List Int} (h : RowI w B xs) (p : Addr) (u : Value) (hne : B ≠ p.block) : RowI (w.setCell p u) B xs := at_setCell h p u hne
theorem RowS.other {w : World} {B : Nat} {xs : List ByteArray} (h : RowS w B xs) (p : Addr) (u : Value) (hne : B ≠ p.block) : RowS (w.setCell p u) B xs := at_setCell h p u hne
theorem RowI.new (w : World) (n : Nat) : RowI (w.alloc (.cells (madeCells (Value.int .i64 0).cells (n * 1)) 3)) w.heap.size (List.replicate n 0) := by
  unfold RowI
  rw [heap_push]
  have : (madeCells (Value.int .i64 0).cells (n * 1)) = ((List.replicate n (0 : Int)).map (Value.int .i64)).toArray := by
    apply Array.toList_inj.1
    rw [show (Value.int .i64 0).cells = #[Value.int .i64 0] from rfl, toList_madeCells_one]
    simp
  rw [this]
theorem RowS.new (w : World) (n : Nat) : RowS (w.alloc (.cells (madeCells (Value.string ⟨#[]⟩).cells (n * 1)) 9)) w.heap.size (List.replicate n ⟨#[]⟩) := by
  unfold RowS
  rw [heap_push]
  have : (madeCells (Value.string ⟨#[]⟩).cells (n * 1)) = ((List.replicate n (⟨#[]⟩ : ByteArray)).map Value.string).toArray := by
    apply Array.toList_inj.1
    rw [show (Value.string ⟨#[]⟩).cells = #[Value.string ⟨#[]⟩] from rfl, toList_madeCells_one]
    simp
  rw [this]

theorem info9 : (Try.prog.info? 9).map (fun i => (i.zero, i.size, i.bytes)) = some (some (.string ⟨#[]⟩), 1, 16) := by kernel_rfl
theorem info3 : (Try.prog.info? 3).map (fun i => (i.zero, i.size, i.bytes)) = some (some (.int .i64 0), 1, 8) := by kernel_rfl

end Go.Proofs.Qxb6613301a
