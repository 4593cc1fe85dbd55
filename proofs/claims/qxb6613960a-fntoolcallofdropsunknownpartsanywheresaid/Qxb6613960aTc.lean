/-
  toolContentOf, walked.
-/
import Derived.Test.Qxb6613960aCo
import Derived.Lib.SliceRun
import Derived.Maps.AppendAt
import Derived.Laws.MakeOwn
set_option linter.unusedVariables false
set_option linter.unusedSimpArgs false
namespace Go.Proofs.Qxb6613960a
open Go.RowKit

def lContent : List UInt8 := [99, 111, 110, 116, 101, 110, 116]
def lDiff : List UInt8 := [100, 105, 102, 102]
def lTerm : List UInt8 := [116, 101, 114, 109, 105, 110, 97, 108]
def sContent : ByteArray := ⟨#[99, 111, 110, 116, 101, 110, 116]⟩
def sDiff : ByteArray := ⟨#[100, 105, 102, 102]⟩
def sTerm : ByteArray := ⟨#[116, 101, 114, 109, 105, 110, 97, 108]⟩

/-- A part of a tool call. -/
structure Pt where
  ty : ByteArray
  c : Cb
  path : ByteArray
  old : Option Addr
  new : ByteArray
  term : ByteArray

/-- A part as the event log has it. -/
structure Tc where
  ty : ByteArray
  text : ByteArray
  blk : Option Bl
  path : ByteArray
  old : Option Addr
  new : ByteArray
  term : ByteArray

def Pt.tc (p : Pt) : Option Tc :=
  if (p.ty.toList == lContent) = true then (if (p.c.ty.toList == lText) = true then some ⟨sContent, p.c.text, none, em, none, em, em⟩ else some ⟨sContent, em, some p.c.blk, em, none, em, em⟩)
  else if (p.ty.toList == lDiff) = true then some ⟨sDiff, em, none, p.path, p.old, p.new, em⟩
  else if (p.ty.toList == lTerm) = true then some ⟨sTerm, em, none, em, none, em, p.term⟩
  else none

/-- The eleven cells of a part, its resource at rp. -/
def Pt.cells (p : Pt) (rp : Option Addr) : List Value :=
  [.string p.ty, .string p.c.ty, .string p.c.text, .string p.c.mime, .string p.c.uri, .string p.c.name, .pointer rp, .string p.path, .pointer p.old, .string p.new, .string p.term]

/-- A row of parts as toolContentOf gets it. -/
def ASl (w : World) (q : Nat) (ps : List Pt) : Prop :=
  ∀ (k : Nat) (p : Pt), ps[k]? = some p → ∃ rp, ResAt w rp p.c.res ∧ ∀ (j : Nat) (v : Value), (p.cells rp)[j]? = some v → w.cell? ⟨q, k * 11 + j, none⟩ = some v

def BlAt (w : World) (p : Option Addr) (b : Option Bl) : Prop :=
  match b with
  | none => p = none
  | some b => ∃ g, p = some ⟨g, 0, none⟩ ∧ w.heap[g]? = some (Bl.obj b)

def Tc.cells (t : Tc) (bp : Option Addr) : List Value := [.string t.ty, .string t.text, .pointer bp, .string t.path, .pointer t.old, .string t.new, .string t.term]
def tflat (ts : List (Tc × Option Addr)) : List Value := ts.flatMap fun x => x.1.cells x.2
theorem tflat_append (ts : List (Tc × Option Addr)) (x : Tc × Option Addr) : tflat (ts ++ [x]) = tflat ts ++ x.1.cells x.2 := by simp [tflat]

theorem ResAt.kp {w w' : World} {p : Option Addr} {r : Option Rs} (h : ResAt w p r) (k : Kp [] w w') : ResAt w' p r := by
  cases r with
  | none => exact h
  | some r => obtain ⟨b, e, hb⟩ := h; exact ⟨b, e, k.at hb (by simp)⟩
theorem BlAt.kp {w w' : World} {p : Option Addr} {r : Option Bl} (h : BlAt w p r) (k : Kp [] w w') : BlAt w' p r := by
  cases r with
  | none => exact h
  | some r => obtain ⟨b, e, hb⟩ := h; exact ⟨b, e, k.at hb (by simp)⟩
theorem own_kp {w w' : World} {base e size : Nat} {v : Value} {n : Nat} {xs : List Value} (h : w.ownsRow base e size v n xs) (k : Kp [] w w') : w'.ownsRow base e size v n xs := by
  obtain ⟨h1, h2⟩ := h
  refine ⟨h1, ?_⟩
  rcases h2 with h2 | ⟨g, cap, cur, rfl, hb, hh, r⟩
  · exact Or.inl h2
  · exact Or.inr ⟨g, cap, cur, rfl, hb, k.at hh (by simp), r⟩
theorem kp_grown {w0 w w' : World} {base e size : Nat} {v : Value} {n : Nat} {xs : List Value} (k : Kp [] w0 w) (h : w.ownsRow base e size v n xs) (hb : w0.heap.size ≤ base) (hg : w.grownBy w' v.ownBlock) : Kp [] w0 w' := by
  refine ⟨hg.os.trans k.os, hg.tape.trans k.tape, hg.output.trans k.output, Nat.le_trans k.size hg.size, fun i hi _ => ?_⟩
  rw [hg.block i (Nat.lt_of_lt_of_le hi k.size) ?_]
  · exact k.block i hi (by simp)
  · rcases h.2 with ⟨rfl, _⟩ | ⟨g, cap, cur, rfl, hbg, _⟩
    · simp [Value.ownBlock]
    · simp [Value.ownBlock]; omega
theorem BlAt.grown {w w' : World} {base size : Nat} {v : Value} {n : Nat} {xs : List Value} {p : Option Addr} {r : Option Bl} (h : BlAt w p r) (ho : w.ownsRow base 58 size v n xs) (hg : w.grownBy w' v.ownBlock) : BlAt w' p r := by
  cases r with
  | none => exact h
  | some r =>
    obtain ⟨b, e, hb⟩ := h
    refine ⟨b, e, ?_⟩
    rw [hg.block b (lt_of_at hb) ?_]
    · exact hb
    · rcases ho.2 with ⟨rfl, _⟩ | ⟨g', cap', cur', rfl, _, hh', _⟩
      · simp [Value.ownBlock]
      · simp [Value.ownBlock]
        rintro rfl
        rw [hb] at hh'
        simp [Bl.obj] at hh'

theorem cell_news (w : World) (cs : Array Value) (t : TypeId) (j : Nat) : (w.alloc (.cells cs t)).cell? ((⟨w.heap.size, 0, none⟩ : Addr).add j) = cs[j]? := by
  have : (⟨w.heap.size, 0, none⟩ : Addr).add j = ⟨w.heap.size, j, none⟩ := by unfold Addr.add; split <;> simp_all
  rw [this, cell_at (heap_push _ _)]
theorem news7 (w : World) (t : Tc) (bp : Option Addr) : ∀ j u, (t.cells bp)[j]? = some u → (w.alloc (.cells #[.string t.ty, .string t.text, .pointer bp, .string t.path, .pointer t.old, .string t.new, .string t.term] 58)).cell? ((⟨w.heap.size, 0, none⟩ : Addr).add j) = some u := by
  intro j u hj
  rw [cell_news]
  simpa [Tc.cells] using hj
theorem one7 (t : Tc) (bp : Option Addr) : ∀ u ∈ t.cells bp, u.oneCell' = true := by
  intro u hu
  simp [Tc.cells] at hu
  rcases hu with rfl | rfl | rfl | rfl | rfl | rfl | rfl <;> rfl

theorem run_make_room (t e : TypeId) (z : Value) (size bytes : Nat) (ht : Try.prog.underlying t = some (.slice e)) (hinfo : (Try.prog.info? e).map (fun i => (i.zero, i.size, i.bytes)) = some (some z, size, bytes))
    (n : Nat) (hbytes : bytes * n ≤ 281474976710656) (h63 : n ≤ 9223372036854775807) (w : World) :
    (Instr.makeSlice t (.int .i64 0) (.int .i64 (n : Int))).run Try.prog w = .ok (.slice (some ⟨w.heap.size, 0, none⟩) 0 n) (w.alloc (.cells (madeCells z.cells (n * size)) e)) := by
  obtain ⟨i, hi, hzz⟩ := Option.map_eq_some_iff.1 hinfo
  simp only [Prod.mk.injEq] at hzz
  obtain ⟨hz, hs, hb⟩ := hzz
  have hb' : (i.bytes : Int) * (n : Int) ≤ 281474976710656 := by
    have h : ((i.bytes * n : Nat) : Int) ≤ 281474976710656 := by rw [hb]; omega
    rwa [Int.natCast_mul] at h
  have hr := run_make (P := Try.prog) w t e i z ht hi hz .i64 .i64 0 n (by omega) (by omega) hb' (by omega)
  simp only [Int.toNat_natCast, hs] at hr
  exact hr

theorem info58 : (Try.prog.info? 58).map (fun i => (i.zero, i.size, i.bytes)) = some (some (.agg #[.string ⟨#[]⟩, .string ⟨#[]⟩, .pointer none, .string ⟨#[]⟩, .pointer none, .string ⟨#[]⟩, .string ⟨#[]⟩]), 7, 96) := by kernel_rfl

end Go.Proofs.Qxb6613960a
