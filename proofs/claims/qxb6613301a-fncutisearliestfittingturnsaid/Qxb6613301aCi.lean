/-
  slices.Backward over blocks: its contract.
-/
import Derived.Test.Qxb6613301aCb
import Derived.RangeFuncNested
import Derived.RangeFuncBound
import Derived.RangeFuncCalls
import Derived.RangeFuncLeaves
import Derived.Shelf.Abstract
import Derived.Shelf.RegionOpen
import Derived.OwnWalkIn
import Derived.TacticsInMore
import Derived.LoopNIn
import Derived.LoopIn
set_option linter.unusedVariables false
set_option linter.unusedSimpArgs false
namespace Go.Proofs.Qxb6613301a
open Go.RowKit Go.Shelf
attribute [local go_sem] Oper.semAt_some

/-- A block with where its raw bytes lie. -/
structure Bk where
  it : It
  ra : Option Addr
  rc : Nat

def Bk.val (b : Bk) : Value := .agg (b.it.blk b.ra b.rc)

/-- The blocks' cells at a block q of the heap. -/
def BSl (w : World) (q : Nat) (bs : List Bk) : Prop :=
  ∀ k b, bs[k]? = some b → ∀ j v, (b.it.blk b.ra b.rc)[j]? = some v → w.cell? ⟨q, k * 9 + j, none⟩ = some v

/-- What the iterator needs of a round: the slice's box and the blocks below n lie as they lay. -/
def KeepB (n Bs : Nat) (X : List Nat) (W W' : World) : Prop := W.heap.size ≤ W'.heap.size ∧ ∀ k, k < n → k ∉ X → W'.heap[k]? = W.heap[k]?

/-- The last m of n, from the back. -/
def down (n : Nat) : Nat → List Nat
  | 0 => []
  | m + 1 => down n m ++ [n - 1 - m]

theorem down_length (n m : Nat) : (down n m).length = m := by induction m <;> simp_all [down]

theorem KeepB.refl (n Bs : Nat) (X : List Nat) (W : World) : KeepB n Bs X W W := ⟨Nat.le_refl _, fun _ _ _ => rfl⟩
theorem KeepB.trans {n Bs : Nat} {X : List Nat} {a b c : World} (h : KeepB n Bs X a b) (k : KeepB n Bs X b c) : KeepB n Bs X a c :=
  ⟨Nat.le_trans h.1 k.1, fun i hi hx => (k.2 i hi hx).trans (h.2 i hi hx)⟩
theorem KeepB.cell {n Bs : Nat} {X : List Nat} {a b : World} (h : KeepB n Bs X a b) {p : Addr} {v : Value} (hc : a.cell? p = some v) (hn : p.block < n) (hx : p.block ∉ X) : b.cell? p = some v := by
  rw [World.cell?_of_block (w := a) (h.2 p.block hn hx)]; exact hc

set_option maxRecDepth 100000 in
set_option maxHeartbeats 1000000 in
theorem back54 (F : Fence) (n : Nat) (h54 : F.fn 54) (hro : F.round = none) (hn : 1 ≤ n) (l Bs n1 q cap : Nat) (X : List Nat) (bs : List Bk) (hlen : bs.length ≤ 4096) (hq : q < n1) (hqx : q ∉ X) (hBn : Bs < n1) (hBx : Bs ∉ X)
    (J Jx : List (Fin bs.length) → World → Prop)
    (hY : ∀ pre x W, J pre W → pre.length < bs.length → YieldAt F (n - 1) Try.prog l #[.int .i64 (x.1 : Int), (bs[x.1]).val] W fun e W' =>
      (e = .returned (.bool true) ∧ J (pre ++ [x]) W' ∧ KeepB n1 Bs X W W') ∨ (e = .returned (.bool false) ∧ Jx (pre ++ [x]) W'))
    (W : World) (hBs : W.cell? ⟨Bs, 0, none⟩ = some (.slice (some ⟨q, 0, none⟩) bs.length cap)) (hc : BSl W q bs) (h0 : J [] W) :
    CallsIn F n Try.prog 54 #[.func (.yield l) #[] #[], .pointer (some ⟨Bs, 0, none⟩)] W fun e W' => (∃ v, e = .returned v) ∧
      ((∃ ys : List (Fin bs.length), ys.map (·.1) = down bs.length bs.length ∧ J ys W') ∨ (∃ pre : List (Fin bs.length), (∃ k, k ≤ bs.length ∧ pre.map (·.1) = down bs.length k) ∧ Jx pre W')) := by
  obtain ⟨m, hm⟩ : ∃ m, m = bs.length := ⟨_, rfl⟩
  have hm4 : m ≤ 4096 := by omega
  refine callsIn_of_wp Try.func54 rfl h54 ?_ hro
  simp only [Try.ntmps54, List.size_toArray, List.length_cons, List.length_nil, Nat.reduceAdd, Nat.reduceSub, Array.replicate_succ, Array.replicate_zero, List.push_toArray, List.append_toArray, List.nil_append, List.cons_append]
  rw [← hm] at hBs
  have HM := hid hm
  have HL := hid hlen
  clear hm hlen
  gi_wp2
  gi_loopw [3] (fun i wr => ∃ (r : Nat) (ys : List (Fin bs.length)), r ≤ m ∧ i = .int .i64 ((r : Int) - 1) ∧ ys.map (·.1) = down bs.length (m - r) ∧ J ys wr ∧ KeepB n1 Bs X W wr)
    (fun i _ => (intOf i + 1).toNat)
  case atStart => exact ⟨m, [], Nat.le_refl _, by simp, by simp [down], h0, KeepB.refl _ _ _ _⟩
  case round =>
    obtain ⟨r, ys, hk, rfl, hys, hJs, hnx⟩ := hrel
    have hb' := hnx.cell hBs hBn hBx
    cases r with
    | succ i =>
      rw [show ((i + 1 : Nat) : Int) - 1 = (i : Int) from by omega]
      have hilm : i < m := by omega
      have hil : i < bs.length := by have := HM.out; omega
      have hi4 : i ≤ 4096 := by omega
      obtain ⟨fn, tmps, assign, body, hy, hR⟩ := hY ys ⟨i, hil⟩ wr hJs (by
        have : ys.length = m - (i + 1) := by rw [← List.length_map (f := fun x : Fin bs.length => x.1), hys, down_length]
        have := HM.out
        omega)
      have hnxt : (ys ++ [(⟨i, hil⟩ : Fin bs.length)]).map (·.1) = down bs.length (m - i) := by
        rw [List.map_append, hys, show m - i = (m - (i + 1)) + 1 from by omega]
        simp [down]
        have := HM.out
        omega
      obtain ⟨b, hb⟩ : ∃ b, b = bs[i] := ⟨_, rfl⟩
      have hbs : bs[i]? = some b := by rw [hb]; simp
      have hcs := hc i b hbs
      dsimp only at hy
      rw [← hb] at hy
      clear hb hbs
      obtain ⟨⟨ty, id, call, role, raw⟩, ra, rc⟩ := b
      simp only [It.blk] at hcs
      dsimp only [Bk.val, It.blk] at hy
      have c0 := hnx.cell (hcs 0 _ rfl) hq hqx
      have c1 := hnx.cell (hcs 1 _ rfl) hq hqx
      have c2 := hnx.cell (hcs 2 _ rfl) hq hqx
      have c3 := hnx.cell (hcs 3 _ rfl) hq hqx
      have c4 := hnx.cell (hcs 4 _ rfl) hq hqx
      have c5 := hnx.cell (hcs 5 _ rfl) hq hqx
      have c6 := hnx.cell (hcs 6 _ rfl) hq hqx
      have c7 := hnx.cell (hcs 7 _ rfl) hq hqx
      have c8 := hnx.cell (hcs 8 _ rfl) hq hqx
      simp only [Nat.add_zero] at c0
      have HN := hid hnxt
      have HY := hid hys
      clear hcs hnxt hys
      gi_wp2
      refine hR.mono ?_
      rintro e W3 (⟨rfl, hJ3, hk3⟩ | ⟨rfl, hJx3⟩)
      · gi_wp2
        go_roundw
        case rel => exact ⟨i, ys ++ [⟨i, hil⟩], by omega, by go_num, HN.out, hJ3, hnx.trans hk3⟩
        case measure => first | (simp [intOf]; omega) | simp [intOf]
      · gi_wp2
        refine bodyPost_ret (results_none rfl _ _ _) rfl ?_
        exact ⟨⟨_, rfl⟩, .inr ⟨_, ⟨m - i, by have := HM.out; omega, HN.out⟩, hJx3⟩⟩
    | zero =>
      rw [show ((0 : Nat) : Int) - 1 = -1 from by omega]
      gi_wp2
      go_end0
      exact ⟨⟨_, rfl⟩, .inl ⟨ys, by rw [hys, ← HM.out, Nat.sub_zero], hJs⟩⟩

set_option maxHeartbeats 1000000 in
theorem back48 (F : Fence) (n : Nat) (h48 : F.fn 48) (hro : F.round = none) (a : Option Addr) (len cap : Nat) (w : World) :
    CallsIn F n Try.prog 48 #[.slice a len cap] w fun e w' => e = .returned (.func (.func 54) #[] #[.pointer (some ⟨w.heap.size, 0, none⟩)]) ∧ w' = w.alloc (.cells #[.slice a len cap] 58) := by
  refine callsIn_of_wp Try.func48 rfl h48 ?_ hro
  simp only [Try.ntmps48, List.size_toArray, List.length_cons, List.length_nil, Nat.reduceAdd, Nat.reduceSub, Array.replicate_succ, Array.replicate_zero, List.push_toArray, List.append_toArray, List.nil_append, List.cons_append]
  gi_wp2
  go_ret
  exact ⟨rfl, rfl⟩

theorem BSl.keep {n Bs : Nat} {X : List Nat} {a b : World} {q : Nat} {bs : List Bk} (h : BSl a q bs) (k : KeepB n Bs X a b) (hq : q < n) (hx : q ∉ X) : BSl b q bs :=
  fun i b hb j v hv => k.cell (h i b hb j v hv) hq hx

theorem back_stops (F : Fence) (n : Nat) (h54 : F.fn 54) (hro : F.round = none) (hn : 1 ≤ n) (Bs n1 q cap : Nat) (X : List Nat) (bs : List Bk) (hlen : bs.length ≤ 4096) (hq : q < n1) (hqx : q ∉ X) (hBn : Bs < n1) (hBx : Bs ∉ X) (w : World) (hn1 : n1 ≤ w.heap.size)
    (hBs : w.cell? ⟨Bs, 0, none⟩ = some (.slice (some ⟨q, 0, none⟩) bs.length cap)) (hc : BSl w q bs) :
    SeqStopsK F n Try.prog 54 #[.pointer (some ⟨Bs, 0, none⟩)] (fun x : Fin bs.length => #[Value.int .i64 (x.1 : Int), (bs[x.1]).val]) (KeepB n1 Bs X)
      (fun ys => ys.map (·.1) = down bs.length bs.length) (fun pre => ∃ k, k ≤ bs.length ∧ pre.map (·.1) = down bs.length k) bs.length w := fun l J Jx W hW _ _ hY h0 =>
  back54 F n h54 hro hn l Bs n1 q cap X bs hlen hq hqx hBn hBx J Jx hY W ((hW.cell (p := ⟨Bs, 0, none⟩) (by show Bs < _; omega)).trans hBs)
    (fun i b hb j v hv => (hW.cell (p := ⟨q, i * 9 + j, none⟩) (by show q < _; omega)).trans (hc i b hb j v hv)) h0

end Go.Proofs.Qxb6613301a
