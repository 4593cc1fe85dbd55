/-
  Ledger.cut, walked.
-/
import Derived.Test.Qxb6613301aCi
import Derived.Maps.OwnIn
import Derived.Maps.AppendAt
set_option linter.unusedVariables false
set_option linter.unusedSimpArgs false
namespace Go.Proofs.Qxb6613301a
open Go.RowKit Go.Shelf
attribute [local go_sem] Oper.semAt_some

def keyL (s : ByteArray) : Lit := .string s.data.toList

def pid (bs : List Bk) (k : Nat) : ByteArray := (bs[k]?.map (fun b => b.it.paired)).getD ⟨#[]⟩

/-- The map of first positions, k blocks walked. -/
def firstD (bs : List Bk) : Nat → DataW Unit
  | 0 => .map []
  | k + 1 => if (pid bs k).toList = [] then firstD bs k else if Maps.has (firstD bs k) (keyL (pid bs k)) = true then firstD bs k else (firstD bs k).put (keyL (pid bs k)) (.lit (.int .i64 (k : Int)))

theorem kp_map {w w' : World} {b : Nat} (h : w.grownBy w' (some b)) : Kp [b] w w' :=
  ⟨h.os, h.tape, h.output, h.size, fun k hk hx => h.block k hk (fun e => hx (by cases e; simp))⟩
theorem Kp.grown {w w' : World} (h : Kp [] w w') : w.grownBy w' none := ⟨h.os, h.tape, h.output, h.size, fun k hk _ => h.block k hk (by simp)⟩

structure St where
  reach : Int
  size : Int
  kept : Int
  found : Bool

def firstN (bs : List Bk) (x : Nat) : Int :=
  match (firstD bs bs.length).atKey (keyL (pid bs x)) (.lit (.int .i64 0)) with
  | .lit (.int _ c) => c
  | _ => 0

def stpF (u : Bool) (rc z kp bud : Int) (fd : Bool) (i : Nat) : Option St :=
  if u = true ∧ ¬ rc < i then (if fd = false then some ⟨rc, z, i, true⟩ else if z ≤ bud then some ⟨rc, z, i, fd⟩ else none) else some ⟨rc, z, kp, fd⟩

/-- One block, walked from the back. -/
def stp (bs : List Bk) (bud : Int) (s : St) (x : Nat) : Option St :=
  stpF ((bs[x]?.map (fun b => b.it.user)).getD false) (if (pid bs x).toList = [] then s.reach else min s.reach (firstN bs x)) (wrap64 (s.size + ((bs[x]?.map (fun b => b.it.raw.size)).getD 0 : Nat))) s.kept bud s.found x

theorem stA {ty id call role raw : ByteArray} {rc z kp bud : Int} {fd : Bool} {i : Nat} (h : ¬ ty.toList = [109, 101, 115, 115, 97, 103, 101]) :
    stpF (It.user ⟨ty, id, call, role, raw⟩) rc z kp bud fd i = some ⟨rc, z, kp, fd⟩ := by
  unfold stpF
  rw [if_neg]
  rintro ⟨hu, _⟩
  simp only [It.user, Bool.and_eq_true, beq_iff_eq] at hu
  exact h hu.1
theorem stB {ty id call role raw : ByteArray} {rc z kp bud : Int} {fd : Bool} {i : Nat} (h : ¬ role.toList = [117, 115, 101, 114]) :
    stpF (It.user ⟨ty, id, call, role, raw⟩) rc z kp bud fd i = some ⟨rc, z, kp, fd⟩ := by
  unfold stpF
  rw [if_neg]
  rintro ⟨hu, _⟩
  simp only [It.user, Bool.and_eq_true, beq_iff_eq] at hu
  exact h hu.2
theorem stC {u : Bool} {rc z kp bud : Int} {fd : Bool} {i : Nat} (h : rc < i) : stpF u rc z kp bud fd i = some ⟨rc, z, kp, fd⟩ := by
  unfold stpF
  rw [if_neg]
  rintro ⟨_, hu⟩
  exact hu h
theorem stU {ty id call role raw : ByteArray} (h : ty.toList = [109, 101, 115, 115, 97, 103, 101]) (h' : role.toList = [117, 115, 101, 114]) : It.user ⟨ty, id, call, role, raw⟩ = true := by
  simp [It.user, h, h', lMsg, lUser]
theorem stD {u : Bool} {rc z kp bud : Int} {fd : Bool} {i : Nat} (h : u = true) (hi : (i : Int) ≤ rc) (hf : (!fd) = true) : stpF u rc z kp bud fd i = some ⟨rc, z, i, true⟩ := by
  unfold stpF
  rw [if_pos ⟨h, by omega⟩, if_pos (by simpa using hf)]
theorem stE {u : Bool} {rc z kp bud : Int} {fd : Bool} {i : Nat} (h : u = true) (hi : (i : Int) ≤ rc) (hf : (!fd) = false) (hz : z ≤ bud) : stpF u rc z kp bud fd i = some ⟨rc, z, i, fd⟩ := by
  unfold stpF
  rw [if_pos ⟨h, by omega⟩, if_neg (by simpa using hf), if_pos hz]
theorem stN {u : Bool} {rc z kp bud : Int} {fd : Bool} {i : Nat} (h : u = true) (hi : (i : Int) ≤ rc) (hf : (!fd) = false) (hz : ¬ z ≤ bud) : stpF u rc z kp bud fd i = none := by
  unfold stpF
  rw [if_pos ⟨h, by omega⟩, if_neg (by simpa using hf), if_neg hz]

def wlkF (bs : List Bk) (bud : Int) (xs : List Nat) : Option St :=
  xs.foldl (fun o x => o.bind (fun s => stp bs bud s x)) (some ⟨bs.length, 0, 0, false⟩)

theorem wlkF_snoc (bs : List Bk) (bud : Int) (xs : List Nat) (x : Nat) (s : St) (h : wlkF bs bud xs = some s) : wlkF bs bud (xs ++ [x]) = stp bs bud s x := by
  simp only [wlkF, List.foldl_append, List.foldl_cons, List.foldl_nil] at h ⊢
  rw [h]; rfl

def CutAns (bs : List Bk) (bud r : Int) : Prop :=
  (∃ s, wlkF bs bud (down bs.length bs.length) = some s ∧ r = s.kept) ∨
    (∃ m s, m < bs.length ∧ wlkF bs bud (down bs.length m) = some s ∧ stp bs bud s (bs.length - 1 - m) = none ∧ r = s.kept)

theorem down_snoc {n k : Nat} {l : List Nat} {x : Nat} (h : l ++ [x] = down n k) : ∃ m, k = m + 1 ∧ l = down n m ∧ x = n - 1 - m := by
  cases k with
  | zero => simp [down] at h
  | succ m =>
    simp only [down] at h
    have := List.append_inj' h rfl
    simp at this
    exact ⟨m, rfl, this.1, this.2⟩

def CI (bs : List Bk) (bud : Int) (B11 B12 B13 B14 B4 : Nat) (w1 : World) (pre : List (Fin bs.length)) (W : World) : Prop :=
  ∃ s, wlkF bs bud (pre.map (·.1)) = some s ∧ W.heap[B11]? = some (.cells #[.int .i64 s.reach] 3 (0, 0)) ∧ W.heap[B12]? = some (.cells #[.int .i64 s.size] 3 (0, 0)) ∧ W.heap[B13]? = some (.cells #[.int .i64 s.kept] 3 (0, 0)) ∧ W.heap[B14]? = some (.cells #[.bool s.found] 4 (0, 0)) ∧ W.heap[B4]? = some (.cells #[.int .i64 0] 3 (0, 0)) ∧ Kp [B11, B12, B13, B14, B4] w1 W
def CIx (bs : List Bk) (bud : Int) (B11 B12 B13 B14 B4 : Nat) (w1 : World) (c : Code) (pre : List (Fin bs.length)) (W : World) : Prop :=
  c = .ret ∧ ∃ ini x s, pre = ini ++ [x] ∧ wlkF bs bud (ini.map (·.1)) = some s ∧ stp bs bud s x.1 = none ∧ W.heap[B4]? = some (.cells #[.int .i64 s.kept] 3 (0, 0)) ∧ Kp [B11, B12, B13, B14, B4] w1 W

theorem ownsMap_at {w w' : World} {k : TypeId} {R : Value → Option (DataW Unit × List MemPlace)} {b n : Nat} {D : DataW Unit} (h : w.ownsMap Try.prog k R b n D) (e : w'.heap[b]? = w.heap[b]?) : w'.ownsMap Try.prog k R b n D := by
  obtain ⟨es, clock, hb, F, hs, hD⟩ := h
  exact ⟨es, clock, e.trans hb, F, hs, hD⟩

theorem Kp.keepB {X : List Nat} {w w' : World} (h : Kp X w w') (n Bs : Nat) (hn : n ≤ w.heap.size) : KeepB n Bs X w w' := ⟨h.size, fun k hk hx => h.block k (by omega) hx⟩
theorem Kp.from {X : List Nat} {w w' : World} (h : Kp X w w') (B : Nat) (hX : ∀ k ∈ X, k < B) : KeepsFrom B w w' :=
  ⟨h.size, fun k o hB hk ho => h.at hk (fun hx => by have := hX k hx; omega)⟩
theorem Kp.own {X : List Nat} {a w w' : World} {row : Option Nat} (h : Kp X a w) (hg : w.grownBy w' row) (hr : ∀ r, row = some r → a.heap.size ≤ r) : Kp X a w' :=
  ⟨hg.os.trans h.os, hg.tape.trans h.tape, hg.output.trans h.output, Nat.le_trans h.size hg.size, fun k hk hx => (hg.block k (Nat.lt_of_lt_of_le hk h.size) (fun e => by have := hr k e.symm; omega)).trans (h.block k hk hx)⟩
theorem cells_own {w w' : World} {row : Option Nat} {B b : Nat} {cs : Array Value} {t : TypeId} {m : Nat × Nat} (h : w.heap[b]? = some (.cells cs t m)) (hg : w.grownBy w' row) (hr : ∀ r, row = some r → B ≤ r ∧ ∃ o : Obj, w.heap[r]? = some o ∧ o.isCells = false) : w'.heap[b]? = some (.cells cs t m) := by
  rw [hg.block b (lt_of_at h) ?_]; exact h
  intro e
  obtain ⟨_, o, ho, hc⟩ := hr b e.symm
  rw [h] at ho; cases ho; cases hc

def ledCut (q n cap : Nat) : Obj :=
  .cells #[.map none, .bool false, .bool false, .string ⟨#[]⟩, .slice (some ⟨q, 0, none⟩) n cap, .slice none 0 0, .slice none 0 0, .map none, .slice none 0 0, .slice none 0 0, .int .i64 0, .slice none 0 0, .int .i64 0, .int .i64 0] 81 (0, 0)

theorem newLed29 (q n cap : Nat) (w : World) : Calls Try.prog 29 #[.slice (some ⟨q, 0, none⟩) n cap] w fun e w' => e = .returned (.pointer (some ⟨w.heap.size, 0, none⟩)) ∧ w' = w.alloc (ledCut q n cap) := by
  go_enter Try.func29, Try.ntmps29
  go_wp2
  go_ret
  exact ⟨rfl, rfl⟩

set_option pp.deepTerms true in
set_option pp.maxSteps 1000000 in
set_option maxRecDepth 100000 in
set_option maxHeartbeats 8000000 in
theorem cut38 (bs : List Bk) (q cap L bb : Nat) (bud : Int) (w : World) (hlen : bs.length ≤ 4096) (hsz : ∀ k, (pid bs k).size ≤ 1048576)
    (hL : w.heap[L]? = some (ledCut q bs.length cap)) (hq : BSl w q bs) (hqs : q < w.heap.size) (hb : w.heap[bb]? = some (.cells #[.int .i64 bud] 3 (0, 0))) :
    Calls Try.prog 38 #[.pointer (some ⟨L, 0, none⟩), .func (.func 39) #[] #[.pointer (some ⟨bb, 0, none⟩)]] w fun e w' => ∃ r : Int, e = .returned (.int .i64 r) ∧ CutAns bs bud r ∧ Kp [] w w' := by
  refine (callsIn_wide (n := 3)).1 ?_
  have hmm := @run_makeMap Try.prog
  have hmax : (1048576 : Nat) ≤ maxLen := by decide
  have hL4 : w.cell? ⟨L, 4, none⟩ = some (.slice (some ⟨q, 0, none⟩) bs.length cap) := by rw [cell_at hL]; rfl
  have hLs := lt_of_at hL
  have hLs1 : L < w.heap.size + 1 := by omega
  have hLs2 : L < w.heap.size + 1 + 1 := by omega
  have hLs3 : L < w.heap.size + 1 + 1 + 1 := by omega
  obtain ⟨n, hn⟩ : ∃ n, n = bs.length := ⟨_, rfl⟩
  rw [← hn] at hL4
  have hn4 : n ≤ 4096 := by omega
  have HM := hid hn
  have HL := hid hlen
  have HLL := hid hL
  have HQ := hid hq
  clear hn hlen hL hq
  refine callsIn_of_wp_marks Try.func38 rfl trivial ?_ rfl
  simp only [Try.ntmps38, List.size_toArray, List.length_cons, List.length_nil, Nat.reduceAdd, Nat.reduceSub, Array.replicate_succ, Array.replicate_zero, List.push_toArray, List.append_toArray, List.nil_append, List.cons_append]
  gi_wp2_with fail
  have f3 := heap_old _ (.cells #[.map (some (w.heap.size + 1 + 1))] 98) (heap_old _ (.map #[] 0) (heap_old _ (.cells #[.int .i64 0] 3) (heap_push w (.cells #[.func (.func 39) #[] #[.pointer (some ⟨bb, 0, none⟩)]] 77))))
  have f4 := heap_old _ (.cells #[.map (some (w.heap.size + 1 + 1))] 98) (heap_old _ (.map #[] 0) (heap_push2 w (.cells #[.func (.func 39) #[] #[.pointer (some ⟨bb, 0, none⟩)]] 77) (.cells #[.int .i64 0] 3)))
  have f5 := heap_push (((w.alloc (.cells #[.func (.func 39) #[] #[.pointer (some ⟨bb, 0, none⟩)]] 77)).alloc (.cells #[.int .i64 0] 3)).alloc (.map #[] 0)) (.cells #[.map (some (w.heap.size + 1 + 1))] 98)
  have om := (World.ownsMap_made ((w.alloc (.cells #[.func (.func 39) #[] #[.pointer (some ⟨bb, 0, none⟩)]] 77)).alloc (.cells #[.int .i64 0] 3)) Try.prog 9 (plainElem (H := Unit) Try.prog 3)).alloc (.cells #[.map (some (w.heap.size + 1 + 1))] 98)
  have hK0 : Kp [] w ((((w.alloc (.cells #[.func (.func 39) #[] #[.pointer (some ⟨bb, 0, none⟩)]] 77)).alloc (.cells #[.int .i64 0] 3)).alloc (.map #[] 0)).alloc (.cells #[.map (some (w.heap.size + 1 + 1))] 98)) := ((((Kp.refl _ _).alloc _).alloc _).alloc _).alloc _
  simp only [World.size_alloc] at f5 om
  have hw0s : ((((w.alloc (.cells #[.func (.func 39) #[] #[.pointer (some ⟨bb, 0, none⟩)]] 77)).alloc (.cells #[.int .i64 0] 3)).alloc (.map #[] 0)).alloc (.cells #[.map (some (w.heap.size + 1 + 1))] 98)).heap.size = w.heap.size + 4 := by simp
  generalize ((((w.alloc (.cells #[.func (.func 39) #[] #[.pointer (some ⟨bb, 0, none⟩)]] 77)).alloc (.cells #[.int .i64 0] 3)).alloc (.map #[] 0)).alloc (.cells #[.map (some (w.heap.size + 1 + 1))] 98)) = w0 at f3 f4 f5 om hK0 hw0s ⊢
  have lt : w.heap.size < w.heap.size + 1 ∧ w.heap.size + 1 < w.heap.size + 1 + 1 ∧ w.heap.size + 1 + 1 < w.heap.size + 1 + 1 + 1 ∧ w.heap.size + 1 + 1 + 1 < w0.heap.size := by omega
  clear hw0s hLs1 hLs2 hLs3
  generalize w.heap.size + 1 + 1 + 1 = B5 at f5 lt ⊢
  generalize w.heap.size + 1 + 1 = Bm at f5 om lt ⊢
  generalize w.heap.size + 1 = B4 at f4 lt ⊢
  obtain ⟨B3, hB3⟩ : ∃ B3, B3 = w.heap.size := ⟨_, rfl⟩
  rw [← hB3] at f3 lt ⊢
  have HB3 := hid hB3
  clear hB3
  obtain ⟨lt3, lt4, ltm, lt5⟩ := lt
  gi_loopw [24] (fun i wr => ∃ k : Nat, k ≤ n ∧ i = .int .i64 k ∧ wr.ownsMap Try.prog 9 (plainElem (H := Unit) Try.prog 3) Bm k (firstD bs k) ∧ Kp [Bm] w0 wr) (fun i _ => n - (intOf i).toNat)
  case atStart => exact ⟨0, Nat.zero_le _, rfl, om, Kp.refl _ _⟩
  case round =>
    obtain ⟨k, hk, rfl, hown, hKr⟩ := hrel
    have hc5 : wr.cell? ⟨B5, 0, none⟩ = some (.map (some Bm)) := by rw [cell_at (hKr.at f5 (by simp; omega))]; rfl
    by_cases hlt : k < n
    · obtain ⟨b, hb⟩ : ∃ b, bs[k]? = some b := ⟨bs[k]'(by have := HM.out; omega), by simp⟩
      have hpid : pid bs k = b.it.paired := by simp [pid, hb]
      have hcs := HQ.out k b hb
      obtain ⟨⟨ty, id, call, role, raw⟩, ra, rc⟩ := b
      have hcs' := fun j v h => hKr.cell (hK0.cell (hcs j v h) (by simp)) (show q ∉ [Bm] by have := HB3.out; simp; omega)
      simp only [It.blk] at hcs'
      have c0 := hcs' 0 _ rfl
      have c1 := hcs' 1 _ rfl
      have c2 := hcs' 2 _ rfl
      have c3 := hcs' 3 _ rfl
      have c4 := hcs' 4 _ rfl
      have c5 := hcs' 5 _ rfl
      have c6 := hcs' 6 _ rfl
      have c7 := hcs' 7 _ rfl
      have c8 := hcs' 8 _ rfl
      simp only [Nat.add_zero] at c0
      have HB := hid hb
      have HP := hid hpid
      clear hcs hcs' hb hpid
      gi_wp2_with fail
      have hk47 := paired47 ⟨ty, id, call, role, raw⟩ ra rc
      have hps := hsz k
      rw [HP.out] at hps
      generalize It.paired _ = pp at HP hk47 hps
      refine ⟨trivial, (callsIn_wide.2 (hk47 _)).mono ?_⟩
      clear hk47
      rintro e w1 ⟨rfl, hk1⟩
      have hka : Kp [] wr w1 := ((Kp.refl _ _).alloc _).trans hk1
      have hown1 := hown.kept hka.grown (by simp)
      have hc5' := hka.cell hc5 (by simp)
      have hkey := WideMaps.keyOf_string_mk (P := Try.prog) Try.underlying9 (s := pp) (by omega)
      have hK1 : Kp [Bm] w0 w1 := hKr.trans hka.nil
      have hstep : firstD bs (k + 1) = if pp.toList = [] then firstD bs k else if Maps.has (firstD bs k) (keyL pp) = true then firstD bs k else (firstD bs k).put (keyL pp) (.lit (.int .i64 (k : Int))) := by rw [firstD, HP.out]
      have HST := hid hstep
      have hkw : (Lit.int .i64 (k : Int)).wf = true := WalkArith.wf_i64 ⟨by omega, by omega⟩
      clear hstep hk1 hown c0 c1 c2 c3 c4 c5 c6 c7 c8 hc5 hps
      obtain ⟨hs, hhs⟩ : ∃ hs, Maps.has (firstD bs k) (Lit.string pp.data.toList) = hs := ⟨_, rfl⟩
      by_cases he : pp.toList = []
      · have he' : pp.toList.isEmpty = true := by rw [he]; rfl
        gi_wp2_with (first
          | (gi_at_lookup; refine wpListIn_lookup_own_ok_int _ rfl _ _ 98 rfl 9 3 .i64 (Maps.string_keyed Try.underlying9) Try.underlying98 Try.underlying3 (Try.zeroValue3 _) Bm k _ rfl hown1 _ _ rfl hkey ?_; intro c hat hwc; rw [hhs])
          | fail)
        go_roundw
        case rel => exact ⟨k + 1, by omega, by go_num, by rw [HST.out, if_pos he]; exact hown1.mono (by omega), hK1⟩
        case measure => simp [intOf]; omega
      · have he' : pp.toList.isEmpty = false := by simpa using he
        cases hs
        · gi_wp2_with (first
            | (gi_at_lookup; refine wpListIn_lookup_own_ok_int _ rfl _ _ 98 rfl 9 3 .i64 (Maps.string_keyed Try.underlying9) Try.underlying98 Try.underlying3 (Try.zeroValue3 _) Bm k _ rfl hown1 _ _ rfl hkey ?_; intro c hat hwc; rw [hhs])
            | (gi_at_mapUpdate; refine wpListIn_mapUpdate_own _ rfl _ _ _ 98 rfl 9 3 (Maps.string_keyed Try.underlying9) Try.underlying98 _ Bm k _ rfl hown1 (by omega) _ _ _ rfl rfl hkey _ [] (plainElem_int Try.underlying3 hkw) ?_; intro w2 hown2 hgrow2)
            | fail)
          go_roundw
          case rel => exact ⟨k + 1, by omega, by go_num, by rw [HST.out, if_neg he, if_neg (by rw [keyL, hhs]; simp)]; exact hown2, hK1.trans (kp_map hgrow2)⟩
          case measure => simp [intOf]; omega
        · gi_wp2_with (first
            | (gi_at_lookup; refine wpListIn_lookup_own_ok_int _ rfl _ _ 98 rfl 9 3 .i64 (Maps.string_keyed Try.underlying9) Try.underlying98 Try.underlying3 (Try.zeroValue3 _) Bm k _ rfl hown1 _ _ rfl hkey ?_; intro c hat hwc; rw [hhs])
            | fail)
          go_roundw
          case rel => exact ⟨k + 1, by omega, by go_num, by rw [HST.out, if_neg he, if_pos (by rw [keyL]; exact hhs)]; exact hown1.mono (by omega), hK1⟩
          case measure => simp [intOf]; omega
    · have hkn : k = n := by omega
      subst hkn
      have hLr := hKr.cell (hK0.cell hL4 (by simp)) (show L ∉ [Bm] by have := HB3.out; simp; omega)
      have hl0 : L < wr.heap.size := lt_of_cell hLr
      have hl1 : L < wr.heap.size + 1 := by omega
      have hl2 : L < wr.heap.size + 1 + 1 := by omega
      have hl3 : L < wr.heap.size + 1 + 1 + 1 := by omega
      gi_wp2_with fail
      refine ⟨trivial, (back48 Fence.wide _ trivial rfl _ _ _ _).mono ?_⟩
      rintro e w1 ⟨rfl, rfl⟩
      gi_wp2_with fail
      have g11 := heap_old _ (.cells #[.slice (some ⟨q, 0, none⟩) k cap] 58) (heap_old _ (.cells #[.bool false] 4) (heap_old _ (.cells #[.int .i64 0] 3) (heap_old _ (.cells #[.int .i64 0] 3) (heap_push wr (.cells #[.int .i64 (k : Int)] 3)))))
      have g12 := heap_old _ (.cells #[.slice (some ⟨q, 0, none⟩) k cap] 58) (heap_old _ (.cells #[.bool false] 4) (heap_old _ (.cells #[.int .i64 0] 3) (heap_push2 wr (.cells #[.int .i64 (k : Int)] 3) (.cells #[.int .i64 0] 3))))
      have g13 := heap_old _ (.cells #[.slice (some ⟨q, 0, none⟩) k cap] 58) (heap_old _ (.cells #[.bool false] 4) (heap_push2 (wr.alloc (.cells #[.int .i64 (k : Int)] 3)) (.cells #[.int .i64 0] 3) (.cells #[.int .i64 0] 3)))
      have g14 := heap_old _ (.cells #[.slice (some ⟨q, 0, none⟩) k cap] 58) (heap_push2 ((wr.alloc (.cells #[.int .i64 (k : Int)] 3)).alloc (.cells #[.int .i64 0] 3)) (.cells #[.int .i64 0] 3) (.cells #[.bool false] 4))
      have gs := heap_push2 (((wr.alloc (.cells #[.int .i64 (k : Int)] 3)).alloc (.cells #[.int .i64 0] 3)).alloc (.cells #[.int .i64 0] 3)) (.cells #[.bool false] 4) (.cells #[.slice (some ⟨q, 0, none⟩) k cap] 58)
      simp only [World.size_alloc] at g13 g14 gs
      have hKa : Kp [Bm] w0 (((((wr.alloc (.cells #[.int .i64 (k : Int)] 3)).alloc (.cells #[.int .i64 0] 3)).alloc (.cells #[.int .i64 0] 3)).alloc (.cells #[.bool false] 4)).alloc (.cells #[.slice (some ⟨q, 0, none⟩) k cap] 58)) := ((((hKr.alloc _).alloc _).alloc _).alloc _).alloc _
      have hown1 := ((((hown.alloc (.cells #[.int .i64 (k : Int)] 3)).alloc (.cells #[.int .i64 0] 3)).alloc (.cells #[.int .i64 0] 3)).alloc (.cells #[.bool false] 4)).alloc (.cells #[.slice (some ⟨q, 0, none⟩) k cap] 58)
      have hw1s : (((((wr.alloc (.cells #[.int .i64 (k : Int)] 3)).alloc (.cells #[.int .i64 0] 3)).alloc (.cells #[.int .i64 0] 3)).alloc (.cells #[.bool false] 4)).alloc (.cells #[.slice (some ⟨q, 0, none⟩) k cap] 58)).heap.size = wr.heap.size + 5 := by simp
      generalize (((((wr.alloc (.cells #[.int .i64 (k : Int)] 3)).alloc (.cells #[.int .i64 0] 3)).alloc (.cells #[.int .i64 0] 3)).alloc (.cells #[.bool false] 4)).alloc (.cells #[.slice (some ⟨q, 0, none⟩) k cap] 58)) = w1 at g11 g12 g13 g14 gs hKa hown1 hw1s ⊢
      have lt : wr.heap.size < wr.heap.size + 1 ∧ wr.heap.size + 1 < wr.heap.size + 1 + 1 ∧ wr.heap.size + 1 + 1 < wr.heap.size + 1 + 1 + 1 ∧ wr.heap.size + 1 + 1 + 1 < wr.heap.size + 1 + 1 + 1 + 1 ∧ wr.heap.size + 1 + 1 + 1 + 1 < w1.heap.size ∧ w0.heap.size ≤ wr.heap.size := by have := hKr.size; omega
      clear hw1s hl1 hl2 hl3 hl0 hown hLr
      generalize wr.heap.size + 1 + 1 + 1 + 1 = Bs at gs lt ⊢
      generalize wr.heap.size + 1 + 1 + 1 = B14 at g14 lt ⊢
      generalize wr.heap.size + 1 + 1 = B13 at g13 lt ⊢
      generalize wr.heap.size + 1 = B12 at g12 lt ⊢
      generalize wr.heap.size = B11 at g11 lt ⊢
      obtain ⟨l11, l12, l13, l14, ls, l0⟩ := lt
      have g3 := hKa.at f3 (by simp; omega)
      have g4 := hKa.at f4 (by simp; omega)
      have g5 := hKa.at f5 (by simp; omega)
      have gb := hKa.at (hK0.at hb (by simp)) (show bb ∉ [Bm] by have := lt_of_at hb; have := HB3.out; simp; omega)
      have gq : BSl w1 q bs := fun i b hb j v hv => hKa.cell (hK0.cell (HQ.out i b hb j v hv) (by simp)) (show q ∉ [Bm] by have := HB3.out; simp; omega)
      have hbw := lt_of_at hb
      have hKall : Kp [] w w1 := (hK0.nil.trans hKa).drop [] (by have := HB3.out; simp; omega)
      have Xlt : ∀ j ∈ [B11, B12, B13, B14, B4], j < w1.heap.size := by simp; omega
      refine wpIn_rangeFunc_ownH (F := Fence.wide) (n := 3) (α := Fin bs.length) rfl (by omega) (gf := 54) (lb := #[.pointer (some ⟨Bs, 0, none⟩)]) rfl trivial (enters_of Try.func54 (by kernel_rfl) rfl)
        (back_stops Fence.wide 2 trivial rfl (by omega) Bs w1.heap.size q cap [B11, B12, B13, B14, B4] bs HL.out (by have := HB3.out; omega) (by have := HB3.out; simp; omega) (by omega) (by simp; omega) w1 (Nat.le_refl _) (by rw [cell_at gs, ← HM.out]; rfl) gq)
        (fun h k => h.trans k) (fun W l o o' hl _ _ _ => ⟨by simp, fun k hk _ => World.putObj_heap_other (by omega)⟩) (Below.refl _ _) (fun _ => rfl)
        (CI bs bud B11 B12 B13 B14 B4 w1)
        (CIx bs bud B11 B12 B13 B14 B4 w1)
        (fun pre A B row ⟨s, h1, h2, h3, h4, h5, h6, h7⟩ hg hr => ⟨s, h1, cells_own h2 hg hr, cells_own h3 hg hr, cells_own h4 hg hr, cells_own h5 hg hr, cells_own h6 hg hr, h7.own hg (fun r e => (hr r e).1)⟩)
        (fun c pre A B row ⟨h0, ini, x, s, h1, h2, h3, h4, h5⟩ hg hr => ⟨h0, ini, x, s, h1, h2, h3, cells_own h4 hg hr, h5.own hg (fun r e => (hr r e).1)⟩)
        ⟨⟨(k : Int), 0, 0, false⟩, by rw [HM.out]; rfl, g11, g12, g13, g14, g4, Kp.refl _ _⟩
        (fun x a' W => ∃ Bx, w1.heap.size ≤ Bx ∧ W.heap[Bx]? = some (.cells ((bs[x.1]).it.blk (bs[x.1]).ra (bs[x.1]).rc) 92 (0, 0)) ∧ a' = { tmps := #[.pointer (some ⟨L, 0, none⟩), .func (.func 39) #[] #[.pointer (some ⟨bb, 0, none⟩)], undef, .pointer (some ⟨B3, 0, none⟩), .pointer (some ⟨B4, 0, none⟩), .pointer (some ⟨B5, 0, none⟩), u6, u7, u8, u9, u10, .pointer (some ⟨B11, 0, none⟩), .pointer (some ⟨B12, 0, none⟩), .pointer (some ⟨B13, 0, none⟩), .pointer (some ⟨B14, 0, none⟩), .int .i64 (x.1 : Int), .pointer (some ⟨Bx, 0, none⟩), undef, .map (some Bm), .pointer (some ⟨L, 0, none⟩), .pointer (some ⟨L, 0, none⟩), .pointer (some ⟨L, 4, none⟩), .slice (some ⟨q, 0, none⟩) k cap, .int .i64 k, .int .i64 k, .bool false, u26, u27, u28, u29, u30, u31, u32, u33, u34, u35, u36, u37, u38, u39, u40, u41, u42, u43, u44, u45, u46, .pointer (some ⟨L, 0, none⟩), .pointer (some ⟨L, 0, none⟩), .pointer (some ⟨L, 4, none⟩), .slice (some ⟨q, 0, none⟩) k cap, .int .i64 k, .pointer (some ⟨L, 0, none⟩), .pointer (some ⟨L, 0, none⟩), .pointer (some ⟨L, 4, none⟩), .slice (some ⟨q, 0, none⟩) k cap, .func (.func 54) #[] #[.pointer (some ⟨Bs, 0, none⟩)], .int .i64 (x.1 : Int), (bs[x.1]).val, undef, undef, undef, undef, undef, undef, undef, undef, undef, undef, undef, undef, undef, undef, undef, undef, undef, undef, undef, undef, undef, undef, undef, undef, undef, undef, undef, undef, undef, undef, undef, undef, undef, undef, undef, undef, undef, undef, undef, undef, undef, undef], defers := [] })
        (fun x a' _ A B row ⟨Bx, h1, h2, h3⟩ hg hr => ⟨Bx, h1, cells_own h2 hg hr, h3⟩) ?assign ?body ?done ?stop
      case assign =>
        rintro l pre x W K ⟨s, h1, h2, h3, h4, h5, h6, h7⟩ hK
        have hsz1 := h7.size
        obtain ⟨b, hbx⟩ : ∃ b, b = bs[x.1] := ⟨_, rfl⟩
        have hI : ∃ s, wlkF bs bud (pre.map (·.1)) = some s ∧ ∀ o, (W.alloc o).heap[B11]? = some (.cells #[.int .i64 s.reach] 3 (0, 0)) ∧ (W.alloc o).heap[B12]? = some (.cells #[.int .i64 s.size] 3 (0, 0)) ∧ (W.alloc o).heap[B13]? = some (.cells #[.int .i64 s.kept] 3 (0, 0)) ∧ (W.alloc o).heap[B14]? = some (.cells #[.bool s.found] 4 (0, 0)) ∧ (W.alloc o).heap[B4]? = some (.cells #[.int .i64 0] 3 (0, 0)) ∧ Kp [B11, B12, B13, B14, B4] w1 (W.alloc o) :=
          ⟨s, h1, fun o => ⟨heap_old _ _ h2, heap_old _ _ h3, heap_old _ _ h4, heap_old _ _ h5, heap_old _ _ h6, h7.alloc _⟩⟩
        obtain ⟨s', hs1, hs2⟩ := hI
        have hK2 := fun a' W' p q r t => hK a' W' p q ⟨s', hs1, r⟩ t
        clear hK h1 h2 h3 h4 h5 h6 h7
        rw [← hbx] at hK2 ⊢
        obtain ⟨⟨ty, id, call, role, raw⟩, ra, rc⟩ := b
        dsimp only [Bk.val, It.blk] at hK2 ⊢
        clear hbx
        have HK2 := hid hK2
        have HS2 := hid hs2
        clear hK2 hs2 hs1
        gi_wp2
        exact HK2.out _ _ (((Kp.refl [] _).alloc _).from _ (by simp)) (((Kp.refl _ _).alloc _).keepB _ _ hsz1) (HS2.out _) ⟨W.heap.size, hsz1, heap_push _ _, rfl⟩
      case body =>
        rintro l pre x a' W hl ⟨r, hr⟩ ⟨⟨rch, sz0, kp, fd⟩, h1, h2, h3, h4, h5, h6, h7⟩ ⟨Bx, hBx, hbx, rfl⟩ hlt
        obtain ⟨i, hi⟩ := x
        dsimp only at hbx h2 h3 h4 h5 ⊢
        obtain ⟨b, hb0⟩ : ∃ b, b = bs[i] := ⟨_, rfl⟩
        rw [← hb0] at hbx ⊢
        have hbi : bs[i]? = some b := by rw [hb0]; simp
        have hpid : pid bs i = b.it.paired := by simp [pid, hbi]
        have hstp : ∀ s', stp bs bud ⟨rch, sz0, kp, fd⟩ i = s' → wlkF bs bud ((pre ++ [(⟨i, hi⟩ : Fin bs.length)]).map (·.1)) = s' := fun s' e => by
          rw [List.map_append]; exact (wlkF_snoc _ _ _ _ _ h1).trans e
        clear hb0
        obtain ⟨⟨ty, id, call, role, raw⟩, ra, rc⟩ := b
        dsimp only [Bk.val, It.blk] at hbx ⊢
        have hs : stp bs bud ⟨rch, sz0, kp, fd⟩ i = stpF (It.user ⟨ty, id, call, role, raw⟩) (if (pid bs i).toList = [] then rch else min rch (firstN bs i)) (wrap64 (sz0 + raw.size)) kp bud fd i := by
          simp only [stp, hbi, Option.map_some, Option.getD_some]
        have x0 := cell_at hbx 0
        have x1 := cell_at hbx 1
        have x2 := cell_at hbx 2
        have x3 := cell_at hbx 3
        have x4 := cell_at hbx 4
        have x5 := cell_at hbx 5
        have x6 := cell_at hbx 6
        have x7 := cell_at hbx 7
        have x8 := cell_at hbx 8
        simp at x0 x1 x2 x3 x4 x5 x6 x7 x8
        have c12 : W.cell? ⟨B12, 0, none⟩ = some (.int .i64 sz0) := by rw [cell_at h3]; rfl
        have fz12 := frozen_at h3 0
        have hne12 : B12 ≠ Bx := by omega
        have hne12' : Bx ≠ B12 := by omega
        have HH := hid (And.intro h2 (And.intro h3 (And.intro h4 (And.intro h5 (And.intro h6 (And.intro h7 hbx))))))
        have HS := hid hs
        have HSTP := hid hstp
        have H1 := hid h1
        have HP := hid hpid
        clear h2 h3 h4 h5 h6 h7 hbx hs hstp hpid h1 hbi
        gi_wp2_with fail
        have hk47 := paired47 ⟨ty, id, call, role, raw⟩ ra rc
        have hps := hsz i
        rw [HP.out] at hps
        generalize wrap64 (sz0 + raw.size) = z at HS ⊢
        dsimp only [It.blk] at hk47
        generalize It.paired _ = pp at HP hk47 hps
        refine ⟨trivial, (CallsIn.inRound l (callsIn_wide.2 (hk47 _))).mono ?_⟩
        clear hk47
        rintro e W2 ⟨rfl, hk1⟩
        obtain ⟨h2, h3, h4, h5, h6, h7, hbx⟩ := HH.out
        have kz : Kp [B11, B12, B13, B14, B4] W W2 := ((Kp.refl _ _).setCell (Or.inl (by simp)) _).trans hk1.nil
        have h7' := h7.trans kz
        have H70 := hid h7
        have h2' := hk1.at (at_setCell h2 ⟨B12, 0, none⟩ (.int .i64 z) (by show B11 ≠ B12; omega)) (by simp)
        have h3' := hk1.at (heap_setCell_at h3 0 (.int .i64 z)) (by simp)
        have h4' := hk1.at (at_setCell h4 ⟨B12, 0, none⟩ (.int .i64 z) (by show B13 ≠ B12; omega)) (by simp)
        have h5' := hk1.at (at_setCell h5 ⟨B12, 0, none⟩ (.int .i64 z) (by show B14 ≠ B12; omega)) (by simp)
        have h6' := hk1.at (at_setCell h6 ⟨B12, 0, none⟩ (.int .i64 z) (by show B4 ≠ B12; omega)) (by simp)
        have hbx' := hk1.at (at_setCell hbx ⟨B12, 0, none⟩ (.int .i64 z) (by show Bx ≠ B12; omega)) (by simp)
        simp only [List.setIfInBounds_toArray, List.set_cons_zero] at h3'
        have g3' := h7'.at g3 (by simp; omega)
        have g5' := h7'.at g5 (by simp; omega)
        have gb' := h7'.at gb (by have := HB3.out; simp; omega)
        have hownW := ownsMap_at hown1 (h7'.block Bm (by omega) (by simp; omega))
        have d3 : W2.cell? ⟨B3, 0, none⟩ = some (.func (.func 39) #[] #[.pointer (some ⟨bb, 0, none⟩)]) := by rw [cell_at g3']; rfl
        have d5 : W2.cell? ⟨B5, 0, none⟩ = some (.map (some Bm)) := by rw [cell_at g5']; rfl
        have d4 : W2.cell? ⟨B4, 0, none⟩ = some (.int .i64 0) := by rw [cell_at h6']; rfl
        have d11 : W2.cell? ⟨B11, 0, none⟩ = some (.int .i64 rch) := by rw [cell_at h2']; rfl
        have d12 : W2.cell? ⟨B12, 0, none⟩ = some (.int .i64 z) := by rw [cell_at h3']; rfl
        have d13 : W2.cell? ⟨B13, 0, none⟩ = some (.int .i64 kp) := by rw [cell_at h4']; rfl
        have d14 : W2.cell? ⟨B14, 0, none⟩ = some (.bool fd) := by rw [cell_at h5']; rfl
        have y3 : W2.cell? ⟨Bx, 3, none⟩ = some (.string ty) := by rw [cell_at hbx']; rfl
        have y6 : W2.cell? ⟨Bx, 6, none⟩ = some (.string role) := by rw [cell_at hbx']; rfl
        have e4 := frozen_at h6' 0
        have e11 := frozen_at h2' 0
        have e13 := frozen_at h4' 0
        have e14 := frozen_at h5' 0
        have ne1 : Bx ≠ B11 := by omega
        have ne2 : B11 ≠ B12 := by omega
        have ne3 : B11 ≠ B13 := by omega
        have ne4 : B11 ≠ B14 := by omega
        have ne5 : B13 ≠ B14 := by omega
        have ne6 : B3 ≠ B11 := by omega
        have ne7 : B4 ≠ B11 := by omega
        have ne1' : B11 ≠ Bx := by omega
        have ne2' : B12 ≠ B11 := by omega
        have ne3' : B13 ≠ B11 := by omega
        have ne4' : B14 ≠ B11 := by omega
        have ne5' : B14 ≠ B13 := by omega
        have ne6' : B11 ≠ B3 := by omega
        have ne7' : B11 ≠ B4 := by omega
        have hkey := WideMaps.keyOf_string_mk (P := Try.prog) Try.underlying9 (s := pp) (by omega)
        have hc0 : ∀ c, (firstD bs k).atKey (Lit.string pp.data.toList) (.lit (.int .i64 0)) = .lit (.int .i64 c) → c = firstN bs i := fun c hat => by
          rw [firstN, ← HM.out, HP.out, keyL, hat]
        have HF := hid (And.intro h2' (And.intro h3' (And.intro h4' (And.intro h5' (And.intro h6' (And.intro h7' (And.intro hbx' (And.intro gb' kz))))))))
        have HS := HS
        rw [HP.out] at HS
        clear h2 h3 h4 h5 h6 h7 hbx h2' h3' h4' h5' h6' hbx' h7' g3' g5' gb' x0 x1 x2 x3 x4 x5 x6 x7 x8 c12 fz12 hne12 hne12' kz hk1 HH
        have HSZ := hid hsz
        have HBW := hid hbw
        clear hsz hmm f3 f4 f5 om hK0 hKr hKa g11 g12 g13 g14 gs g3 g4 g5 gb gq hb hps hqs hL4 hown1 hbw hKall
        have hfit := fun (W3 : World) (h : W3.heap[bb]? = some (.cells #[.int .i64 bud] 3 (0, 0))) => fits39 (i : Int) z bud bb W3 h
        have nb : bb ≠ B11 := by have := HB3.out; have := HBW.out; omega
        have h70 := H70.out
        have hW1 := h70.size
        obtain ⟨h2, h3, h4, h5, h6, h7, hbx, gb, kz⟩ := HF.out
        have fin0 : stp bs bud ⟨rch, sz0, kp, fd⟩ i = some ⟨rch, z, kp, fd⟩ → KeepsFrom w1.heap.size W W2 ∧ KeepB w1.heap.size Bs [B11, B12, B13, B14, B4] W W2 ∧ CI bs bud B11 B12 B13 B14 B4 w1 (pre ++ [⟨i, hi⟩]) W2 := fun he => by
          have KZ := kz
          exact ⟨KZ.from _ Xlt, KZ.keepB _ _ hW1, ⟨rch, z, kp, fd⟩, HSTP.out _ he, h2, h3, h4, h5, h6, h70.trans KZ⟩
        have finR : ∀ (rc : Int) , stp bs bud ⟨rch, sz0, kp, fd⟩ i = some ⟨rc, z, kp, fd⟩ → KeepsFrom w1.heap.size W (W2.setCell ⟨B11, 0, none⟩ (.int .i64 rc)) ∧ KeepB w1.heap.size Bs [B11, B12, B13, B14, B4] W (W2.setCell ⟨B11, 0, none⟩ (.int .i64 rc)) ∧ CI bs bud B11 B12 B13 B14 B4 w1 (pre ++ [⟨i, hi⟩]) (W2.setCell ⟨B11, 0, none⟩ (.int .i64 rc)) := fun rc he => by
          have KZ := (kz.setCell (p := ⟨B11, 0, none⟩) (Or.inl (by simp)) (.int .i64 rc))
          exact ⟨KZ.from _ Xlt, KZ.keepB _ _ hW1, ⟨rc, z, kp, fd⟩, HSTP.out _ he, (heap_setCell_at h2 0 (.int .i64 rc)), (at_setCell h3 ⟨B11, 0, none⟩ (.int .i64 rc) (by show B12 ≠ B11; omega)), (at_setCell h4 ⟨B11, 0, none⟩ (.int .i64 rc) (by show B13 ≠ B11; omega)), (at_setCell h5 ⟨B11, 0, none⟩ (.int .i64 rc) (by show B14 ≠ B11; omega)), (at_setCell h6 ⟨B11, 0, none⟩ (.int .i64 rc) (by show B4 ≠ B11; omega)), h70.trans KZ⟩
        have finD0 : stp bs bud ⟨rch, sz0, kp, fd⟩ i = some ⟨rch, z, (i : Int), true⟩ → KeepsFrom w1.heap.size W ((W2.setCell ⟨B13, 0, none⟩ (.int .i64 (i : Int))).setCell ⟨B14, 0, none⟩ (.bool true)) ∧ KeepB w1.heap.size Bs [B11, B12, B13, B14, B4] W ((W2.setCell ⟨B13, 0, none⟩ (.int .i64 (i : Int))).setCell ⟨B14, 0, none⟩ (.bool true)) ∧ CI bs bud B11 B12 B13 B14 B4 w1 (pre ++ [⟨i, hi⟩]) ((W2.setCell ⟨B13, 0, none⟩ (.int .i64 (i : Int))).setCell ⟨B14, 0, none⟩ (.bool true)) := fun he => by
          have KZ := ((kz.setCell (p := ⟨B13, 0, none⟩) (Or.inl (by simp)) (.int .i64 (i : Int))).setCell (p := ⟨B14, 0, none⟩) (Or.inl (by simp)) (.bool true))
          exact ⟨KZ.from _ Xlt, KZ.keepB _ _ hW1, ⟨rch, z, (i : Int), true⟩, HSTP.out _ he, (at_setCell (at_setCell h2 ⟨B13, 0, none⟩ (.int .i64 (i : Int)) (by show B11 ≠ B13; omega)) ⟨B14, 0, none⟩ (.bool true) (by show B11 ≠ B14; omega)), (at_setCell (at_setCell h3 ⟨B13, 0, none⟩ (.int .i64 (i : Int)) (by show B12 ≠ B13; omega)) ⟨B14, 0, none⟩ (.bool true) (by show B12 ≠ B14; omega)), (at_setCell (heap_setCell_at h4 0 (.int .i64 (i : Int))) ⟨B14, 0, none⟩ (.bool true) (by show B13 ≠ B14; omega)), (heap_setCell_at (at_setCell h5 ⟨B13, 0, none⟩ (.int .i64 (i : Int)) (by show B14 ≠ B13; omega)) 0 (.bool true)), (at_setCell (at_setCell h6 ⟨B13, 0, none⟩ (.int .i64 (i : Int)) (by show B4 ≠ B13; omega)) ⟨B14, 0, none⟩ (.bool true) (by show B4 ≠ B14; omega)), h70.trans KZ⟩
        have finDR : ∀ (rc : Int) , stp bs bud ⟨rch, sz0, kp, fd⟩ i = some ⟨rc, z, (i : Int), true⟩ → KeepsFrom w1.heap.size W (((W2.setCell ⟨B11, 0, none⟩ (.int .i64 rc)).setCell ⟨B13, 0, none⟩ (.int .i64 (i : Int))).setCell ⟨B14, 0, none⟩ (.bool true)) ∧ KeepB w1.heap.size Bs [B11, B12, B13, B14, B4] W (((W2.setCell ⟨B11, 0, none⟩ (.int .i64 rc)).setCell ⟨B13, 0, none⟩ (.int .i64 (i : Int))).setCell ⟨B14, 0, none⟩ (.bool true)) ∧ CI bs bud B11 B12 B13 B14 B4 w1 (pre ++ [⟨i, hi⟩]) (((W2.setCell ⟨B11, 0, none⟩ (.int .i64 rc)).setCell ⟨B13, 0, none⟩ (.int .i64 (i : Int))).setCell ⟨B14, 0, none⟩ (.bool true)) := fun rc he => by
          have KZ := (((kz.setCell (p := ⟨B11, 0, none⟩) (Or.inl (by simp)) (.int .i64 rc)).setCell (p := ⟨B13, 0, none⟩) (Or.inl (by simp)) (.int .i64 (i : Int))).setCell (p := ⟨B14, 0, none⟩) (Or.inl (by simp)) (.bool true))
          exact ⟨KZ.from _ Xlt, KZ.keepB _ _ hW1, ⟨rc, z, (i : Int), true⟩, HSTP.out _ he, (at_setCell (at_setCell (heap_setCell_at h2 0 (.int .i64 rc)) ⟨B13, 0, none⟩ (.int .i64 (i : Int)) (by show B11 ≠ B13; omega)) ⟨B14, 0, none⟩ (.bool true) (by show B11 ≠ B14; omega)), (at_setCell (at_setCell (at_setCell h3 ⟨B11, 0, none⟩ (.int .i64 rc) (by show B12 ≠ B11; omega)) ⟨B13, 0, none⟩ (.int .i64 (i : Int)) (by show B12 ≠ B13; omega)) ⟨B14, 0, none⟩ (.bool true) (by show B12 ≠ B14; omega)), (at_setCell (heap_setCell_at (at_setCell h4 ⟨B11, 0, none⟩ (.int .i64 rc) (by show B13 ≠ B11; omega)) 0 (.int .i64 (i : Int))) ⟨B14, 0, none⟩ (.bool true) (by show B13 ≠ B14; omega)), (heap_setCell_at (at_setCell (at_setCell h5 ⟨B11, 0, none⟩ (.int .i64 rc) (by show B14 ≠ B11; omega)) ⟨B13, 0, none⟩ (.int .i64 (i : Int)) (by show B14 ≠ B13; omega)) 0 (.bool true)), (at_setCell (at_setCell (at_setCell h6 ⟨B11, 0, none⟩ (.int .i64 rc) (by show B4 ≠ B11; omega)) ⟨B13, 0, none⟩ (.int .i64 (i : Int)) (by show B4 ≠ B13; omega)) ⟨B14, 0, none⟩ (.bool true) (by show B4 ≠ B14; omega)), h70.trans KZ⟩
        have finE0 : stp bs bud ⟨rch, sz0, kp, fd⟩ i = some ⟨rch, z, (i : Int), fd⟩ → KeepsFrom w1.heap.size W (W2.setCell ⟨B13, 0, none⟩ (.int .i64 (i : Int))) ∧ KeepB w1.heap.size Bs [B11, B12, B13, B14, B4] W (W2.setCell ⟨B13, 0, none⟩ (.int .i64 (i : Int))) ∧ CI bs bud B11 B12 B13 B14 B4 w1 (pre ++ [⟨i, hi⟩]) (W2.setCell ⟨B13, 0, none⟩ (.int .i64 (i : Int))) := fun he => by
          have KZ := (kz.setCell (p := ⟨B13, 0, none⟩) (Or.inl (by simp)) (.int .i64 (i : Int)))
          exact ⟨KZ.from _ Xlt, KZ.keepB _ _ hW1, ⟨rch, z, (i : Int), fd⟩, HSTP.out _ he, (at_setCell h2 ⟨B13, 0, none⟩ (.int .i64 (i : Int)) (by show B11 ≠ B13; omega)), (at_setCell h3 ⟨B13, 0, none⟩ (.int .i64 (i : Int)) (by show B12 ≠ B13; omega)), (heap_setCell_at h4 0 (.int .i64 (i : Int))), (at_setCell h5 ⟨B13, 0, none⟩ (.int .i64 (i : Int)) (by show B14 ≠ B13; omega)), (at_setCell h6 ⟨B13, 0, none⟩ (.int .i64 (i : Int)) (by show B4 ≠ B13; omega)), h70.trans KZ⟩
        have finER : ∀ (rc : Int) , stp bs bud ⟨rch, sz0, kp, fd⟩ i = some ⟨rc, z, (i : Int), fd⟩ → KeepsFrom w1.heap.size W ((W2.setCell ⟨B11, 0, none⟩ (.int .i64 rc)).setCell ⟨B13, 0, none⟩ (.int .i64 (i : Int))) ∧ KeepB w1.heap.size Bs [B11, B12, B13, B14, B4] W ((W2.setCell ⟨B11, 0, none⟩ (.int .i64 rc)).setCell ⟨B13, 0, none⟩ (.int .i64 (i : Int))) ∧ CI bs bud B11 B12 B13 B14 B4 w1 (pre ++ [⟨i, hi⟩]) ((W2.setCell ⟨B11, 0, none⟩ (.int .i64 rc)).setCell ⟨B13, 0, none⟩ (.int .i64 (i : Int))) := fun rc he => by
          have KZ := ((kz.setCell (p := ⟨B11, 0, none⟩) (Or.inl (by simp)) (.int .i64 rc)).setCell (p := ⟨B13, 0, none⟩) (Or.inl (by simp)) (.int .i64 (i : Int)))
          exact ⟨KZ.from _ Xlt, KZ.keepB _ _ hW1, ⟨rc, z, (i : Int), fd⟩, HSTP.out _ he, (at_setCell (heap_setCell_at h2 0 (.int .i64 rc)) ⟨B13, 0, none⟩ (.int .i64 (i : Int)) (by show B11 ≠ B13; omega)), (at_setCell (at_setCell h3 ⟨B11, 0, none⟩ (.int .i64 rc) (by show B12 ≠ B11; omega)) ⟨B13, 0, none⟩ (.int .i64 (i : Int)) (by show B12 ≠ B13; omega)), (heap_setCell_at (at_setCell h4 ⟨B11, 0, none⟩ (.int .i64 rc) (by show B13 ≠ B11; omega)) 0 (.int .i64 (i : Int))), (at_setCell (at_setCell h5 ⟨B11, 0, none⟩ (.int .i64 rc) (by show B14 ≠ B11; omega)) ⟨B13, 0, none⟩ (.int .i64 (i : Int)) (by show B14 ≠ B13; omega)), (at_setCell (at_setCell h6 ⟨B11, 0, none⟩ (.int .i64 rc) (by show B4 ≠ B11; omega)) ⟨B13, 0, none⟩ (.int .i64 (i : Int)) (by show B4 ≠ B13; omega)), h70.trans KZ⟩
        have finF0 : stp bs bud ⟨rch, sz0, kp, fd⟩ i = none → KeepsFrom w1.heap.size W (W2.setCell ⟨B4, 0, none⟩ (.int .i64 kp)) ∧ CIx bs bud B11 B12 B13 B14 B4 w1 .ret (pre ++ [⟨i, hi⟩]) (W2.setCell ⟨B4, 0, none⟩ (.int .i64 kp)) := fun he => by
          have KZ := (kz.setCell (p := ⟨B4, 0, none⟩) (Or.inl (by simp)) (.int .i64 kp))
          exact ⟨KZ.from _ Xlt, rfl, pre, ⟨i, hi⟩, ⟨rch, sz0, kp, fd⟩, rfl, H1.out, he, (heap_setCell_at h6 0 (.int .i64 kp)), h70.trans KZ⟩
        have finFR : ∀ (rc : Int) , stp bs bud ⟨rch, sz0, kp, fd⟩ i = none → KeepsFrom w1.heap.size W ((W2.setCell ⟨B11, 0, none⟩ (.int .i64 rc)).setCell ⟨B4, 0, none⟩ (.int .i64 kp)) ∧ CIx bs bud B11 B12 B13 B14 B4 w1 .ret (pre ++ [⟨i, hi⟩]) ((W2.setCell ⟨B11, 0, none⟩ (.int .i64 rc)).setCell ⟨B4, 0, none⟩ (.int .i64 kp)) := fun rc he => by
          have KZ := ((kz.setCell (p := ⟨B11, 0, none⟩) (Or.inl (by simp)) (.int .i64 rc)).setCell (p := ⟨B4, 0, none⟩) (Or.inl (by simp)) (.int .i64 kp))
          exact ⟨KZ.from _ Xlt, rfl, pre, ⟨i, hi⟩, ⟨rch, sz0, kp, fd⟩, rfl, H1.out, he, (heap_setCell_at (at_setCell h6 ⟨B11, 0, none⟩ (.int .i64 rc) (by show B4 ≠ B11; omega)) 0 (.int .i64 kp)), h70.trans KZ⟩
        have GB := hid gb
        clear h2 h3 h4 h5 h6 h7 hbx gb kz h70
        have FIN0 := hid fin0
        clear fin0
        have FINR := hid finR
        clear finR
        have FIND0 := hid finD0
        clear finD0
        have FINDR := hid finDR
        clear finDR
        have FINE0 := hid finE0
        clear finE0
        have FINER := hid finER
        clear finER
        have FINF0 := hid finF0
        clear finF0
        have FINFR := hid finFR
        clear finFR
        by_cases he : pp.toList = []
        · have he' : pp.toList.isEmpty = true := by rw [he]; rfl
          have hs2 : stp bs bud ⟨rch, sz0, kp, fd⟩ i = stpF (It.user ⟨ty, id, call, role, raw⟩) rch z kp bud fd i := by rw [HS.out, if_pos he]
          have HS2 := hid hs2
          clear hs2 hkey hc0
          gi_wp2_with (first | (refine ⟨trivial, ?_⟩; gi_at_call 39; refine (CallsIn.inRound l (callsIn_wide.2 (hfit _ (by first | exact GB.out | exact at_setCell GB.out _ _ nb)))).mono ?_; rintro e W3 ⟨rfl, rfl⟩) | fail)
          all_goals first
            | exact FIN0.out (HS2.out.trans (stA (by assumption)))
            | exact FIN0.out (HS2.out.trans (stB (by assumption)))
            | exact FIN0.out (HS2.out.trans (stC (by assumption)))
            | exact FIND0.out (HS2.out.trans (stD (stU (by assumption) (by assumption)) (by assumption) (by assumption)))
            | exact FINE0.out (HS2.out.trans (stE (stU (by assumption) (by assumption)) (by assumption) (by assumption) (by first | assumption | omega)))
            | exact FINF0.out (HS2.out.trans (stN (stU (by assumption) (by assumption)) (by assumption) (by assumption) (by first | assumption | omega)))
        · have he' : pp.toList.isEmpty = false := by simpa using he
          by_cases hfN : firstN bs i < rch
          · have hs2 : stp bs bud ⟨rch, sz0, kp, fd⟩ i = stpF (It.user ⟨ty, id, call, role, raw⟩) (firstN bs i) z kp bud fd i := by rw [HS.out, if_neg he, show min rch (firstN bs i) = firstN bs i from by omega]
            have HS2 := hid hs2
            clear hs2
            gi_wp2_with (first | (gi_at_lookup; refine wpListIn_lookup_own_int _ rfl _ _ 98 rfl 9 3 .i64 (Maps.string_keyed Try.underlying9) Try.underlying98 Try.underlying3 (Try.zeroValue3 _) Bm k _ rfl hownW _ _ rfl hkey ?_; intro c hat hwc; rw [hc0 c hat]; clear hat hwc) | (refine ⟨trivial, ?_⟩; gi_at_call 39; refine (CallsIn.inRound l (callsIn_wide.2 (hfit _ (by first | exact GB.out | exact at_setCell GB.out _ _ nb)))).mono ?_; rintro e W3 ⟨rfl, rfl⟩) | fail)
            all_goals first
              | exact FINR.out _ (HS2.out.trans (stA (by assumption)))
              | exact FINR.out _ (HS2.out.trans (stB (by assumption)))
              | exact FINR.out _ (HS2.out.trans (stC (by assumption)))
              | exact FINDR.out _ (HS2.out.trans (stD (stU (by assumption) (by assumption)) (by assumption) (by assumption)))
              | exact FINER.out _ (HS2.out.trans (stE (stU (by assumption) (by assumption)) (by assumption) (by assumption) (by first | assumption | omega)))
              | exact FINFR.out _ (HS2.out.trans (stN (stU (by assumption) (by assumption)) (by assumption) (by assumption) (by first | assumption | omega)))
          · have hs2 : stp bs bud ⟨rch, sz0, kp, fd⟩ i = stpF (It.user ⟨ty, id, call, role, raw⟩) rch z kp bud fd i := by rw [HS.out, if_neg he, show min rch (firstN bs i) = rch from by omega]
            have HS2 := hid hs2
            clear hs2
            gi_wp2_with (first | (gi_at_lookup; refine wpListIn_lookup_own_int _ rfl _ _ 98 rfl 9 3 .i64 (Maps.string_keyed Try.underlying9) Try.underlying98 Try.underlying3 (Try.zeroValue3 _) Bm k _ rfl hownW _ _ rfl hkey ?_; intro c hat hwc; rw [hc0 c hat]; clear hat hwc) | (refine ⟨trivial, ?_⟩; gi_at_call 39; refine (CallsIn.inRound l (callsIn_wide.2 (hfit _ (by first | exact GB.out | exact at_setCell GB.out _ _ nb)))).mono ?_; rintro e W3 ⟨rfl, rfl⟩) | fail)
            all_goals first
              | exact FINR.out _ (HS2.out.trans (stA (by assumption)))
              | exact FINR.out _ (HS2.out.trans (stB (by assumption)))
              | exact FINR.out _ (HS2.out.trans (stC (by assumption)))
              | exact FINDR.out _ (HS2.out.trans (stD (stU (by assumption) (by assumption)) (by assumption) (by assumption)))
              | exact FINER.out _ (HS2.out.trans (stE (stU (by assumption) (by assumption)) (by assumption) (by assumption) (by first | assumption | omega)))
              | exact FINFR.out _ (HS2.out.trans (stN (stU (by assumption) (by assumption)) (by assumption) (by assumption) (by first | assumption | omega)))
      case done =>
        rintro D ys W hD hys ⟨s, h1, h2, h3, h4, h5, h6, h7⟩ hK
        have c13 : W.cell? ⟨B13, 0, none⟩ = some (.int .i64 s.kept) := by rw [cell_at h4]; rfl
        have c4 : W.cell? ⟨B4, 0, none⟩ = some (.int .i64 0) := by rw [cell_at h6]; rfl
        have fz4 := frozen_at h6 0
        gi_wp2
        have hK' := (KeepsOthers.setCell W ⟨B4, 0, none⟩ (.int .i64 s.kept)).same D _ hK rfl
        refine ⟨by simp, .inl ⟨_, _, rfl, run_takeDeferred hK', ?_⟩⟩
        have hc5 := cell_kept (World.cell?_setCell_same' W ⟨B4, 0, none⟩ (.int .i64 s.kept) (by rw [c4]; rfl)) (grownBy_putObj' _ D (.deferred none)) (fun r e => by cases e; exact ⟨_, hK', rfl⟩)
        have hfin : Kp [B11, B12, B13, B14, B4] w1 ((W.setCell ⟨B4, 0, none⟩ (.int .i64 s.kept)).putObj D (.deferred none)) := (h7.setCell (Or.inl (by simp)) _).own (grownBy_putObj' _ D _) (fun r e => by cases e; exact hD)
        refine ⟨.int .i64 s.kept, ?_, s.kept, rfl, .inl ⟨s, by rw [← hys]; exact h1, rfl⟩, (hKall.nil.trans hfin).drop [] (by have := HB3.out; have := hKall.size; simp; omega)⟩
        simp [results, Try.results38, go_sem, hc5]
      case stop =>
        rintro D c pre W hD ⟨kk, hkk, hpre⟩ ⟨rfl, ini, x, s, h1, h2, h3, h4, h5⟩ hK
        gi_wp2
        refine ⟨by simp, .inl ⟨_, _, rfl, run_takeDeferred hK, ?_⟩⟩
        have hc5 := cell_kept (show W.cell? ⟨B4, 0, none⟩ = some (.int .i64 s.kept) by rw [cell_at h4]; rfl) (grownBy_putObj' _ D (.deferred none)) (fun r e => by cases e; exact ⟨_, hK, rfl⟩)
        have hfin : Kp [B11, B12, B13, B14, B4] w1 (W.putObj D (.deferred none)) := h5.own (grownBy_putObj' _ D _) (fun r e => by cases e; exact hD)
        rw [h1, List.map_append] at hpre
        obtain ⟨m, rfl, hm1, hm2⟩ := down_snoc hpre
        refine ⟨.int .i64 s.kept, ?_, s.kept, rfl, .inr ⟨m, s, by omega, by rw [← hm1]; exact h2, by rw [← hm2]; exact h3, rfl⟩, (hKall.nil.trans hfin).drop [] (by have := HB3.out; have := hKall.size; simp; omega)⟩
        simp [results, Try.results38, go_sem, hc5]

end Go.Proofs.Qxb6613301a
