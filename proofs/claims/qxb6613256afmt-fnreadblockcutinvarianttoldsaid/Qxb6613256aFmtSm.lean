/-
  The small functions of the road: zzClone, the makers, the readers of fields, zzHeaderOK, the bounds on lengths.
-/
import Derived.Test.Qxb6613256aFmtRd
import Derived.Deep.OwnRows
import Derived.Lib.SliceRun
import Derived.Deep.WholeRow
set_option linter.unusedVariables false
set_option linter.unusedSimpArgs false
namespace Go.Proofs.Qxb6613256aFmt
open Go.RowKit Go.Extern.Stop Go.Stop Go.Extern

/-- The bytes as a block holds them. -/
def bs (zs : List Int) : Array Value := (zs.map (Value.int .u8)).toArray

theorem info5 : (Tryf.prog.info? 5).map (fun i => (i.zero, i.size, i.bytes)) = some (some (.int .u8 0), 1, 1) := by kernel_rfl
theorem info5s : (Tryf.prog.info? 5).map (·.size) = some 1 := by kernel_rfl

theorem lt_of_cell {w : World} {a : Addr} {v : Value} (h : w.cell? a = some v) : a.block < w.heap.size := by
  unfold World.cell? at h
  split at h
  · exact lt_of_at (by assumption)
  · cases h

theorem clone_nil (w : World) : Calls Tryf.prog 17 #[.slice none 0 0] w fun e w' => e = .returned (.slice none 0 0) ∧ w' = w := by
  have heq := fun wx a n c n' c' => Lib.run_eql_slice_nil (P := Tryf.prog) wx 26 5 a n c n' c' Tryf.underlying26
  go_enter Tryf.func17, Tryf.ntmps17
  go_wp2
  go_ret
  exact ⟨rfl, rfl⟩

set_option maxHeartbeats 400000 in
theorem clone_some (a : Addr) (len cap : Nat) (zs : List Int) (w : World) (hz : zs.length = len) (hl : len ≤ 1048576)
    (hc : ∀ j v, (zs.map (Value.int .u8))[j]? = some v → w.cell? (a.add j) = some v) :
    Calls Tryf.prog 17 #[.slice (some a) len cap] w fun e w' =>
      e = .returned (.slice (some ⟨w.heap.size, 0, none⟩) len len) ∧ w'.heap[w.heap.size]? = some (.cells (bs zs) 5 (0, 0)) ∧ Kp [] w w' := by
  have hmk := run_make_row' (P := Tryf.prog) 26 5 (.int .u8 0) 1 Tryf.underlying26 info5 rfl .i64 .i64 len (by omega) (by omega)
  have hcp := run_copy_row (P := Tryf.prog) (w.alloc (.cells (madeCells #[.int .u8 0] len) 5)) 26 26 3 5 w.heap.size 0 len len a len cap (madeCells #[.int .u8 0] len) 5 (zs.map (Value.int .u8))
    Tryf.underlying26 info5s (heap_push _ _) (by simp [hz]) (fun j v hj => by rw [World.cell?_of_block (w := w) (Below.heap_alloc _ _ _ (lt_of_cell (hc j v hj)))]; exact hc j v hj) (by simp [size_madeCells, hz]) (by
      intro v hv
      obtain ⟨z, _, rfl⟩ := List.mem_map.1 hv
      rfl)
  have he : ((madeCells #[Value.int .u8 0] len).toList.take 0 ++ zs.map (Value.int .u8) ++ (madeCells #[Value.int .u8 0] len).toList.drop (0 + (zs.map (Value.int .u8)).length)).toArray = bs zs := by
    have : (madeCells #[Value.int .u8 0] len).toList.drop (0 + (zs.map (Value.int .u8)).length) = [] := by
      apply List.drop_eq_nil_of_le
      simp [size_madeCells, hz]
    rw [this]; simp [bs]
  rw [he, World.setRow_alloc_new] at hcp
  clear he hc
  generalize (List.map (Value.int .u8) zs).length = q at hcp
  generalize hB : bs zs = B at *
  clear hB hz
  have heq := fun wx a n c n' c' => Lib.run_eql_slice_nil (P := Tryf.prog) wx 26 5 a n c n' c' Tryf.underlying26
  go_enter Tryf.func17, Tryf.ntmps17
  go_wp2
  go_ret
  exact ⟨rfl, heap_push _ _, (Kp.refl _ _).alloc _⟩

theorem newReader_any (a : Option Addr) (l c : Nat) (off : Int) (w : World) :
    Calls Tryf.prog 18 #[.slice a l c, .int .i64 off] w fun e w' => e = .returned (.pointer (some ⟨w.heap.size, 0, none⟩)) ∧ w' = w.alloc (.cells #[.slice a l c, .int .i64 off, .nilIface] 66) := by
  go_enter Tryf.func18, Tryf.ntmps18
  go_wp2
  go_ret
  exact ⟨rfl, rfl⟩

theorem newEx_any (v : Int) (s : Int) (w : World) :
    Calls Tryf.prog 19 #[.int .u8 v, .int .i64 s] w fun e w' => e = .returned (.pointer (some ⟨w.heap.size, 0, none⟩)) ∧ w' = w.alloc (.cells #[.int .u8 v, .int .i64 s, .slice none 0 0, .slice none 0 0, .slice none 0 0] 69) := by
  go_enter Tryf.func19, Tryf.ntmps19
  go_wp2
  go_ret
  exact ⟨rfl, rfl⟩

theorem rdErr_any (rb : Nat) (c0 c1 : Value) (ev : Value) (w : World) (hv : ev = .nilIface ∨ ∃ T x, ev = .iface T x) (h : w.heap[rb]? = some (.cells #[c0, c1, ev] 66 (0, 0))) :
    Calls Tryf.prog 21 #[.pointer (some ⟨rb, 0, none⟩)] w fun e w' => e = .returned ev ∧ w' = w := by
  have h2 : w.cell? ⟨rb, 2, none⟩ = some ev := by rw [cell_at h]; rfl
  clear h
  rcases hv with rfl | ⟨T, x, rfl⟩
  all_goals
    go_enter Tryf.func21, Tryf.ntmps21
    go_wp2
    go_ret
    exact ⟨rfl, rfl⟩

theorem rdOff_any (rb : Nat) (c0 c2 : Value) (off : Int) (w : World) (h : w.heap[rb]? = some (.cells #[c0, .int .i64 off, c2] 66 (0, 0))) :
    Calls Tryf.prog 22 #[.pointer (some ⟨rb, 0, none⟩)] w fun e w' => e = .returned (.int .i64 off) ∧ w' = w := by
  have h1 : w.cell? ⟨rb, 1, none⟩ = some (.int .i64 off) := by rw [cell_at h]; rfl
  clear h
  go_enter Tryf.func22, Tryf.ntmps22
  go_wp2
  go_ret
  exact ⟨rfl, rfl⟩

theorem exVer_any (xb : Nat) (v s : Int) (w : World) (h : w.heap[xb]? = some (.cells #[.int .u8 v, .int .i64 s, .slice none 0 0, .slice none 0 0, .slice none 0 0] 69 (0, 0))) :
    Calls Tryf.prog 23 #[.pointer (some ⟨xb, 0, none⟩)] w fun e w' => e = .returned (.int .u8 v) ∧ w' = w := by
  have h0 : w.cell? ⟨xb, 0, none⟩ = some (.int .u8 v) := by rw [cell_at h]; rfl
  clear h
  go_enter Tryf.func23, Tryf.ntmps23
  go_wp2
  go_ret
  exact ⟨rfl, rfl⟩

/-- What zzHeaderOK answers: accepted; the exchange's version behind it. -/
def hok (h0 h1 v c : Int) : Bool := (h1 == c) && (if v = 0 then h0 == 18 || h0 == 19 else h0 == v)
def hver (h0 v : Int) : Int := if v = 0 ∧ (h0 = 18 ∨ h0 = 19) then h0 else v

set_option maxHeartbeats 1000000 in
theorem headerOK_any (h0 h1 v c : Int) (w : World) :
    Calls Tryf.prog 25 #[.int .u8 h0, .int .u8 h1, .int .u8 v, .int .u8 c] w fun e w' => e = .returned (.tuple #[.bool (hok h0 h1 v c), .int .u8 (hver h0 v)]) ∧ w' = w := by
  generalize hk : hok h0 h1 v c = K
  generalize hv : hver h0 v = V
  replace hk := (show Hid _ from hk)
  replace hv := (show Hid _ from hv)
  by_cases v0 : v = 0
  · subst v0
    by_cases h18 : h0 = 18
    · subst h18
      have e1 : K = (h1 == c) := by rw [← hk.out]; simp [hok]
      have e2 : V = 18 := by rw [← hv.out]; simp [hver]
      rw [e1, e2]; clear e1 e2 hk hv
      go_enter Tryf.func25, Tryf.ntmps25
      go_wp2
      go_ret2
      exact ⟨rfl, rfl⟩
    · by_cases h19 : h0 = 19
      · subst h19
        have e1 : K = (h1 == c) := by rw [← hk.out]; simp [hok]
        have e2 : V = 19 := by rw [← hv.out]; simp [hver]
        rw [e1, e2]; clear e1 e2 hk hv
        go_enter Tryf.func25, Tryf.ntmps25
        go_wp2
        go_ret2
        exact ⟨rfl, rfl⟩
      · have e1 : K = false := by rw [← hk.out]; simp [hok, h18, h19]
        have e2 : V = 0 := by rw [← hv.out]; simp [hver, h18, h19]
        rw [e1, e2]; clear e1 e2 hk hv
        have b18 : (h0 == 18) = false := by simp [h18]
        have b19 : (h0 == 19) = false := by simp [h19]
        clear h18 h19
        go_enter Tryf.func25, Tryf.ntmps25
        go_wp2
        go_ret2
        exact ⟨rfl, rfl⟩
  · have e2 : V = v := by rw [← hv.out]; simp [hver, v0]
    have b0 : (v == 0) = false := by simp [v0]
    by_cases hx : h0 = v
    · have e1 : K = (h1 == c) := by rw [← hk.out]; simp [hok, v0, hx]
      rw [e1, e2]; clear e1 e2 hk hv v0
      subst hx
      go_enter Tryf.func25, Tryf.ntmps25
      go_wp2
      go_ret2
      exact ⟨rfl, rfl⟩
    · have e1 : K = false := by rw [← hk.out]; simp [hok, v0, hx]
      rw [e1, e2]; clear e1 e2 hk hv v0
      have bx : (h0 != v) = true := by simp [hx]
      clear hx
      go_enter Tryf.func25, Tryf.ntmps25
      go_wp2
      go_ret2
      exact ⟨rfl, rfl⟩

set_option maxHeartbeats 1000000 in
theorem bytes24_any (a : Option Addr) (len cap : Nat) (c1 c2 c3 c4 : Value) (s : ByteArray) (w : World) (hl : len ≤ 9223372036854775807) (hs : s.size ≤ 9223372036854775807) :
    Calls Tryf.prog 24 #[.slice a len cap, c1, c2, c3, c4, .string s] w fun e w' => ∃ b, e = .returned (.bool b) ∧ (b = true → len + s.size ≤ 1048576) ∧ w' = w := by
  go_enter Tryf.func24, Tryf.ntmps24
  go_wp2
  all_goals
    go_ret
    refine ⟨_, rfl, ?_, rfl⟩
    intro hb
    first | (cases hb; done) | omega

end Go.Proofs.Qxb6613256aFmt
