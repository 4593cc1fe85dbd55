/-
  The reader's method 'uint', by contract; zzBlkEq where the two blocks are alike.
-/
import Derived.Test.Qxb6613256aFmtLe
import Derived.Test.Qxb6613256aFmtRdB
import Derived.Test.Qxb6613256aFmtRdC
import Derived.Test.Qxb6613256aFmtHd
set_option linter.unusedVariables false
set_option linter.unusedSimpArgs false
namespace Go.Proofs.Qxb6613256aFmt
open Go.RowKit Go.Extern.Stop Go.Stop Go.Extern

set_option maxHeartbeats 400000 in
theorem uint_failed (rb : Nat) (c0 c1 : Value) (T : TypeId) (x : Value) (n : Int) (s : ByteArray) (w : World)
    (h : w.heap[rb]? = some (.cells #[c0, c1, .iface T x] 66 (0, 0))) :
    Calls Tryf.prog 46 #[.pointer (some ⟨rb, 0, none⟩), .int .i64 n, .string s] w fun e w' =>
      e = .returned (.int .i64 0) ∧ ∃ k, w' = w.drewN k := by
  have H := (show Hid _ from h)
  clear h
  go_enter Tryf.func46, Tryf.ntmps46
  go_wp2_with fail
  refine (next_failed rb c0 c1 T x _ _ _ H.out).mono ?_
  rintro e w1 ⟨rfl, k, rfl⟩
  go_wp2_with fail
  refine (le_nil _).mono ?_
  rintro e w2 ⟨rfl, rfl⟩
  go_wp2_with fail
  go_ret
  exact ⟨rfl, k, rfl⟩

set_option maxHeartbeats 400000 in
theorem uint_short (F : Interp) (rb : Nat) (a : Option Addr) (len cap off n : Nat) (s : ByteArray) (w : World) (hF : F.answers w.tape)
    (h : w.heap[rb]? = some (.cells #[.slice a len cap, .int .i64 off, .nilIface] 66 (0, 0))) (ho : off ≤ len) (hl : len ≤ 1048576) (hn : len < off + n) (hn2 : n ≤ 1048576) :
    Calls Tryf.prog 46 #[.pointer (some ⟨rb, 0, none⟩), .int .i64 n, .string s] w fun e w' =>
      e = .returned (.int .i64 0) ∧ ∃ T x, w'.heap[rb]? = some (.cells #[.slice a len cap, .int .i64 off, .iface T x] 66 (0, 0)) ∧ Kp [rb] w w' := by
  have H := (show Hid _ from h)
  clear h
  go_enter Tryf.func46, Tryf.ntmps46
  go_wp2_with fail
  refine (next_short F rb a len cap off n _ _ hF H.out ho hl hn hn2).mono ?_
  rintro e w1 ⟨rfl, T, x, h1, k⟩
  have H1 := (show Hid _ from h1)
  clear h1
  go_wp2_with fail
  refine (le_nil _).mono ?_
  rintro e w2 ⟨rfl, hw⟩
  subst w2
  go_wp2_with fail
  go_ret
  exact ⟨rfl, T, x, H1.out, k⟩

set_option maxHeartbeats 400000 in
theorem uint_ok1 (rb bb : Nat) (zs : List Int) (off : Nat) (z : Int) (s : ByteArray) (w : World)
    (h : w.heap[rb]? = some (rdObj bb zs.length off .nilIface)) (hb : w.heap[bb]? = some (.cells (bs zs) 5 (0, 0))) (hl : zs.length ≤ 1048576) (hn : off + 1 ≤ zs.length)
    (hz : zs[off]? = some z) (z1 : 0 ≤ z) (z2 : z < 256) :
    Calls Tryf.prog 46 #[.pointer (some ⟨rb, 0, none⟩), .int .i64 1, .string s] w fun e w' =>
      e = .returned (.int .i64 z) ∧ w'.heap[rb]? = some (rdObj bb zs.length (off + 1) .nilIface) ∧ w'.heap[bb]? = some (.cells (bs zs) 5 (0, 0)) ∧ Kp [rb] w w' := by
  have hnx := next_ok rb bb zs.length off 1
  simp only [Int.cast_ofNat_Int] at hnx
  have NX := (show Hid _ from hnx)
  have nbr : bb ≠ rb := by rintro rfl; rw [hb] at h; simp [rdObj] at h
  have H := (show Hid _ from h)
  have HB := (show Hid _ from hb)
  clear h hb hnx
  go_enter Tryf.func46, Tryf.ntmps46
  go_wp2_with fail
  refine (NX.out _ _ H.out hl hn).mono ?_
  rintro e w1 ⟨p, rfl, hp, h1, k⟩
  have hp' := hp (by omega)
  clear hp
  subst hp'
  have hb1 := k.at HB.out (by simp [nbr])
  have g := bs_at hb1 hz
  have H1 := (show Hid _ from h1)
  have HB1 := (show Hid _ from hb1)
  clear h1 hb1 NX
  go_wp2_with fail
  refine (le_one bb p _ z _ g z1 z2).mono ?_
  rintro e w2 ⟨rfl, hw⟩
  subst w2
  go_wp2_with fail
  go_ret
  exact ⟨rfl, H1.out, HB1.out, k⟩

set_option maxHeartbeats 400000 in
theorem uint_ok2 (rb bb : Nat) (zs : List Int) (off : Nat) (z y : Int) (s : ByteArray) (w : World)
    (h : w.heap[rb]? = some (rdObj bb zs.length off .nilIface)) (hb : w.heap[bb]? = some (.cells (bs zs) 5 (0, 0))) (hl : zs.length ≤ 1048576) (hn : off + 2 ≤ zs.length)
    (hz : zs[off]? = some z) (hy : zs[off + 1]? = some y) (z1 : 0 ≤ z) (z2 : z < 256) (y1 : 0 ≤ y) (y2 : y < 256) :
    Calls Tryf.prog 46 #[.pointer (some ⟨rb, 0, none⟩), .int .i64 2, .string s] w fun e w' =>
      e = .returned (.int .i64 (z + y * 256)) ∧ w'.heap[rb]? = some (rdObj bb zs.length (off + 2) .nilIface) ∧ w'.heap[bb]? = some (.cells (bs zs) 5 (0, 0)) ∧ Kp [rb] w w' := by
  have hnx := next_ok rb bb zs.length off 2
  simp only [Int.cast_ofNat_Int] at hnx
  have NX := (show Hid _ from hnx)
  have nbr : bb ≠ rb := by rintro rfl; rw [hb] at h; simp [rdObj] at h
  have H := (show Hid _ from h)
  have HB := (show Hid _ from hb)
  clear h hb hnx
  go_enter Tryf.func46, Tryf.ntmps46
  go_wp2_with fail
  refine (NX.out _ _ H.out hl hn).mono ?_
  rintro e w1 ⟨p, rfl, hp, h1, k⟩
  have hp' := hp (by omega)
  clear hp
  subst hp'
  have hb1 := k.at HB.out (by simp [nbr])
  have g := bs_at hb1 hz
  have g' := bs_at hb1 hy
  have H1 := (show Hid _ from h1)
  have HB1 := (show Hid _ from hb1)
  clear h1 hb1 NX
  go_wp2_with fail
  refine (le_two bb p _ z y _ g g' z1 z2 y1 y2).mono ?_
  rintro e w2 ⟨rfl, hw⟩
  subst w2
  go_wp2_with fail
  go_ret
  exact ⟨rfl, H1.out, HB1.out, k⟩

/-- Two value slices alike: nil both, or of the same bytes. -/
def Alk (w : World) (v v' : Value) : Prop := (v = .slice none 0 0 ∧ v' = .slice none 0 0) ∨ ∃ n f, n ≤ 1048576 ∧ SlAt w v n f ∧ SlAt w v' n f

theorem same_any (w : World) (v v' : Value) (h : Alk w v v') : Calls Tryf.prog 31 #[v, v'] w fun e w' => e = .returned (.bool true) ∧ ∃ k, w' = w.drewN k := by
  rcases h with ⟨rfl, rfl⟩ | ⟨n, f, hn, ⟨b, p, c, rfl, h⟩, ⟨b', p', c', rfl, h'⟩⟩
  · exact same_nil w
  · exact same_eq b p c b' p' c' n f w hn h h'

theorem SlAt.kp {w w' : World} {v : Value} {n : Nat} {f : Nat → Int} (h : SlAt w v n f) (k : Kp [] w w') : SlAt w' v n f := by
  obtain ⟨b, p, c, rfl, h⟩ := h
  refine ⟨b, p, c, rfl, fun i hi => ?_⟩
  rw [World.cell?_of_block (w := w) (k.block b (lt_of_cell (a := ⟨b, p + i, none⟩) (h i hi)) (by simp))]
  exact h i hi
theorem Alk.kp {w w' : World} {v v' : Value} (h : Alk w v v') (k : Kp [] w w') : Alk w' v v' := by
  rcases h with h | ⟨n, f, hn, h1, h2⟩
  · exact Or.inl h
  · exact Or.inr ⟨n, f, hn, h1.kp k, h2.kp k⟩
theorem Alk.form {w : World} {v v' : Value} (h : Alk w v v') : (∃ a n c, v = .slice a n c) ∧ ∃ a n c, v' = .slice a n c := by
  rcases h with ⟨rfl, rfl⟩ | ⟨n, f, hn, ⟨b, p, c, rfl, h⟩, ⟨b', p', c', rfl, h'⟩⟩
  · exact ⟨⟨_, _, _, rfl⟩, _, _, _, rfl⟩
  · exact ⟨⟨_, _, _, rfl⟩, _, _, _, rfl⟩

set_option maxHeartbeats 400000 in
theorem blkEq_any (i c : Int) (r : Bool) (v v' : Value) (w : World) (h : Alk w v v') :
    Calls Tryf.prog 29 #[.int .i64 i, .int .i64 c, .bool r, v, .agg #[.int .i64 i, .int .i64 c, .bool r, v']] w fun e w' => e = .returned (.bool true) ∧ Kp [] w w' := by
  obtain ⟨⟨a1, n1, c1, rfl⟩, a2, n2, c2, rfl⟩ := h.form
  have H := (show Hid _ from h.kp ((Kp.refl _ _).alloc (.cells #[.int .i64 i, .int .i64 c, .bool r, .slice a2 n2 c2] 48)))
  clear h
  go_enter Tryf.func29, Tryf.ntmps29
  go_wp2_with fail
  refine (same_any _ _ _ H.out).mono ?_
  rintro e w1 ⟨rfl, k, rfl⟩
  go_wp2_with fail
  go_ret
  exact ⟨rfl, ((Kp.refl _ _).alloc _).drewN _⟩

end Go.Proofs.Qxb6613256aFmt
