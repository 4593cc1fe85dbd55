/-
  readBlock, ZZreadBlock and zzBlock, whole, over one plain function 'blkOf': the block that the layout at an offset holds.
-/
import Derived.Test.Qxb6613256aFmtLwA
import Derived.Test.Qxb6613256aFmtBkF
import Derived.Test.Qxb6613256aFmtBkS0
import Derived.Test.Qxb6613256aFmtBkS1
import Derived.Test.Qxb6613256aFmtBkE
import Derived.Test.Qxb6613256aFmtBkS2
import Derived.Test.Qxb6613256aFmtBkS3
import Derived.Test.Qxb6613256aFmtBkS3f
import Derived.Test.Qxb6613256aFmtBkS4
import Derived.Test.Qxb6613256aFmtBkS4f
import Derived.Test.Qxb6613256aFmtBkS5
import Derived.Test.Qxb6613256aFmtBkS5f
import Derived.Test.Qxb6613256aFmtBkN
import Derived.Test.Qxb6613256aFmtBkG
import Derived.Test.Qxb6613256aFmtZ0
import Derived.Test.Qxb6613256aFmtZ1
import Derived.Test.Qxb6613256aFmtZE
import Derived.Test.Qxb6613256aFmtZ2
import Derived.Test.Qxb6613256aFmtZ3
import Derived.Test.Qxb6613256aFmtZ4
import Derived.Test.Qxb6613256aFmtZ5
import Derived.Test.Qxb6613256aFmtZG
set_option linter.unusedVariables false
set_option linter.unusedSimpArgs false
namespace Go.Proofs.Qxb6613256aFmt
open Go.RowKit Go.Extern.Stop Go.Stop Go.Extern

structure Blk where
  idx : Int
  ct : Int
  raw : Bool
  val : Option (Nat × Nat)
  nd : Nat
  bad : Bool

def ctv (z : Int) : Int := wrap64 (bits BinOp.and IntKind.u8 z 127)
def blk0 (off : Nat) : Blk := ⟨0, 0, false, none, off, true⟩
def blkOf (zs : List Int) (off : Nat) : Blk :=
  if zs.length < off + 1 then blk0 off
  else if zs.length < off + 2 then ⟨zs.getD off 0, 0, false, none, off + 1, true⟩
  else if zs.getD (off + 1) 0 % 2 = 0 ∨ zs.length < off + 4 then ⟨zs.getD off 0, 0, false, none, off + 2, true⟩
  else if zs.length < off + 5 then ⟨zs.getD off 0, 0, false, none, off + 4, true⟩
  else if zs.length < off + 7 then ⟨zs.getD off 0, ctv (zs.getD (off + 4) 0), decide (128 ≤ zs.getD (off + 4) 0), none, off + 5, true⟩
  else if zs.length < off + 7 + (zs.getD (off + 5) 0 + zs.getD (off + 6) 0 * 256).toNat then ⟨zs.getD off 0, ctv (zs.getD (off + 4) 0), decide (128 ≤ zs.getD (off + 4) 0), none, off + 7, true⟩
  else ⟨zs.getD off 0, ctv (zs.getD (off + 4) 0), decide (128 ≤ zs.getD (off + 4) 0), some (off + 7, (zs.getD (off + 5) 0 + zs.getD (off + 6) 0 * 256).toNat),
    off + 7 + (zs.getD (off + 5) 0 + zs.getD (off + 6) 0 * 256).toNat, zs.getD (off + 2) 0 + zs.getD (off + 3) 0 * 256 != 3 + ((zs.getD (off + 5) 0 + zs.getD (off + 6) 0 * 256).toNat : Int)⟩

/-- Where a block's value lies. -/
def VSh (a : Option Addr) (val : Option (Nat × Nat)) (v : Value) : Prop :=
  match val with
  | none => v = .slice none 0 0
  | some (st, n) => ∃ bb p c, a = some ⟨bb, 0, none⟩ ∧ v = .slice (some ⟨bb, p, none⟩) n c ∧ (0 < n → p = st)

theorem and1_i64 : ∀ a : Fin 256, bits BinOp.and IntKind.i64 ((a.val : Nat) : Int) 1 = ((a.val % 2 : Nat) : Int) := by decide +kernel
theorem and1_u8 : ∀ a : Fin 256, bits BinOp.and IntKind.u8 ((a.val : Nat) : Int) 1 = ((a.val % 2 : Nat) : Int) := by decide +kernel
theorem and128_u8 : ∀ a : Fin 256, (bits BinOp.and IntKind.u8 ((a.val : Nat) : Int) 128 != 0) = decide (128 ≤ ((a.val : Nat) : Int)) := by decide +kernel
theorem fin_of {z : Int} (h1 : 0 ≤ z) (h2 : z < 256) : ∃ a : Fin 256, z = ((a.val : Nat) : Int) := ⟨⟨z.toNat, by omega⟩, by simp; omega⟩
theorem ev_i64 {z : Int} (h1 : 0 ≤ z) (h2 : z < 256) : (bits BinOp.and IntKind.i64 z 1 == 0) = decide (z % 2 = 0) := by
  obtain ⟨a, rfl⟩ := fin_of h1 h2
  rw [and1_i64, Bool.eq_iff_iff]; simp
theorem ev_u8 {z : Int} (h1 : 0 ≤ z) (h2 : z < 256) : (bits BinOp.and IntKind.u8 z 1 == 0) = decide (z % 2 = 0) := by
  obtain ⟨a, rfl⟩ := fin_of h1 h2
  rw [and1_u8, Bool.eq_iff_iff]; simp
theorem raw_u8 {z : Int} (h1 : 0 ≤ z) (h2 : z < 256) : (bits BinOp.and IntKind.u8 z 128 != 0) = decide (128 ≤ z) := by
  obtain ⟨a, rfl⟩ := fin_of h1 h2
  exact and128_u8 a

theorem byte_at {zs : List Int} (hzs : ∀ z ∈ zs, 0 ≤ z ∧ z < 256) {i : Nat} (h : i < zs.length) : zs[i]? = some (zs.getD i 0) ∧ 0 ≤ zs.getD i 0 ∧ zs.getD i 0 < 256 := by
  have e := getD_of h
  have := hzs _ (List.mem_of_getElem? e)
  exact ⟨e, this.1, this.2⟩

def RPost (rb : Nat) (a : Option Addr) (zs : List Int) (B : Blk) (w : World) (mk : Value → Value) (e : Ending) (w' : World) : Prop :=
  ∃ v, e = .returned (mk v) ∧ VSh a B.val v ∧ RdSt w' rb a zs B.nd (!B.bad) ∧ Kp [rb] w w'

theorem readBlock_any (F : Interp) (rb : Nat) (a : Option Addr) (zs : List Int) (off : Nat) (w : World) (hF : F.answers w.tape) (hr : RdSt w rb a zs off true) (hb : BySl w a zs)
    (hl : zs.length ≤ 1048576) (ho : off ≤ zs.length) (hzs : ∀ z ∈ zs, 0 ≤ z ∧ z < 256) :
    Calls Tryf.prog 41 #[.pointer (some ⟨rb, 0, none⟩)] w (RPost rb a zs (blkOf zs off) w fun v => .agg #[.int .i64 (blkOf zs off).idx, .int .i64 (blkOf zs off).ct, .bool (blkOf zs off).raw, v]) := by
  obtain ⟨ev, hr, hev⟩ := hr
  have hevx : ev = .nilIface := by rcases hev with h | h; exact h.2; cases h.1
  subst hevx
  by_cases h1 : zs.length < off + 1
  · have e : blkOf zs off = blk0 off := by simp [blkOf, h1]
    rw [e]
    refine (readBlock_S0 F rb a zs off w hF hr hl ho h1).mono ?_
    rintro e w' ⟨rfl, ⟨T, x, hr'⟩, hk⟩
    exact ⟨_, rfl, rfl, ⟨_, hr', Or.inr ⟨rfl, T, x, rfl⟩⟩, hk⟩
  rcases hb with ⟨_, rfl⟩ | ⟨bb, rfl, hb⟩
  · simp at h1
  obtain ⟨y0, p0, q0⟩ := byte_at hzs (i := off) (by omega)
  by_cases h2 : zs.length < off + 2
  · have e : blkOf zs off = ⟨zs.getD off 0, 0, false, none, off + 1, true⟩ := by simp only [blkOf, h1, h2, if_true, if_false]
    rw [e]
    refine (readBlock_S1 F rb bb zs off w _ hF hr hb hl y0 p0 q0 (by omega) h2).mono ?_
    rintro e w' ⟨rfl, ⟨T, x, hr'⟩, _, hk⟩
    exact ⟨_, rfl, rfl, ⟨_, hr', Or.inr ⟨rfl, T, x, rfl⟩⟩, hk⟩
  obtain ⟨y1, p1, q1⟩ := byte_at hzs (i := off + 1) (by omega)
  by_cases hev : zs.getD (off + 1) 0 % 2 = 0
  · have e : blkOf zs off = ⟨zs.getD off 0, 0, false, none, off + 2, true⟩ := by simp only [blkOf, h1, h2, hev, true_or, if_true, if_false]
    rw [e]
    refine (readBlock_E F rb bb zs off w _ _ hF hr hb hl y0 p0 q0 y1 p1 q1 (by omega) (by rw [ev_i64 p1 q1]; exact decide_eq_true hev)).mono ?_
    rintro e w' ⟨rfl, ⟨T, x, hr'⟩, _, hk⟩
    exact ⟨_, rfl, rfl, ⟨_, hr', Or.inr ⟨rfl, T, x, rfl⟩⟩, hk⟩
  have bev : (bits BinOp.and IntKind.i64 (zs.getD (off + 1) 0) 1 == 0) = false := by rw [ev_i64 p1 q1]; exact decide_eq_false hev
  by_cases h4 : zs.length < off + 4
  · have e : blkOf zs off = ⟨zs.getD off 0, 0, false, none, off + 2, true⟩ := by simp only [blkOf, h1, h2, hev, h4, or_true, if_true, if_false]
    rw [e]
    refine (readBlock_S2 F rb bb zs off w _ _ hF hr hb hl y0 p0 q0 y1 p1 q1 (by omega) h4 bev).mono ?_
    rintro e w' ⟨rfl, ⟨T, x, hr'⟩, _, hk⟩
    exact ⟨_, rfl, rfl, ⟨_, hr', Or.inr ⟨rfl, T, x, rfl⟩⟩, hk⟩
  obtain ⟨y2, p2, q2⟩ := byte_at hzs (i := off + 2) (by omega)
  obtain ⟨y3, p3, q3⟩ := byte_at hzs (i := off + 3) (by omega)
  by_cases h5 : zs.length < off + 5
  · have e : blkOf zs off = ⟨zs.getD off 0, 0, false, none, off + 4, true⟩ := by simp only [blkOf, h1, h2, hev, h4, h5, or_self, if_true, if_false]
    rw [e]
    cases hsz : (zs.getD (off + 2) 0 + zs.getD (off + 3) 0 * 256 != 3)
    · refine (readBlock_S3f F rb bb zs off w _ _ _ _ hF hr hb hl y0 p0 q0 y1 p1 q1 y2 p2 q2 y3 p3 q3 (by omega) h5 bev hsz).mono ?_
      rintro e w' ⟨rfl, ⟨T, x, hr'⟩, _, hk⟩
      exact ⟨_, rfl, rfl, ⟨_, hr', Or.inr ⟨rfl, T, x, rfl⟩⟩, hk⟩
    · refine (readBlock_S3 F rb bb zs off w _ _ _ _ hF hr hb hl y0 p0 q0 y1 p1 q1 y2 p2 q2 y3 p3 q3 (by omega) h5 bev hsz).mono ?_
      rintro e w' ⟨rfl, ⟨T, x, hr'⟩, _, hk⟩
      exact ⟨_, rfl, rfl, ⟨_, hr', Or.inr ⟨rfl, T, x, rfl⟩⟩, hk⟩
  obtain ⟨y4, p4, q4⟩ := byte_at hzs (i := off + 4) (by omega)
  have hraw := raw_u8 p4 q4
  by_cases h7 : zs.length < off + 7
  · have e : blkOf zs off = ⟨zs.getD off 0, ctv (zs.getD (off + 4) 0), decide (128 ≤ zs.getD (off + 4) 0), none, off + 5, true⟩ := by simp only [blkOf, h1, h2, hev, h4, h5, h7, or_self, if_true, if_false]
    rw [e]
    cases hsz : (zs.getD (off + 2) 0 + zs.getD (off + 3) 0 * 256 != 3)
    · refine (readBlock_S4f F rb bb zs off w _ _ _ _ _ hF hr hb hl y0 p0 q0 y1 p1 q1 y2 p2 q2 y3 p3 q3 y4 p4 q4 (by omega) h7 bev hsz).mono ?_
      rw [hraw]
      rintro e w' ⟨rfl, ⟨T, x, hr'⟩, _, hk⟩
      exact ⟨_, rfl, rfl, ⟨_, hr', Or.inr ⟨rfl, T, x, rfl⟩⟩, hk⟩
    · refine (readBlock_S4 F rb bb zs off w _ _ _ _ _ hF hr hb hl y0 p0 q0 y1 p1 q1 y2 p2 q2 y3 p3 q3 y4 p4 q4 (by omega) h7 bev hsz).mono ?_
      rw [hraw]
      rintro e w' ⟨rfl, ⟨T, x, hr'⟩, _, hk⟩
      exact ⟨_, rfl, rfl, ⟨_, hr', Or.inr ⟨rfl, T, x, rfl⟩⟩, hk⟩
  obtain ⟨y5, p5, q5⟩ := byte_at hzs (i := off + 5) (by omega)
  obtain ⟨y6, p6, q6⟩ := byte_at hzs (i := off + 6) (by omega)
  have hvs : ((zs.getD (off + 5) 0 + zs.getD (off + 6) 0 * 256).toNat : Int) = zs.getD (off + 5) 0 + zs.getD (off + 6) 0 * 256 := by omega
  by_cases h8 : zs.length < off + 7 + (zs.getD (off + 5) 0 + zs.getD (off + 6) 0 * 256).toNat
  · have e : blkOf zs off = ⟨zs.getD off 0, ctv (zs.getD (off + 4) 0), decide (128 ≤ zs.getD (off + 4) 0), none, off + 7, true⟩ := by simp only [blkOf, h1, h2, hev, h4, h5, h7, h8, or_self, if_true, if_false]
    rw [e]
    cases hsz : (zs.getD (off + 2) 0 + zs.getD (off + 3) 0 * 256 != 3)
    · refine (readBlock_S5f F rb bb zs off w _ _ _ _ _ _ _ hF hr hb hl y0 p0 q0 y1 p1 q1 y2 p2 q2 y3 p3 q3 y4 p4 q4 y5 p5 q5 y6 p6 q6 _ hvs (by omega) h8 bev hsz).mono ?_
      rw [hraw]
      rintro e w' ⟨rfl, ⟨T, x, hr'⟩, _, hk⟩
      exact ⟨_, rfl, rfl, ⟨_, hr', Or.inr ⟨rfl, T, x, rfl⟩⟩, hk⟩
    · refine (readBlock_S5 F rb bb zs off w _ _ _ _ _ _ _ hF hr hb hl y0 p0 q0 y1 p1 q1 y2 p2 q2 y3 p3 q3 y4 p4 q4 y5 p5 q5 y6 p6 q6 _ hvs (by omega) h8 bev hsz).mono ?_
      rw [hraw]
      rintro e w' ⟨rfl, ⟨T, x, hr'⟩, _, hk⟩
      exact ⟨_, rfl, rfl, ⟨_, hr', Or.inr ⟨rfl, T, x, rfl⟩⟩, hk⟩
  have e : blkOf zs off = ⟨zs.getD off 0, ctv (zs.getD (off + 4) 0), decide (128 ≤ zs.getD (off + 4) 0), some (off + 7, (zs.getD (off + 5) 0 + zs.getD (off + 6) 0 * 256).toNat),
    off + 7 + (zs.getD (off + 5) 0 + zs.getD (off + 6) 0 * 256).toNat, zs.getD (off + 2) 0 + zs.getD (off + 3) 0 * 256 != 3 + ((zs.getD (off + 5) 0 + zs.getD (off + 6) 0 * 256).toNat : Int)⟩ := by simp only [blkOf, h1, h2, hev, h4, h5, h7, h8, or_self, if_true, if_false]
  rw [e]
  cases hsz : (zs.getD (off + 2) 0 + zs.getD (off + 3) 0 * 256 != 3 + ((zs.getD (off + 5) 0 + zs.getD (off + 6) 0 * 256).toNat : Int))
  · refine (readBlock_N F rb bb zs off w _ _ _ _ _ _ _ hF hr hb hl y0 p0 q0 y1 p1 q1 y2 p2 q2 y3 p3 q3 y4 p4 q4 y5 p5 q5 y6 p6 q6 _ hvs (by omega) bev hsz).mono ?_
    rw [hraw]
    rintro e w' ⟨p, rfl, hp, hr', _, hk⟩
    exact ⟨_, rfl, ⟨bb, p, _, rfl, rfl, hp⟩, ⟨_, hr', Or.inl ⟨rfl, rfl⟩⟩, hk⟩
  · refine (readBlock_G F rb bb zs off w _ _ _ _ _ _ _ hF hr hb hl y0 p0 q0 y1 p1 q1 y2 p2 q2 y3 p3 q3 y4 p4 q4 y5 p5 q5 y6 p6 q6 _ hvs (by omega) bev hsz).mono ?_
    rw [hraw]
    rintro e w' ⟨p, rfl, hp, ⟨T, x, hr'⟩, _, hk⟩
    exact ⟨_, rfl, ⟨bb, p, _, rfl, rfl, hp⟩, ⟨_, hr', Or.inr ⟨rfl, T, x, rfl⟩⟩, hk⟩

theorem readBlock_dead (rb : Nat) (a : Option Addr) (zs : List Int) (off : Nat) (w : World) (hr : RdSt w rb a zs off false) :
    Calls Tryf.prog 41 #[.pointer (some ⟨rb, 0, none⟩)] w (RPost rb a zs (blk0 off) w fun v => .agg #[.int .i64 0, .int .i64 0, .bool false, v]) := by
  obtain ⟨ev, hr, hev⟩ := hr
  obtain ⟨T, x, hevx⟩ : ∃ T x, ev = .iface T x := by rcases hev with h | h; cases h.1; exact h.2
  subst hevx
  refine (readBlock_F rb _ _ T x w hr).mono ?_
  rintro e w' ⟨rfl, hr', hk⟩
  exact ⟨_, rfl, rfl, ⟨_, hr', Or.inr ⟨rfl, T, x, rfl⟩⟩, hk⟩

def ZPost (a : Option Addr) (B : Blk) (w : World) (e : Ending) (w' : World) : Prop :=
  ∃ v, e = .returned (.tuple #[.agg #[.int .i64 B.idx, .int .i64 B.ct, .bool B.raw, v], .int .i64 (B.nd : Int), .bool B.bad]) ∧ VSh a B.val v ∧ Kp [] w w'

theorem zzBlock_any (a : Option Addr) (zs : List Int) (off : Nat) (w : World) (hb : BySl w a zs) (hl : zs.length ≤ 1048576) (ho : off ≤ zs.length) (hzs : ∀ z ∈ zs, 0 ≤ z ∧ z < 256) :
    Calls Tryf.prog 27 #[.slice a zs.length zs.length, .int .i64 (off : Int)] w (ZPost a (blkOf zs off) w) := by
  by_cases h1 : zs.length < off + 1
  · have e : blkOf zs off = blk0 off := by simp [blkOf, h1]
    rw [e]
    refine (zzBlock_Z0 a zs off w hl ho h1).mono ?_
    rintro e w' ⟨rfl, hk⟩
    exact ⟨_, rfl, rfl, hk⟩
  rcases hb with ⟨_, rfl⟩ | ⟨bb, rfl, hb⟩
  · simp at h1
  obtain ⟨y0, p0, q0⟩ := byte_at hzs (i := off) (by omega)
  by_cases h2 : zs.length < off + 2
  · have e : blkOf zs off = ⟨zs.getD off 0, 0, false, none, off + 1, true⟩ := by simp only [blkOf, h1, h2, if_true, if_false]
    rw [e]
    refine (zzBlock_Z1 bb zs off w _ hb hl y0 p0 q0 (by omega) h2).mono ?_
    rintro e w' ⟨rfl, hk⟩
    exact ⟨_, rfl, rfl, hk⟩
  obtain ⟨y1, p1, q1⟩ := byte_at hzs (i := off + 1) (by omega)
  by_cases hev : zs.getD (off + 1) 0 % 2 = 0
  · have e : blkOf zs off = ⟨zs.getD off 0, 0, false, none, off + 2, true⟩ := by simp only [blkOf, h1, h2, hev, true_or, if_true, if_false]
    rw [e]
    refine (zzBlock_ZE bb zs off w _ _ hb hl y0 p0 q0 y1 p1 q1 (by omega) (by rw [ev_u8 p1 q1]; exact decide_eq_true hev)).mono ?_
    rintro e w' ⟨rfl, hk⟩
    exact ⟨_, rfl, rfl, hk⟩
  have bev : (bits BinOp.and IntKind.u8 (zs.getD (off + 1) 0) 1 == 0) = false := by rw [ev_u8 p1 q1]; exact decide_eq_false hev
  by_cases h4 : zs.length < off + 4
  · have e : blkOf zs off = ⟨zs.getD off 0, 0, false, none, off + 2, true⟩ := by simp only [blkOf, h1, h2, hev, h4, or_true, if_true, if_false]
    rw [e]
    refine (zzBlock_Z2 bb zs off w _ _ hb hl y0 p0 q0 y1 p1 q1 (by omega) h4 bev).mono ?_
    rintro e w' ⟨rfl, hk⟩
    exact ⟨_, rfl, rfl, hk⟩
  obtain ⟨y2, p2, q2⟩ := byte_at hzs (i := off + 2) (by omega)
  obtain ⟨y3, p3, q3⟩ := byte_at hzs (i := off + 3) (by omega)
  by_cases h5 : zs.length < off + 5
  · have e : blkOf zs off = ⟨zs.getD off 0, 0, false, none, off + 4, true⟩ := by simp only [blkOf, h1, h2, hev, h4, h5, or_self, if_true, if_false]
    rw [e]
    refine (zzBlock_Z3 bb zs off w _ _ _ _ hb hl y0 p0 q0 y1 p1 q1 y2 p2 q2 y3 p3 q3 (by omega) h5 bev).mono ?_
    rintro e w' ⟨rfl, hk⟩
    exact ⟨_, rfl, rfl, hk⟩
  obtain ⟨y4, p4, q4⟩ := byte_at hzs (i := off + 4) (by omega)
  by_cases h7 : zs.length < off + 7
  · have e : blkOf zs off = ⟨zs.getD off 0, ctv (zs.getD (off + 4) 0), decide (128 ≤ zs.getD (off + 4) 0), none, off + 5, true⟩ := by simp only [blkOf, h1, h2, hev, h4, h5, h7, or_self, if_true, if_false]
    rw [e]
    refine (zzBlock_Z4 bb zs off w _ _ _ _ _ hb hl y0 p0 q0 y1 p1 q1 y2 p2 q2 y3 p3 q3 y4 p4 q4 (by omega) h7 bev).mono ?_
    rintro e w' ⟨rfl, hk⟩
    exact ⟨_, rfl, rfl, hk⟩
  obtain ⟨y5, p5, q5⟩ := byte_at hzs (i := off + 5) (by omega)
  obtain ⟨y6, p6, q6⟩ := byte_at hzs (i := off + 6) (by omega)
  have hvs : ((zs.getD (off + 5) 0 + zs.getD (off + 6) 0 * 256).toNat : Int) = zs.getD (off + 5) 0 + zs.getD (off + 6) 0 * 256 := by omega
  by_cases h8 : zs.length < off + 7 + (zs.getD (off + 5) 0 + zs.getD (off + 6) 0 * 256).toNat
  · have e : blkOf zs off = ⟨zs.getD off 0, ctv (zs.getD (off + 4) 0), decide (128 ≤ zs.getD (off + 4) 0), none, off + 7, true⟩ := by simp only [blkOf, h1, h2, hev, h4, h5, h7, h8, or_self, if_true, if_false]
    rw [e]
    refine (zzBlock_Z5 bb zs off w _ _ _ _ _ _ _ hb hl y0 p0 q0 y1 p1 q1 y2 p2 q2 y3 p3 q3 y4 p4 q4 y5 p5 q5 y6 p6 q6 _ hvs (by omega) h8 bev).mono ?_
    rintro e w' ⟨rfl, hk⟩
    exact ⟨_, rfl, rfl, hk⟩
  have e : blkOf zs off = ⟨zs.getD off 0, ctv (zs.getD (off + 4) 0), decide (128 ≤ zs.getD (off + 4) 0), some (off + 7, (zs.getD (off + 5) 0 + zs.getD (off + 6) 0 * 256).toNat),
    off + 7 + (zs.getD (off + 5) 0 + zs.getD (off + 6) 0 * 256).toNat, zs.getD (off + 2) 0 + zs.getD (off + 3) 0 * 256 != 3 + ((zs.getD (off + 5) 0 + zs.getD (off + 6) 0 * 256).toNat : Int)⟩ := by simp only [blkOf, h1, h2, hev, h4, h5, h7, h8, or_self, if_true, if_false]
  rw [e]
  refine (zzBlock_ZG bb zs off w _ _ _ _ _ _ _ hb hl y0 p0 q0 y1 p1 q1 y2 p2 q2 y3 p3 q3 y4 p4 q4 y5 p5 q5 y6 p6 q6 _ hvs (by omega) bev).mono ?_
  rintro e w' ⟨p, rfl, hp, hk⟩
  exact ⟨_, rfl, ⟨bb, p, _, rfl, rfl, hp⟩, hk⟩

theorem VSh.form {a : Option Addr} {val : Option (Nat × Nat)} {v : Value} (h : VSh a val v) : ∃ x n c, v = .slice x n c := by
  unfold VSh at h
  split at h
  · exact ⟨_, _, _, h⟩
  · obtain ⟨bb, p, c, _, rfl, _⟩ := h
    exact ⟨_, _, _, rfl⟩

set_option maxHeartbeats 400000 in
theorem zzReadBlock_of (rb : Nat) (a : Option Addr) (zs : List Int) (B : Blk) (w : World)
    (h : Calls Tryf.prog 41 #[.pointer (some ⟨rb, 0, none⟩)] w (RPost rb a zs B w fun v => .agg #[.int .i64 B.idx, .int .i64 B.ct, .bool B.raw, v])) :
    Calls Tryf.prog 28 #[.pointer (some ⟨rb, 0, none⟩)] w (RPost rb a zs B w fun v => .tuple #[.int .i64 B.idx, .int .i64 B.ct, .bool B.raw, v]) := by
  have HC := hid h
  clear h
  go_enter Tryf.func28, Tryf.ntmps28
  go_wp2_with fail
  refine Calls.mono HC.out ?_
  rintro e w1 ⟨v, rfl, hv, ⟨ev, hr, hev⟩, hk⟩
  obtain ⟨x, n, c, hvx⟩ := hv.form
  subst hvx
  have HV := hid hv
  have HR := hid hr
  clear hv hr
  go_wp2_with fail
  go_quiet (fail)
  go_wp2_with fail
  exact bodyPost_ret (v := .tuple #[.int .i64 B.idx, .int .i64 B.ct, .bool B.raw, .slice x n c]) (by simp [results, Tryf.results28, go_sem]) rfl ⟨_, rfl, HV.out, ⟨ev, heap_old _ _ HR.out, hev⟩, (hk.alloc _).drewN _⟩

theorem zzReadBlock_any (F : Interp) (rb : Nat) (a : Option Addr) (zs : List Int) (off : Nat) (w : World) (hF : F.answers w.tape) (hr : RdSt w rb a zs off true) (hb : BySl w a zs)
    (hl : zs.length ≤ 1048576) (ho : off ≤ zs.length) (hzs : ∀ z ∈ zs, 0 ≤ z ∧ z < 256) :
    Calls Tryf.prog 28 #[.pointer (some ⟨rb, 0, none⟩)] w (RPost rb a zs (blkOf zs off) w fun v => .tuple #[.int .i64 (blkOf zs off).idx, .int .i64 (blkOf zs off).ct, .bool (blkOf zs off).raw, v]) :=
  zzReadBlock_of rb a zs _ w (readBlock_any F rb a zs off w hF hr hb hl ho hzs)
theorem zzReadBlock_dead (rb : Nat) (a : Option Addr) (zs : List Int) (off : Nat) (w : World) (hr : RdSt w rb a zs off false) :
    Calls Tryf.prog 28 #[.pointer (some ⟨rb, 0, none⟩)] w (RPost rb a zs (blk0 off) w fun v => .tuple #[.int .i64 0, .int .i64 0, .bool false, v]) :=
  zzReadBlock_of rb a zs (blk0 off) w (readBlock_dead rb a zs off w hr)

/-! ### the plain laws on blkOf -/

theorem blkOf_cases (zs : List Int) (off : Nat) : ((blkOf zs off).val = none ∧ (blkOf zs off).bad = true) ∨ ∃ n, (blkOf zs off).val = some (off + 7, n) ∧ off + 7 + n ≤ zs.length ∧ (blkOf zs off).nd = off + 7 + n := by
  unfold blkOf
  repeat' split
  all_goals first | exact Or.inl ⟨rfl, rfl⟩ | exact Or.inr ⟨_, rfl, by omega, rfl⟩

theorem blkOf_nd (zs : List Int) (off : Nat) (ho : off ≤ zs.length) : off ≤ (blkOf zs off).nd ∧ (blkOf zs off).nd ≤ zs.length := by
  unfold blkOf blk0
  repeat' split
  all_goals (dsimp only; omega)

theorem getD_drop (zs : List Int) (o i : Nat) : (zs.drop o).getD i 0 = zs.getD (o + i) 0 := by simp [List.getD]

theorem blk_drop (zs : List Int) (o : Nat) (ho : o ≤ zs.length) :
    (blkOf (zs.drop o) 0).idx = (blkOf zs o).idx ∧ (blkOf (zs.drop o) 0).ct = (blkOf zs o).ct ∧ (blkOf (zs.drop o) 0).raw = (blkOf zs o).raw ∧ (blkOf (zs.drop o) 0).bad = (blkOf zs o).bad ∧
    o + (blkOf (zs.drop o) 0).nd = (blkOf zs o).nd ∧ (blkOf zs o).val = (blkOf (zs.drop o) 0).val.map (fun p => (o + p.1, p.2)) := by
  unfold blkOf blk0
  simp only [getD_drop, List.length_drop, Nat.add_zero, Nat.zero_add]
  have e : ∀ k, (zs.length - o < k) = (zs.length < o + k) := fun k => by apply propext; omega
  simp only [e, ← Nat.add_assoc]
  repeat' split
  all_goals first | (refine ⟨rfl, rfl, rfl, rfl, ?_, ?_⟩ <;> first | rfl | omega | (simp; omega)) | skip
  all_goals (simp [Nat.add_assoc])

theorem alk_of {w : World} {a a' : Option Addr} {val val' : Option (Nat × Nat)} {v v' : Value} {zs zs' : List Int} (h : VSh a val v) (hb : BySl w a zs) (h' : VSh a' val' v') (hb' : BySl w a' zs')
    (hq : (val = none ∧ val' = none) ∨ ∃ st st' n, val = some (st, n) ∧ val' = some (st', n) ∧ n ≤ 1048576 ∧ st + n ≤ zs.length ∧ st' + n ≤ zs'.length ∧ ∀ i, i < n → zs.getD (st + i) 0 = zs'.getD (st' + i) 0) : Alk w v v' := by
  rcases hq with ⟨rfl, rfl⟩ | ⟨st, st', n, rfl, rfl, hn, hs, hs', hE⟩
  · exact Or.inl ⟨h, h'⟩
  · obtain ⟨bb, p, c, rfl, rfl, hp⟩ := h
    obtain ⟨bb', p', c', rfl, rfl, hp'⟩ := h'
    refine Or.inr ⟨n, fun i => zs.getD (st + i) 0, hn, ⟨bb, p, c, rfl, fun i hi => ?_⟩, ⟨bb', p', c', rfl, fun i hi => ?_⟩⟩
    · rcases hb with ⟨h, _⟩ | ⟨b, h, hb⟩
      · cases h
      · cases h
        rw [hp (by omega)]
        exact bs_at hb (getD_of (by omega))
    · rcases hb' with ⟨h, _⟩ | ⟨b, h, hb⟩
      · cases h
      · cases h
        rw [hp' (by omega)]
        show _ = some (Value.int .u8 (zs.getD (st + i) 0))
        rw [hE i hi]
        exact bs_at hb (getD_of (by omega))

/-- The values of one block, read from two copies of the bytes. -/
theorem alk_same {w : World} {a a' : Option Addr} {v v' : Value} {zs : List Int} (off : Nat) (hl : zs.length ≤ 1048576) (h : VSh a (blkOf zs off).val v) (hb : BySl w a zs) (h' : VSh a' (blkOf zs off).val v') (hb' : BySl w a' zs) : Alk w v v' := by
  refine alk_of h hb h' hb' ?_
  rcases blkOf_cases zs off with ⟨e, _⟩ | ⟨n, e, hn, _⟩
  · exact Or.inl ⟨e, e⟩
  · exact Or.inr ⟨_, _, n, e, e, by omega, hn, hn, fun _ _ => rfl⟩
theorem alk_drop {w : World} {a a' : Option Addr} {v v' : Value} {zs : List Int} (off : Nat) (ho : off ≤ zs.length) (hl : zs.length ≤ 1048576) (h : VSh a (blkOf (zs.drop off) 0).val v) (hb : BySl w a (zs.drop off)) (h' : VSh a' (blkOf zs off).val v') (hb' : BySl w a' zs) : Alk w v v' := by
  refine alk_of h hb h' hb' ?_
  obtain ⟨_, _, _, _, _, hv⟩ := blk_drop zs off ho
  rcases blkOf_cases (zs.drop off) 0 with ⟨e, _⟩ | ⟨n, e, hn, _⟩
  · rw [e] at hv
    exact Or.inl ⟨e, hv⟩
  · rw [e] at hv
    simp at hn
    refine Or.inr ⟨_, _, n, e, hv, by omega, by simp; omega, by omega, fun i _ => ?_⟩
    rw [getD_drop]
    congr 1
    dsimp only
    omega

end Go.Proofs.Qxb6613256aFmt
