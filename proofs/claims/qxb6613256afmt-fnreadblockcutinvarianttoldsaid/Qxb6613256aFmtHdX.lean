/-
  'header' and ZZheader, whole: what they answer in every state of the reader and the exchange.
-/
import Derived.Test.Qxb6613256aFmtHdA
import Derived.Test.Qxb6613256aFmtHdB
import Derived.Test.Qxb6613256aFmtHdC
set_option linter.unusedVariables false
set_option linter.unusedSimpArgs false
namespace Go.Proofs.Qxb6613256aFmt
open Go.RowKit Go.Extern.Stop Go.Stop Go.Extern

def Evs (ok : Bool) (ev : Value) : Prop := (ok = true ∧ ev = .nilIface) ∨ (ok = false ∧ ∃ T x, ev = .iface T x)
/-- The slice value that holds the bytes zs from its first cell on: a copy of the call's own, or nil. -/
def BySl (w : World) (a : Option Addr) (zs : List Int) : Prop := (a = none ∧ zs = []) ∨ ∃ bb, a = some ⟨bb, 0, none⟩ ∧ w.heap[bb]? = some (.cells (bs zs) 5 (0, 0))
theorem BySl.kp {X : List Nat} {w w' : World} {a : Option Addr} {zs : List Int} (h : BySl w a zs) (k : Kp X w w') (hX : ∀ b, a = some ⟨b, 0, none⟩ → b ∉ X) : BySl w' a zs := by
  rcases h with h | ⟨bb, rfl, h⟩
  · exact Or.inl h
  · exact Or.inr ⟨bb, rfl, k.at h (hX bb rfl)⟩
def RdSt (w : World) (rb : Nat) (a : Option Addr) (zs : List Int) (off : Nat) (ok : Bool) : Prop :=
  ∃ ev, w.heap[rb]? = some (.cells #[.slice a zs.length zs.length, .int .i64 (off : Int), ev] 66 (0, 0)) ∧ Evs ok ev
def ExSt (w : World) (xb : Nat) (v s : Int) : Prop := w.heap[xb]? = some (exObj v s)
theorem BySl.ne_rd {w : World} {rb : Nat} {a : Option Addr} {zs : List Int} {off : Nat} {ok : Bool} {a' : Option Addr} {zs' : List Int} (h : BySl w a zs) (r : RdSt w rb a' zs' off ok) : ∀ b, a = some ⟨b, 0, none⟩ → b ≠ rb := by
  rintro b rfl rfl
  obtain ⟨ev, r, _⟩ := r
  rcases h with ⟨h, _⟩ | ⟨bb, h, hb⟩
  · cases h
  · cases h; rw [hb] at r; simp at r
theorem BySl.ne_ex {w : World} {xb : Nat} {a : Option Addr} {zs : List Int} {v s : Int} (h : BySl w a zs) (r : ExSt w xb v s) : ∀ b, a = some ⟨b, 0, none⟩ → b ≠ xb := by
  rintro b rfl rfl
  unfold ExSt at r
  rcases h with ⟨h, _⟩ | ⟨bb, h, hb⟩
  · cases h
  · cases h; rw [hb] at r; simp [exObj] at r

/-- One header read: Param1, Param2, the offset behind it, whether all is well, the exchange's version. -/
def hstep (zs : List Int) (off : Nat) (ok : Bool) (v c : Int) : (Int × Int) × Nat × Bool × Int :=
  if ok = true ∧ off + 4 ≤ zs.length then ((zs.getD (off + 2) 0, zs.getD (off + 3) 0), off + 4, hok (zs.getD off 0) (zs.getD (off + 1) 0) v c, hver (zs.getD off 0) v) else ((0, 0), off, false, v)

def HPost (rb xb : Nat) (a : Option Addr) (zs : List Int) (s : Int) (r : (Int × Int) × Nat × Bool × Int) (w : World) (e : Ending) (w' : World) : Prop :=
  e = .returned (.tuple #[.int .u8 r.1.1, .int .u8 r.1.2]) ∧ RdSt w' rb a zs r.2.1 r.2.2.1 ∧ ExSt w' xb r.2.2.2 s ∧ Kp [rb, xb] w w'

theorem getD_of {zs : List Int} {i : Nat} (h : i < zs.length) : zs[i]? = some (zs.getD i 0) := by simp [List.getD, h]

set_option maxHeartbeats 400000 in
theorem header_failed (rb xb : Nat) (c0 c1 : Value) (T : TypeId) (x : Value) (c : Int) (name : ByteArray) (w : World) (hnm : name.size ≤ 1048576)
    (hr : w.heap[rb]? = some (.cells #[c0, c1, .iface T x] 66 (0, 0))) :
    Calls Tryf.prog 39 #[.pointer (some ⟨rb, 0, none⟩), .pointer (some ⟨xb, 0, none⟩), .int .u8 c, .string name] w fun e w' =>
      e = .returned (.tuple #[.int .u8 0, .int .u8 0]) ∧ ∃ k, w' = w.drewN k := by
  have heq := fun wx a n c n' c' => Lib.run_eql_slice_nil (P := Tryf.prog) wx 26 5 a n c n' c' Tryf.underlying26
  have HR := (show Hid _ from hr)
  clear hr
  go_enter Tryf.func39, Tryf.ntmps39
  go_wp2_with fail
  refine (next_failed rb c0 c1 T x _ _ _ HR.out).mono ?_
  rintro e w1 ⟨rfl, k, rfl⟩
  go_wp2_with fail
  go_ret2
  exact ⟨rfl, k, rfl⟩

set_option maxHeartbeats 400000 in
theorem header_short (F : Interp) (rb xb : Nat) (a : Option Addr) (len cap off : Nat) (c : Int) (name : ByteArray) (w : World) (hnm : name.size ≤ 1048576) (hF : F.answers w.tape)
    (hr : w.heap[rb]? = some (.cells #[.slice a len cap, .int .i64 off, .nilIface] 66 (0, 0))) (ho : off ≤ len) (hl : len ≤ 1048576) (hn : len < off + 4) :
    Calls Tryf.prog 39 #[.pointer (some ⟨rb, 0, none⟩), .pointer (some ⟨xb, 0, none⟩), .int .u8 c, .string name] w fun e w' =>
      e = .returned (.tuple #[.int .u8 0, .int .u8 0]) ∧ ∃ T x, w'.heap[rb]? = some (.cells #[.slice a len cap, .int .i64 off, .iface T x] 66 (0, 0)) ∧ Kp [rb] w w' := by
  have heq := fun wx a n c n' c' => Lib.run_eql_slice_nil (P := Tryf.prog) wx 26 5 a n c n' c' Tryf.underlying26
  have hnx := next_short F rb a len cap off 4
  simp only [Int.cast_ofNat_Int] at hnx
  have NX := (show Hid _ from hnx)
  have HR := (show Hid _ from hr)
  clear hr hnx
  go_enter Tryf.func39, Tryf.ntmps39
  go_wp2_with fail
  refine (NX.out _ _ hF HR.out ho hl hn (by omega)).mono ?_
  rintro e w1 ⟨rfl, T, x, h1, hk⟩
  have H1 := (show Hid _ from h1)
  clear h1
  go_wp2_with fail
  go_ret2
  exact ⟨rfl, T, x, H1.out, hk⟩

theorem header_any (F : Interp) (rb xb : Nat) (a : Option Addr) (zs : List Int) (off : Nat) (ok : Bool) (v s c : Int) (name : ByteArray) (w : World) (hF : F.answers w.tape)
    (hr : RdSt w rb a zs off ok) (hb : BySl w a zs) (hx : ExSt w xb v s) (hl : zs.length ≤ 1048576) (ho : off ≤ zs.length) (hnm : name.size ≤ 1048576) :
    Calls Tryf.prog 39 #[.pointer (some ⟨rb, 0, none⟩), .pointer (some ⟨xb, 0, none⟩), .int .u8 c, .string name] w (HPost rb xb a zs s (hstep zs off ok v c) w) := by
  have nxr : xb ≠ rb := by
    rintro rfl
    obtain ⟨ev, r, _⟩ := hr
    unfold ExSt exObj at hx
    rw [hx] at r; simp at r
  obtain ⟨ev, hr, hev⟩ := hr
  rcases hev with ⟨rfl, rfl⟩ | ⟨rfl, T, x, rfl⟩
  · by_cases hn : off + 4 ≤ zs.length
    · have hs : hstep zs off true v c = ((zs.getD (off + 2) 0, zs.getD (off + 3) 0), off + 4, hok (zs.getD off 0) (zs.getD (off + 1) 0) v c, hver (zs.getD off 0) v) := by simp [hstep, hn]
      rw [hs]
      rcases hb with ⟨_, rfl⟩ | ⟨bb, rfl, hb⟩
      · simp at hn
      have z0 := getD_of (zs := zs) (i := off) (by omega)
      have z1 := getD_of (zs := zs) (i := off + 1) (by omega)
      have z2 := getD_of (zs := zs) (i := off + 2) (by omega)
      have z3 := getD_of (zs := zs) (i := off + 3) (by omega)
      generalize zs.getD off 0 = h0 at *
      generalize zs.getD (off + 1) 0 = h1 at *
      generalize zs.getD (off + 2) 0 = h2 at *
      generalize zs.getD (off + 3) 0 = h3 at *
      have good : hok h0 h1 v c = true → ∀ e w', (e = Ending.returned (.tuple #[.int .u8 h2, .int .u8 h3]) ∧ w'.heap[rb]? = some (rdObj bb zs.length (off + 4) .nilIface) ∧ w'.heap[xb]? = some (exObj (hver h0 v) s) ∧ Kp [rb, xb] w w') →
          HPost rb xb (some ⟨bb, 0, none⟩) zs s ((h2, h3), off + 4, hok h0 h1 v c, hver h0 v) w e w' := by
        rintro hk e w' ⟨he, h1, h2, h3⟩
        exact ⟨he, ⟨_, h1, Or.inl ⟨hk, rfl⟩⟩, h2, h3⟩
      have bad : hok h0 h1 v c = false → ∀ e w', (e = Ending.returned (.tuple #[.int .u8 h2, .int .u8 h3]) ∧ (∃ T x, w'.heap[rb]? = some (rdObj bb zs.length (off + 4) (.iface T x))) ∧ w'.heap[xb]? = some (exObj (hver h0 v) s) ∧ Kp [rb, xb] w w') →
          HPost rb xb (some ⟨bb, 0, none⟩) zs s ((h2, h3), off + 4, hok h0 h1 v c, hver h0 v) w e w' := by
        rintro hk e w' ⟨he, ⟨T, x, h1⟩, h2, h3⟩
        exact ⟨he, ⟨_, h1, Or.inr ⟨hk, T, x, rfl⟩⟩, h2, h3⟩
      unfold ExSt at hx
      by_cases hc : h1 = c
      · have bc : (h1 != c) = false := by simp [hc]
        by_cases v0 : v = 0
        · subst v0
          by_cases e18 : h0 = 18
          · subst e18
            have q1 : hver 18 0 = 18 := by decide
            rw [q1] at good ⊢
            exact (header_a18_eq F rb bb xb zs off s c name w h1 h2 h3 hF hr hb hx hl hn z0 z1 z2 z3 hnm bc).mono (good (by simp [hok, hc]))
          · by_cases e19 : h0 = 19
            · subst e19
              have q1 : hver 19 0 = 19 := by decide
              rw [q1] at good ⊢
              exact (header_a19_eq F rb bb xb zs off s c name w h1 h2 h3 hF hr hb hx hl hn z0 z1 z2 z3 hnm bc).mono (good (by simp [hok, hc]))
            · have q1 : hver h0 0 = 0 := by simp [hver, e18, e19]
              rw [q1] at bad ⊢
              exact (header_b_eq F rb bb xb zs off s c name w h0 h1 h2 h3 hF hr hb hx hl hn z0 z1 z2 z3 hnm (by simp [e18]) (by simp [e19]) bc).mono (bad (by simp [hok, e18, e19]))
        · have q1 : hver h0 v = v := by simp [hver, v0]
          rw [q1] at good bad ⊢
          by_cases hhv : h0 = v
          · exact (header_d_eq F rb bb xb zs off v s c name w h0 h1 h2 h3 hF hr hb hx hl hn z0 z1 z2 z3 hnm (by simp [v0]) (by simp [hhv]) bc).mono (good (by simp [hok, hc, v0, hhv]))
          · exact (header_c_eq F rb bb xb zs off v s c name w h0 h1 h2 h3 hF hr hb hx hl hn z0 z1 z2 z3 hnm (by simp [v0]) (by simp [hhv]) bc).mono (bad (by simp [hok, v0, hhv]))
      · have bc : (h1 != c) = true := by simp [hc]
        have bad := bad (by simp [hok, hc])
        clear good
        by_cases v0 : v = 0
        · subst v0
          by_cases e18 : h0 = 18
          · subst e18
            have q1 : hver 18 0 = 18 := by decide
            rw [q1] at bad ⊢
            exact (header_a18_ne F rb bb xb zs off s c name w h1 h2 h3 hF hr hb hx hl hn z0 z1 z2 z3 hnm bc).mono bad
          · by_cases e19 : h0 = 19
            · subst e19
              have q1 : hver 19 0 = 19 := by decide
              rw [q1] at bad ⊢
              exact (header_a19_ne F rb bb xb zs off s c name w h1 h2 h3 hF hr hb hx hl hn z0 z1 z2 z3 hnm bc).mono bad
            · have q1 : hver h0 0 = 0 := by simp [hver, e18, e19]
              rw [q1] at bad ⊢
              exact (header_b_ne F rb bb xb zs off s c name w h0 h1 h2 h3 hF hr hb hx hl hn z0 z1 z2 z3 hnm (by simp [e18]) (by simp [e19]) bc).mono bad
        · have q1 : hver h0 v = v := by simp [hver, v0]
          rw [q1] at bad ⊢
          by_cases hhv : h0 = v
          · exact (header_d_ne F rb bb xb zs off v s c name w h0 h1 h2 h3 hF hr hb hx hl hn z0 z1 z2 z3 hnm (by simp [v0]) (by simp [hhv]) bc).mono bad
          · exact (header_c_ne F rb bb xb zs off v s c name w h0 h1 h2 h3 hF hr hb hx hl hn z0 z1 z2 z3 hnm (by simp [v0]) (by simp [hhv]) bc).mono bad
    · have hs : hstep zs off true v c = ((0, 0), off, false, v) := by simp [hstep, hn]
      rw [hs]
      refine (header_short F rb xb a zs.length zs.length off c name w hnm hF hr ho hl (by omega)).mono ?_
      rintro e w' ⟨rfl, T, x, h1, hk⟩
      exact ⟨rfl, ⟨_, h1, Or.inr ⟨rfl, T, x, rfl⟩⟩, hk.at hx (by simp [nxr]), hk.mono (by simp)⟩
  · have hs : hstep zs off false v c = ((0, 0), off, false, v) := by simp [hstep]
    rw [hs]
    refine (header_failed rb xb _ _ T x c name w hnm hr).mono ?_
    rintro e w' ⟨rfl, k, rfl⟩
    exact ⟨rfl, ⟨_, hr, Or.inr ⟨rfl, T, x, rfl⟩⟩, hx, (Kp.refl _ _).drewN _⟩

set_option maxHeartbeats 400000 in
theorem zzheader_any (F : Interp) (rb xb : Nat) (a : Option Addr) (zs : List Int) (off : Nat) (ok : Bool) (v s c : Int) (name : ByteArray) (w : World) (hF : F.answers w.tape)
    (hr : RdSt w rb a zs off ok) (hb : BySl w a zs) (hx : ExSt w xb v s) (hl : zs.length ≤ 1048576) (ho : off ≤ zs.length) (hnm : name.size ≤ 1048576) :
    Calls Tryf.prog 20 #[.pointer (some ⟨rb, 0, none⟩), .pointer (some ⟨xb, 0, none⟩), .int .u8 c, .string name] w (HPost rb xb a zs s (hstep zs off ok v c) w) := by
  have HC := (show Hid _ from header_any F rb xb a zs off ok v s c name w hF hr hb hx hl ho hnm)
  generalize hstep zs off ok v c = r at HC ⊢
  clear hr hb hx
  go_enter Tryf.func20, Tryf.ntmps20
  go_wp2_with fail
  refine Calls.mono HC.out ?_
  rintro e w1 ⟨rfl, h1, h2, h3⟩
  have H1 := (show Hid _ from h1)
  have H2 := (show Hid _ from h2)
  clear h1 h2
  go_wp2_with fail
  go_ret2
  exact ⟨rfl, H1.out, H2.out, h3⟩

end Go.Proofs.Qxb6613256aFmt
