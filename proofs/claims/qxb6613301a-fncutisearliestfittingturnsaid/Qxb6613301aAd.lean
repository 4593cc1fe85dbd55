/-
  ZZcallAnchor, whole; the plain law of a response that is recorded behind the others; rows that the law itself makes.
-/
import Derived.Test.Qxb6613301aAc
import Derived.Test.Qxb6613301aAp
set_option linter.unusedVariables false
set_option linter.unusedSimpArgs false
namespace Go.Proofs.Qxb6613301a
open Go.RowKit

def anc (so st : Bool) (nb : Nat) (rs : List R) (ps : List Nat) : Option Addr × ByteArray :=
  if so then (none, sStoreOff) else if st then (none, sStateless) else if rs.length = 0 then (none, sNoResponse) else ancOf nb rs ps

/-- A ledger in memory. -/
def Led (w : World) (L : Nat) (so st : Bool) (nb : Nat) (rs : List R) (ps : List Nat) : Prop :=
  ∃ ba bc rb rcap pc q qc, w.heap[L]? = some (ledObj so st ba nb bc (some ⟨rb, 0, none⟩) rs.length rcap (some ⟨q, 0, none⟩) rs.length qc) ∧ Ptrs w rb pc rs ps ∧ Rch w q rs.length rs rs.length
theorem Led.kp {w w' : World} {L : Nat} {so st : Bool} {nb : Nat} {rs : List R} {ps : List Nat} (h : Led w L so st nb rs ps) (k : Kp [] w w') : Led w' L so st nb rs ps := by
  obtain ⟨ba, bc, rb, rcap, pc, q, qc, h1, h2, h3⟩ := h
  exact ⟨ba, bc, rb, rcap, pc, q, qc, k.at h1 (by simp), h2.kp k (by simp) (by simp), h3.kp k (by simp)⟩

theorem anchor_any (L : Nat) (so st : Bool) (nb : Nat) (rs : List R) (ps : List Nat) (w : World) (hp : ps.length = rs.length) (hl : rs.length ≤ 4097) (h : Led w L so st nb rs ps) :
    Calls Try.prog 35 #[.pointer (some ⟨L, 0, none⟩)] w fun e w' => e = .returned (.tuple #[.pointer (anc so st nb rs ps).1, .string (anc so st nb rs ps).2]) ∧ Kp [] w w' := by
  obtain ⟨ba, bc, rb, rcap, pc, q, qc, h1, h2, h3⟩ := h
  cases so
  · cases st
    · by_cases hn : rs.length = 0
      · have e : anc false false nb rs ps = (none, sNoResponse) := by simp [anc, hn]
        rw [e]
        rw [hn] at h1
        refine (anchor_empty L ba nb bc _ rcap _ _ qc w h1).mono ?_
        rintro e w' ⟨rfl, rfl⟩
        exact ⟨rfl, Kp.refl _ _⟩
      · have e : anc false false nb rs ps = ancOf nb rs ps := by simp [anc, hn]
        rw [e]
        exact anchor_some L ba nb bc rb rcap pc q qc rs ps rs.length w rfl hp (by omega) hl h1 h2 h3
    · refine (anchor_stateless L ba nb bc _ _ rcap _ _ qc w h1).mono ?_
      rintro e w' ⟨rfl, rfl⟩
      exact ⟨rfl, Kp.refl _ _⟩
  · refine (anchor_off L st ba nb bc _ _ rcap _ _ qc w h1).mono ?_
    rintro e w' ⟨rfl, rfl⟩
    exact ⟨rfl, Kp.refl _ _⟩

set_option maxHeartbeats 400000 in
theorem callAnchor_any (L : Nat) (so st : Bool) (nb : Nat) (rs : List R) (ps : List Nat) (w : World) (hp : ps.length = rs.length) (hl : rs.length ≤ 4097) (h : Led w L so st nb rs ps) :
    Calls Try.prog 25 #[.pointer (some ⟨L, 0, none⟩)] w fun e w' => e = .returned (.tuple #[.pointer (anc so st nb rs ps).1, .string (anc so st nb rs ps).2]) ∧ Kp [] w w' := by
  have HC := hid (anchor_any L so st nb rs ps w hp hl h)
  generalize anc so st nb rs ps = A at HC ⊢
  clear h
  go_enter Try.func25, Try.ntmps25
  go_wp2_with fail
  refine Calls.mono HC.out ?_
  rintro e w1 ⟨rfl, k⟩
  go_wp2_with fail
  go_ret2
  exact ⟨rfl, k⟩

/-! ### the plain law -/
theorem anc_keeps (so st : Bool) (nb : Nat) (rs : List R) (ps : List Nat) (x : R) (p : Nat) (hp : ps.length = rs.length) (hx : x.i ≠ x.h) (h0 : so = false → st = false → rs.length ≠ 0) :
    anc so st nb (rs ++ [x]) (ps ++ [p]) = anc so st nb rs ps := by
  unfold anc
  cases so
  · cases st
    · have hn := h0 rfl rfl
      simp only [List.length_append, List.length_singleton, Bool.false_eq_true, if_false]
      rw [if_neg (by omega), if_neg hn]
      unfold ancOf
      have e : lastW (rs ++ [x]) (rs ++ [x]).length = lastW rs rs.length := by
        simp only [List.length_append, List.length_singleton]
        rw [← lastW_append rs x rs.length (Nat.le_refl _)]
        conv => lhs; unfold lastW
        simp [hx]
      rw [e]
      cases hw : lastW rs rs.length with
      | none => rfl
      | some k =>
        obtain ⟨hk, r, hr, _⟩ := lastW_some hw
        simp only []
        rw [List.getElem?_append_left hk]
        simp [List.getD, List.getElem?_append_left (show k < ps.length by omega)]
    · simp
  · simp
theorem anc_first (nb : Nat) (rs : List R) (ps : List Nat) (x : R) (p : Nat) (hn : rs.length = 0) (hx : x.i ≠ x.h) : anc false false nb (rs ++ [x]) (ps ++ [p]) = (none, sPrefix) := by
  obtain rfl : rs = [] := List.eq_nil_of_length_eq_zero hn
  simp [anc, ancOf, lastW, hx]
theorem anc_new (nb : Nat) (rs : List R) (ps : List Nat) (x : R) (p : Nat) (hp : ps.length = rs.length) (hx : x.i = x.h) : anc false false nb (rs ++ [x]) (ps ++ [p]) = (some ⟨p, 0, none⟩, why nb x) := by
  unfold anc ancOf
  have e : lastW (rs ++ [x]) (rs ++ [x]).length = some rs.length := by
    simp only [List.length_append, List.length_singleton]
    unfold lastW
    simp [hx]
  rw [e]
  simp [List.getD, ← hp]

/-! ### the two rows that the law fills -/
def flat (rs : List R) : List Value := rs.flatMap fun r => [.bool r.g, .int .i64 r.h, .int .i64 r.i]
theorem flat_length (rs : List R) : (flat rs).length = rs.length * 3 := by
  induction rs with
  | nil => rfl
  | cons r rs ih => simp [flat] at ih ⊢; omega
theorem flat_append (rs : List R) (x : R) : flat (rs ++ [x]) = flat rs ++ [.bool x.g, .int .i64 x.h, .int .i64 x.i] := by simp [flat]
theorem flat_at : ∀ (rs : List R) (k : Nat) (r : R), rs[k]? = some r → (flat rs)[k * 3]? = some (.bool r.g) ∧ (flat rs)[k * 3 + 1]? = some (.int .i64 r.h) ∧ (flat rs)[k * 3 + 2]? = some (.int .i64 r.i) := by
  intro rs
  induction rs with
  | nil => intro k r h; simp at h
  | cons s rs ih =>
    intro k r h
    have e : flat (s :: rs) = .bool s.g :: .int .i64 s.h :: .int .i64 s.i :: flat rs := rfl
    rw [e]
    cases k with
    | zero => simp at h; subst h; simp
    | succ k =>
      have := ih k r (by simpa using h)
      have e1 : (k + 1) * 3 = k * 3 + 1 + 1 + 1 := by omega
      rw [e1]
      simpa [Nat.add_right_comm] using this

def ptrs (ps : List Nat) : List Value := ps.map fun p => .pointer (some ⟨p, 0, none⟩)

/-- A row of another element type is another block: it stays while this one grows. -/
theorem own_keep {w w' : World} {base e e' size size' : Nat} {v v' : Value} {n n' : Nat} {xs xs' : List Value} (h : w.ownsRow base e size v n xs) (h' : w.ownsRow base e' size' v' n' xs') (hne : e ≠ e') (hg : w.grownBy w' v'.ownBlock) : w'.ownsRow base e size v n xs := by
  obtain ⟨h1, h2⟩ := h
  refine ⟨h1, ?_⟩
  rcases h2 with h2 | ⟨g, cap, cur, rfl, hb, hh, r⟩
  · exact Or.inl h2
  · refine Or.inr ⟨g, cap, cur, rfl, hb, ?_, r⟩
    rw [hg.block g (lt_of_at hh) ?_]; exact hh
    rcases h'.2 with ⟨rfl, _⟩ | ⟨g', cap', cur', rfl, _, hh', _⟩
    · simp [Value.ownBlock]
    · simp [Value.ownBlock]
      rintro rfl
      rw [hh] at hh'
      simp at hh'
      exact hne hh'.2
theorem own_kp {w w' : World} {base e size : Nat} {v : Value} {n : Nat} {xs : List Value} (h : w.ownsRow base e size v n xs) (k : Kp [] w w') : w'.ownsRow base e size v n xs := by
  obtain ⟨h1, h2⟩ := h
  refine ⟨h1, ?_⟩
  rcases h2 with h2 | ⟨g, cap, cur, rfl, hb, hh, r⟩
  · exact Or.inl h2
  · exact Or.inr ⟨g, cap, cur, rfl, hb, k.at hh (by simp), r⟩
/-- What was there before both rows stays while one of them grows. -/
theorem kp_grown {w0 w w' : World} {base e size : Nat} {v : Value} {n : Nat} {xs : List Value} (k : Kp [] w0 w) (h : w.ownsRow base e size v n xs) (hb : w0.heap.size ≤ base) (hg : w.grownBy w' v.ownBlock) : Kp [] w0 w' := by
  refine ⟨hg.os.trans k.os, hg.tape.trans k.tape, hg.output.trans k.output, Nat.le_trans k.size hg.size, fun i hi _ => ?_⟩
  rw [hg.block i (Nat.lt_of_lt_of_le hi k.size) ?_]
  · exact k.block i hi (by simp)
  · rcases h.2 with ⟨rfl, _⟩ | ⟨g, cap, cur, rfl, hbg, _⟩
    · simp [Value.ownBlock]
    · simp [Value.ownBlock]; omega
theorem own_rsl {w : World} {base : Nat} {v : Value} {rs : List R} (h : w.ownsRow base 38 3 v rs.length (flat rs)) : ∃ a c, v = .slice a rs.length c ∧ RSl w a rs := by
  rcases h.2 with ⟨rfl, h0⟩ | ⟨g, cap, cur, rfl, _, hh, _, _, hs, ht⟩
  · obtain rfl : rs = [] := List.eq_nil_of_length_eq_zero h0
    exact ⟨none, 0, rfl, fun k r hk => by simp at hk⟩
  · refine ⟨_, _, rfl, fun k r hk => ⟨g, 0, rfl, ?_⟩⟩
    have hkl : k < rs.length := (List.getElem?_eq_some_iff.1 hk).1
    obtain ⟨a, b, c⟩ := flat_at rs k r hk
    have get : ∀ j v, j < rs.length * 3 → (flat rs)[j]? = some v → w.cell? ⟨g, 0 + j, none⟩ = some v := by
      intro j v hj hv
      rw [cell_at hh, Nat.zero_add]
      rw [← ht, List.getElem?_take_of_lt hj] at hv
      simpa using hv
    refine ⟨get _ _ (by omega) a, ?_, ?_⟩
    · have := get _ _ (by omega) b
      rwa [← Nat.add_assoc] at this
    · have := get _ _ (by omega) c
      rwa [← Nat.add_assoc] at this
theorem own_ptrs {w : World} {base : Nat} {v : Value} {rs : List R} {ps : List Nat} (hp : ps.length = rs.length) (hn : 0 < ps.length) (h : w.ownsRow base 45 1 v ps.length (ptrs ps))
    (hr : ∀ k p, ps[k]? = some p → ∃ r, rs[k]? = some r ∧ w.heap[p]? = some (respObj k r.g r.h)) : ∃ g c, v = .slice (some ⟨g, 0, none⟩) rs.length c ∧ Ptrs w g c rs ps := by
  rcases h.2 with ⟨rfl, h0⟩ | ⟨g, cap, cur, rfl, _, hh, _, _, hs, ht⟩
  · omega
  · refine ⟨g, cap, by rw [hp], cur, hh, by simpa using hs, fun k p hk => ⟨?_, hr k p hk⟩⟩
    have hkl : k < ps.length := (List.getElem?_eq_some_iff.1 hk).1
    have e : (ptrs ps)[k]? = some (.pointer (some ⟨p, 0, none⟩)) := by simp [ptrs, hk]
    rw [← ht, Nat.mul_one, List.getElem?_take_of_lt hkl] at e
    simpa using e

end Go.Proofs.Qxb6613301a
