/-
  zzBlocks: the blocks of the items.
-/
import Derived.Test.Qxb6613301aAm
import Derived.Test.Qxb6613301aCi
import Derived.Test.Qxb6613301aCz
import Derived.Maps.AppendAt
import Derived.Laws.IdiomStrings
set_option linter.unusedVariables false
set_option linter.unusedSimpArgs false
namespace Go.Proofs.Qxb6613301a
open Go.RowKit

def Bk.cells (b : Bk) : List Value := [.string ⟨#[]⟩, .slice b.ra b.it.raw.size b.rc, .pointer none, .string b.it.ty, .string b.it.id, .string b.it.call, .string b.it.role, .string ⟨#[]⟩, .bool false]
def bflat (bs : List Bk) : List Value := bs.flatMap Bk.cells
theorem bflat_length (bs : List Bk) : (bflat bs).length = bs.length * 9 := by
  induction bs with
  | nil => rfl
  | cons b bs ih => simp [bflat, Bk.cells] at ih ⊢; omega
theorem bflat_append (bs : List Bk) (b : Bk) : bflat (bs ++ [b]) = bflat bs ++ b.cells := by simp [bflat]
theorem bflat_at : ∀ (bs : List Bk) (k : Nat) (b : Bk), bs[k]? = some b → ∀ j v, b.cells[j]? = some v → (bflat bs)[k * 9 + j]? = some v := by
  intro bs
  induction bs with
  | nil => intro k b h; simp at h
  | cons x bs ih =>
    intro k b h j v hv
    have hj : j < 9 := by have := (List.getElem?_eq_some_iff.1 hv).1; simpa [Bk.cells] using this
    cases k with
    | zero =>
      simp at h
      subst h
      simp only [bflat, List.flatMap_cons, Nat.zero_mul, Nat.zero_add]
      rw [List.getElem?_append_left (by simpa [Bk.cells] using hj)]
      exact hv
    | succ k =>
      simp at h
      have := ih k b h j v hv
      simp only [bflat, List.flatMap_cons] at this ⊢
      rw [List.getElem?_append_right (by simp [Bk.cells]; omega)]
      rw [← this]
      congr 1
      simp [Bk.cells]; omega

theorem news9 (w : World) (b : Bk) : ∀ j u, b.cells[j]? = some u → (w.alloc (.cells #[.string ⟨#[]⟩, .slice b.ra b.it.raw.size b.rc, .pointer none, .string b.it.ty, .string b.it.id, .string b.it.call, .string b.it.role, .string ⟨#[]⟩, .bool false] 92)).cell? ((⟨w.heap.size, 0, none⟩ : Addr).add j) = some u := by
  intro j u hj
  rw [cell_news]
  simpa [Bk.cells] using hj
theorem one9 (b : Bk) : ∀ u ∈ b.cells, u.oneCell' = true := by
  intro u hu
  simp [Bk.cells] at hu
  rcases hu with rfl | rfl | rfl | rfl | rfl | rfl | rfl | rfl | rfl <;> rfl

theorem own_bsl {w : World} {base g cap n : Nat} {bs : List Bk} (hn : n = bs.length) (h : w.ownsRow base 92 9 (.slice (some ⟨g, 0, none⟩) n cap) n (bflat bs)) : BSl w g bs ∧ g < w.heap.size ∧ base ≤ g := by
  subst hn
  rcases h.2 with ⟨h0, _⟩ | ⟨g', cap', cur, hv, hb, hh, _, _, hs, ht⟩
  · cases h0
  · cases hv
    refine ⟨fun k b hk j v hv => ?_, lt_of_at hh, hb⟩
    have hkl : k < bs.length := (List.getElem?_eq_some_iff.1 hk).1
    have hv' : b.cells[j]? = some v := by simpa [It.blk, Bk.cells] using hv
    have hj : j < 9 := by have := (List.getElem?_eq_some_iff.1 hv').1; simpa [Bk.cells] using this
    have e := bflat_at bs k b hk j v hv'
    rw [cell_at hh]
    rw [← ht, List.getElem?_take_of_lt (by omega)] at e
    simpa using e

set_option maxRecDepth 100000 in
set_option maxHeartbeats 2000000 in
theorem blocks30 (its : List It) (a : Option Addr) (cap : Nat) (w : World) (hl : its.length ≤ 4096) (hs : ISl w a its) (hsm : ∀ (k : Nat) (t : It), its[k]? = some t → t.small) :
    Calls Try.prog 30 #[.slice a its.length cap] w fun e w' => ∃ (bs : List Bk) (q c : Nat), bs.map Bk.it = its ∧ e = .returned (.slice (some ⟨q, 0, none⟩) its.length c) ∧ BSl w' q bs ∧ q < w'.heap.size ∧ Kp [] w w' := by
  obtain ⟨n, hn⟩ : ∃ n, n = its.length := ⟨_, rfl⟩
  rw [← hn] at hl ⊢
  have HN := hid hn
  have HS := hid hs
  have HM := hid hsm
  clear hn hs hsm
  have hmk := run_make_room 58 92 _ 9 136 Try.underlying58 info92 n (by omega) (by omega)
  obtain ⟨AA, hAA⟩ : ∃ AA, AA = madeCells (Value.agg #[.string ⟨#[]⟩, .slice none 0 0, .pointer none, .string ⟨#[]⟩, .string ⟨#[]⟩, .string ⟨#[]⟩, .string ⟨#[]⟩, .string ⟨#[]⟩, .bool false]).cells (n * 9) := ⟨_, rfl⟩
  have hAs : AA.size = n * 9 := by rw [hAA, size_madeCells]
  rw [← hAA] at hmk
  clear hAA
  have hcv := fun (wx : World) (s : ByteArray) => run_bytes_of_string (P := Try.prog) wx 9 82 5 s Try.underlying9 Try.underlying82 Try.underlying5
  obtain ⟨i92, hi92, hz92, hs92, hb92⟩ := info_parts info92
  go_enter Try.func30, Try.ntmps30
  go_wp2
  go_loopw [3, 4] (fun va i wr => ∃ (k : Nat) (bs : List Bk) (g c : Nat), k ≤ n ∧ i = .int .i64 k ∧ va = .slice (some ⟨g, 0, none⟩) k c ∧ bs.map Bk.it = its.take k ∧ wr.ownsRow w.heap.size 92 9 (.slice (some ⟨g, 0, none⟩) k c) k (bflat bs) ∧ Kp [] w wr) (fun _ i _ => n - (intOf i).toNat)
  case atStart =>
    exact ⟨0, [], w.heap.size, n, Nat.zero_le _, rfl, rfl, by simp, ⟨rfl, Or.inr ⟨w.heap.size, n, AA, rfl, Nat.le_refl _, heap_push _ _, by omega, by unfold maxLen; omega, hAs, by simp [bflat]⟩⟩, (Kp.refl _ _).alloc _⟩
  case round =>
    obtain ⟨k, bs, g, c, hk, rfl, rfl, hbs, hown, hK⟩ := hrel
    have HO := hid hown
    have HB := hid hbs
    clear hown hbs
    by_cases hlt : k < n
    · obtain ⟨t, ht⟩ : ∃ t, its[k]? = some t := ⟨its[k]'(by rw [← HN.out]; exact hlt), by simp⟩
      obtain ⟨b, o, rfl, c0, c1, c2, c3, c4⟩ := HS.out k t ht
      obtain ⟨s0, s1, s2, s3, s4⟩ := HM.out k t ht
      have htk : its.take (k + 1) = its.take k ++ [t] := by rw [List.take_add_one, ht]; rfl
      have hbw : b < w.heap.size := lt_of_cell c0
      have hkz := hK.size
      have hbw1 : b < wr.heap.size := by omega
      have c0 := hK.cell c0 (by simp)
      have c1 := hK.cell c1 (by simp)
      have c2 := hK.cell c2 (by simp)
      have c3 := hK.cell c3 (by simp)
      have c4 := hK.cell c4 (by simp)
      obtain ⟨ty, id, call, role, raw⟩ := t
      dsimp only at c0 c1 c2 c3 c4 s0 s1 s2 s3 s4
      have HT := hid htk
      clear ht htk
      have hk63 : k + 1 ≤ maxLen := by unfold maxLen; omega
      go_wp2_with fail
      refine (newBlock_any _ _ _ _ _ _ _ _).mono ?_
      rintro e w1 ⟨rfl, hk1⟩
      have hK1 : Kp [] wr w1 := (((Kp.refl [] wr).alloc _).drew.alloc _).trans hk1
      clear hk1 c0 c1 c2 c3 c4
      generalize grownCap _ _ _ _ = rcp
      generalize wr.heap.size + 1 = rb
      obtain ⟨B, hB⟩ : ∃ B : Bk, B = ⟨⟨ty, id, call, role, raw⟩, some ⟨rb, 0, none⟩, rcp⟩ := ⟨_, rfl⟩
      have n9 := news9 w1 B
      have o9 := one9 B
      rw [hB] at n9
      dsimp only at n9
      have hKw := hK.trans hK1
      have hkw := hKw.size
      go_wp2_with (first | (at_builtin; refine wpList_append_own _ rfl (.tmp 19) (.tmp 32) 58 rfl w.heap.size 92 i92 _ 9 136 Try.underlying58 hi92 hz92 hs92 hb92 rfl (by decide) _ k (bflat bs) rfl (own_kp HO.out (hK1.alloc _)) ⟨w1.heap.size, 0, none⟩ 1 1 _ rfl rfl (by simpa only [hB] using n9) (by simpa only [hB] using o9) hk63 (by omega) (by simp; omega) ?_; intro va' w2 hoA' hgA _; obtain ⟨g', cap', rfl⟩ := ownsRow_succ hoA'; have HO2 := hid hoA'; have HG2 := hid hgA; clear hoA' hgA) | fail)
      subst hB
      exact ⟨⟨k + 1, bs ++ [⟨⟨ty, id, call, role, raw⟩, some ⟨rb, 0, none⟩, rcp⟩], g', cap', by omega, by go_num, rfl, by rw [List.map_append, HB.out, HT.out]; rfl, by rw [bflat_append]; exact HO2.out, kp_grown (hKw.alloc _) (own_kp HO.out (hK1.alloc _)) (Nat.le_refl _) HG2.out⟩, by simp [intOf]; omega⟩
    · have hkn : k = n := by omega
      subst hkn
      go_wp2
      go_ret
      obtain ⟨r1, r2, r3⟩ := own_bsl (bs := bs) (by have := congrArg List.length HB.out; simp at this; have := HN.out; omega) HO.out
      exact ⟨bs, g, c, by rw [HB.out, List.take_of_length_le (by have := HN.out; omega)], rfl, r1, r2, hK⟩

end Go.Proofs.Qxb6613301a
