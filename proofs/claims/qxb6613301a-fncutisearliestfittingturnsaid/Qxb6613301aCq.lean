/-
  The law FnCutIsEarliestFittingTurn, walked.
-/
import Derived.Test.Qxb6613301aCp
import Derived.Test.Qxb6613301aCo
set_option linter.unusedVariables false
set_option linter.unusedSimpArgs false
namespace Go.Proofs.Qxb6613301a
open Go.RowKit

theorem mAns_eq (a b : Int) : mAns a b = mAns' a b := rfl

set_option maxRecDepth 100000 in
set_option maxHeartbeats 1000000 in
theorem budget28 (bs : List Bk) (q cap L : Nat) (bud : Int) (w : World) (hlen : bs.length ≤ 4096) (hsz : ∀ k, (pid bs k).size ≤ 1048576)
    (hL : w.heap[L]? = some (ledCut q bs.length cap)) (hq : BSl w q bs) (hqs : q < w.heap.size) :
    Calls Try.prog 28 #[.pointer (some ⟨L, 0, none⟩), .int .i64 bud] w fun e w' => ∃ r : Int, e = .returned (.int .i64 r) ∧ CutAns bs bud r ∧ Kp [] w w' := by
  have hk : Kp [] w (w.alloc (.cells #[.int .i64 bud] 3)) := (Kp.refl _ _).alloc _
  have h38 := cut38 bs q cap L w.heap.size bud (w.alloc (.cells #[.int .i64 bud] 3)) hlen hsz (hk.at hL (by simp)) (fun i b hb j v hv => hk.cell (hq i b hb j v hv) (by simp)) (by simp; omega) (heap_push _ _)
  have HH := hid h38
  have HK := hid hk
  clear h38 hk hL hq hqs
  go_enter Try.func28, Try.ntmps28
  go_wp2_with fail
  refine HH.out.mono ?_
  rintro e w1 ⟨r, rfl, ha, hk1⟩
  go_wp2_with fail
  go_ret
  exact ⟨r, rfl, ha, HK.out.trans hk1⟩

set_option maxRecDepth 100000 in
set_option maxHeartbeats 1000000 in
theorem cutAt19 (its : List It) (a : Option Addr) (cap : Nat) (bud : Int) (w : World) (hl : its.length ≤ 4096) (hs : ISl w a its) (hsm : ∀ (k : Nat) (t : It), its[k]? = some t → t.small) :
    Calls Try.prog 19 #[.slice a its.length cap, .int .i64 bud] w fun e w' => ∃ (bs : List Bk) (r : Int), bs.map Bk.it = its ∧ e = .returned (.int .i64 r) ∧ CutAns bs bud r ∧ Kp [] w w' := by
  have h30 := blocks30 its a cap w hl hs hsm
  obtain ⟨n, hn⟩ : ∃ n, n = its.length := ⟨_, rfl⟩
  rw [← hn] at h30 ⊢
  have HN := hid hn
  have HM := hid hsm
  have HL := hid hl
  clear hn hs hsm hl
  go_enter Try.func19, Try.ntmps19
  go_wp2_with fail
  refine h30.mono ?_
  clear h30
  rintro e w1 ⟨bs, q, c, hbs, rfl, hB, hq, hk1⟩
  have HB := hid hB
  have HBS := hid hbs
  clear hB hbs
  go_wp2_with fail
  refine (newLed29 _ _ _ _).mono ?_
  rintro e w2 ⟨rfl, hw2⟩
  have hk2 : Kp [] w1 w2 := by rw [hw2]; exact (Kp.refl _ _).alloc _
  have hLd : w2.heap[w1.heap.size]? = some (ledCut q n c) := by rw [hw2]; exact heap_push _ _
  have hbl : bs.length = n := by rw [HN.out, ← HBS.out]; simp
  have h28 := budget28 bs q c w1.heap.size bud w2 (by rw [hbl, HN.out]; exact HL.out) (fun k => by
      rw [pid_gid, HBS.out]
      unfold gid
      cases ht : its[k]? with
      | none => exact Nat.zero_le _
      | some t =>
        obtain ⟨s0, s1, s2, s3, s4⟩ := HM.out k t ht
        simp only [Option.map_some, Option.getD_some, It.paired]
        split
        · split
          · exact s1
          · exact s2
        · split
          · exact s2
          · exact Nat.zero_le _) (by rw [hbl]; exact hLd) (fun i b hb j v hv => hk2.cell (HB.out i b hb j v hv) (by simp)) (by have := hk2.size; omega)
  have HH := hid h28
  clear h28 hw2 hLd
  go_wp2_with fail
  refine HH.out.mono ?_
  rintro e w3 ⟨r, rfl, ha, hk3⟩
  go_wp2_with fail
  go_ret
  exact ⟨bs, r, HBS.out, rfl, ha, (hk1.trans hk2).trans hk3⟩

theorem suf_tot (its : List It) (k : Nat) : suf its k ≤ tot its its.length := by
  unfold suf tot
  rw [List.take_length]
  have h1 : ((its.drop k).map fun t => t.raw.size).sum ≤ (its.map fun t => t.raw.size).sum := by
    have := suf_mono its (Nat.zero_le k)
    simpa [suf] using this
  have h2 : (its.map fun t => t.raw.size).sum ≤ (its.map It.sum).sum := by
    clear h1
    induction its with
    | nil => simp
    | cons t ts ih => simp only [List.map_cons, List.sum_cons, It.sum] at ih ⊢; omega
  omega

set_option maxRecDepth 100000 in
set_option maxHeartbeats 1000000 in
theorem fn5_any (its : List It) (a : Option Addr) (cap : Nat) (bud : Int) (w : World) (h63 : its.length ≤ 9223372036854775807) (hs : ISl w a its) :
    Calls Try.prog 5 #[.slice a its.length cap, .int .i64 bud] w fun e w' => e = .returned (.bool true) ∧ Below w.heap.size w w' := by
  have h17 := bytes17 its a cap (.int .i64 bud) w h63 hs
  have h18 := fun hsm => tooBig18 its a cap w h63 hs hsm
  have h19 := fun hl hsm => cutAt19 its a cap bud w hl hs hsm
  have h20 := fun (w' : World) (hk : Kp [] w w') hl hsf => model20 its a cap bud w' hl (fun k t ht => by
    obtain ⟨b, o, h0, h1, h2, h3, h4, h5⟩ := hs k t ht
    exact ⟨b, o, h0, hk.cell h1 (by simp), hk.cell h2 (by simp), hk.cell h3 (by simp), hk.cell h4 (by simp), hk.cell h5 (by simp)⟩) hsf
  have HT := hid (suf_tot its)
  obtain ⟨n, hn⟩ : ∃ n, n = its.length := ⟨_, rfl⟩
  have hsame := hn
  rw [← hn] at h17 h18 h19 h20 HT ⊢
  have H18 := hid h18
  have H19 := hid h19
  have H20 := hid h20
  have HN := hid hn
  clear h18 h19 h20 hn hs hsame h63
  go_enter Try.func5, Try.ntmps5
  go_wp2_with fail
  refine h17.mono ?_
  clear h17
  rintro e w1 ⟨b, rfl, hsm, rfl⟩
  cases b
  · go_wp2_with fail
    go_ret
    exact ⟨rfl, Below.refl _ _⟩
  · have hsm := hsm rfl
    have HSM := hid hsm
    clear hsm
    go_wp2_with fail
    refine (H18.out HSM.out).mono ?_
    rintro e w2 ⟨b, rfl, hb, rfl⟩
    cases b
    · obtain ⟨hb1, hb2⟩ := hb rfl
      have hsf : ∀ k, suf its k ≤ 1048576 := fun k => Nat.le_trans (HT.out k) hb2
      have HSF := hid hsf
      clear hsf hb
      go_wp2_with fail
      refine (H19.out hb1 HSM.out).mono ?_
      rintro e w3 ⟨bs, r, hbs, rfl, ha, hk3⟩
      have HA := hid ha
      have HBS := hid hbs
      have HK3 := hid hk3
      clear ha hbs
      go_wp2_with fail
      refine (H20.out w3 hk3 hb1 HSF.out).mono ?_
      rintro e w4 ⟨last, best, rfl, hmi, hk4⟩
      have hr : r = mAns last best := by
        rw [mAns_eq]
        have hbs := HBS.out
        subst hbs
        exact cut_model bs bud r last best HSF.out (by have := HN.out; simp at this; omega) HA.out (by rw [← HN.out]; exact hmi)
      subst hr
      clear hmi
      go_wp2_with fail
      go_ret
      exact ⟨by simp, (HK3.out.trans hk4).below _ (Nat.le_refl _) (by simp)⟩
    · go_wp2_with fail
      go_ret
      exact ⟨rfl, Below.refl _ _⟩

end Go.Proofs.Qxb6613301a
