/-
  Ledger.search (nothing to do) and Ledger.anchor, by contract.
-/
import Derived.Test.Qxb6613301aAl
set_option linter.unusedVariables false
set_option linter.unusedSimpArgs false
namespace Go.Proofs.Qxb6613301a
open Go.RowKit

set_option maxRecDepth 100000 in
set_option maxHeartbeats 1000000 in
theorem search_any (L : Nat) (so st : Bool) (ba : Option Addr) (bn bc : Nat) (ra : Option Addr) (rc : Nat) (qa : Option Addr) (n qc : Nat) (w : World)
    (h : w.heap[L]? = some (ledObj so st ba bn bc ra n rc qa n qc)) :
    Calls Try.prog 41 #[.pointer (some ⟨L, 0, none⟩)] w fun e w' => e = .returned (.tuple #[]) ∧ ∃ q, w' = w.drewN q := by
  have c5 : w.cell? ⟨L, 5, none⟩ = some (.slice ra n rc) := by rw [cell_at h]; rfl
  have c9 : w.cell? ⟨L, 9, none⟩ = some (.slice qa n qc) := by rw [cell_at h]; rfl
  have c10 : w.cell? ⟨L, 10, none⟩ = some (.int .i64 9223372036854775807) := by rw [cell_at h]; rfl
  clear h
  have hd : ((n : Int) == (n : Int)) = true := by simp
  go_enter Try.func41, Try.ntmps41
  go_wp2_with fail
  go_quiet (fail)
  go_wp2_with fail
  exact bodyPost_ret (v := .tuple #[]) (by simp [results, Try.results41, go_sem]) rfl ⟨rfl, _, rfl⟩

/-! ### the plain function -/
/-- The last of the first m responses that follows the ledger's start in all it holds. -/
def lastW (rs : List R) : Nat → Option Nat
  | 0 => none
  | m + 1 => match rs[m]? with
    | some r => if r.i = r.h then some m else lastW rs m
    | none => lastW rs m
theorem lastW_some {rs : List R} : ∀ {m k : Nat}, lastW rs m = some k → k < m ∧ ∃ r, rs[k]? = some r ∧ r.i = r.h := by
  intro m
  induction m with
  | zero => intro k h; cases h
  | succ m ih =>
    intro k h
    unfold lastW at h
    split at h
    · rename_i r hr
      split at h
      · cases h
        exact ⟨by omega, r, hr, by assumption⟩
      · have := ih h
        exact ⟨by omega, this.2⟩
    · have := ih h
      exact ⟨by omega, this.2⟩
theorem lastW_append (rs : List R) (x : R) : ∀ m, m ≤ rs.length → lastW (rs ++ [x]) m = lastW rs m := by
  intro m
  induction m with
  | zero => intro _; rfl
  | succ m ih =>
    intro h
    unfold lastW
    rw [List.getElem?_append_left (by omega), ih (by omega)]

def sStoreOff : ByteArray := { data := #[115, 116, 111, 114, 101, 45, 111, 102, 102] }
def sStateless : ByteArray := { data := #[115, 116, 97, 116, 101, 108, 101, 115, 115] }
def sNoResponse : ByteArray := { data := #[110, 111, 45, 114, 101, 115, 112, 111, 110, 115, 101] }
def sGone : ByteArray := { data := #[114, 101, 115, 112, 111, 110, 115, 101, 45, 103, 111, 110, 101] }
def sNothing : ByteArray := { data := #[110, 111, 116, 104, 105, 110, 103, 45, 110, 101, 119] }
def sChained : ByteArray := { data := #[99, 104, 97, 105, 110, 101, 100] }
def sPrefix : ByteArray := { data := #[112, 114, 101, 102, 105, 120, 45, 99, 104, 97, 110, 103, 101, 100] }
def why (nb : Nat) (r : R) : ByteArray := if r.g then sGone else if r.h = (nb : Int) then sNothing else sChained

/-- What anchor answers where it searches. -/
def ancOf (nb : Nat) (rs : List R) (ps : List Nat) : Option Addr × ByteArray :=
  match lastW rs rs.length with
  | none => (none, sPrefix)
  | some k => (some ⟨ps.getD k 0, 0, none⟩, match rs[k]? with | some r => why nb r | none => sPrefix)

set_option maxRecDepth 100000 in
set_option maxHeartbeats 400000 in
theorem anchor_off (L : Nat) (st : Bool) (ba : Option Addr) (bn bc : Nat) (ra : Option Addr) (rn rc : Nat) (qa : Option Addr) (qn qc : Nat) (w : World)
    (h : w.heap[L]? = some (ledObj true st ba bn bc ra rn rc qa qn qc)) :
    Calls Try.prog 35 #[.pointer (some ⟨L, 0, none⟩)] w fun e w' => e = .returned (.tuple #[.pointer none, .string sStoreOff]) ∧ w' = w := by
  have c1 : w.cell? ⟨L, 1, none⟩ = some (.bool true) := by rw [cell_at h]; rfl
  clear h
  go_enter Try.func35, Try.ntmps35
  go_wp2_with fail
  go_ret2
  exact ⟨rfl, rfl⟩
set_option maxRecDepth 100000 in
set_option maxHeartbeats 400000 in
theorem anchor_stateless (L : Nat) (ba : Option Addr) (bn bc : Nat) (ra : Option Addr) (rn rc : Nat) (qa : Option Addr) (qn qc : Nat) (w : World)
    (h : w.heap[L]? = some (ledObj false true ba bn bc ra rn rc qa qn qc)) :
    Calls Try.prog 35 #[.pointer (some ⟨L, 0, none⟩)] w fun e w' => e = .returned (.tuple #[.pointer none, .string sStateless]) ∧ w' = w := by
  have c1 : w.cell? ⟨L, 1, none⟩ = some (.bool false) := by rw [cell_at h]; rfl
  have c2 : w.cell? ⟨L, 2, none⟩ = some (.bool true) := by rw [cell_at h]; rfl
  clear h
  go_enter Try.func35, Try.ntmps35
  go_wp2_with fail
  go_ret2
  exact ⟨rfl, rfl⟩
set_option maxRecDepth 100000 in
set_option maxHeartbeats 400000 in
theorem anchor_empty (L : Nat) (ba : Option Addr) (bn bc : Nat) (ra : Option Addr) (rc : Nat) (qa : Option Addr) (qn qc : Nat) (w : World)
    (h : w.heap[L]? = some (ledObj false false ba bn bc ra 0 rc qa qn qc)) :
    Calls Try.prog 35 #[.pointer (some ⟨L, 0, none⟩)] w fun e w' => e = .returned (.tuple #[.pointer none, .string sNoResponse]) ∧ w' = w := by
  have c1 : w.cell? ⟨L, 1, none⟩ = some (.bool false) := by rw [cell_at h]; rfl
  have c2 : w.cell? ⟨L, 2, none⟩ = some (.bool false) := by rw [cell_at h]; rfl
  have c5 : w.cell? ⟨L, 5, none⟩ = some (.slice ra 0 rc) := by rw [cell_at h]; rfl
  clear h
  go_enter Try.func35, Try.ntmps35
  go_wp2_with fail
  go_ret2
  exact ⟨rfl, rfl⟩

set_option maxRecDepth 100000 in
set_option maxHeartbeats 1000000 in
theorem anchor_some (L : Nat) (ba : Option Addr) (nb bc : Nat) (rb rcap pc : Nat) (q qc : Nat) (rs : List R) (ps : List Nat) (n : Nat) (w : World) (hn : rs.length = n) (hp : ps.length = n) (hn0 : 0 < n) (hl : n ≤ 4097)
    (h : w.heap[L]? = some (ledObj false false ba nb bc (some ⟨rb, 0, none⟩) n rcap (some ⟨q, 0, none⟩) n qc)) (hP : Ptrs w rb pc rs ps) (hQ : Rch w q n rs n) :
    Calls Try.prog 35 #[.pointer (some ⟨L, 0, none⟩)] w fun e w' => e = .returned (.tuple #[.pointer (ancOf nb rs ps).1, .string (ancOf nb rs ps).2]) ∧ Kp [] w w' := by
  have c1 : w.cell? ⟨L, 1, none⟩ = some (.bool false) := by rw [cell_at h]; rfl
  have c2 : w.cell? ⟨L, 2, none⟩ = some (.bool false) := by rw [cell_at h]; rfl
  have c5 : w.cell? ⟨L, 5, none⟩ = some (.slice (some ⟨rb, 0, none⟩) n rcap) := by rw [cell_at h]; rfl
  have hz : ((n : Int) == 0) = false := by simp; omega
  have SE := hid (search_any L false false ba nb bc (some ⟨rb, 0, none⟩) rcap (some ⟨q, 0, none⟩) n qc w h)
  have H := hid h
  have HP := hid hP
  have HQ := hid hQ
  have HN := hid hn
  have HPn := hid hp
  clear h hP hQ hn hp
  go_enter Try.func35, Try.ntmps35
  go_wp2_with fail
  refine Calls.mono SE.out ?_
  rintro e w1 ⟨rfl, qd, hw1⟩
  have h1 : w1.heap[L]? = some (ledObj false false ba nb bc (some ⟨rb, 0, none⟩) n rcap (some ⟨q, 0, none⟩) n qc) := by rw [hw1]; exact H.out
  have K1 : Kp [] w w1 := by rw [hw1]; exact (Kp.refl _ _).drewN _
  have c9 : w1.cell? ⟨L, 9, none⟩ = some (.slice (some ⟨q, 0, none⟩) n qc) := by rw [cell_at h1]; rfl
  clear hw1 SE h1
  go_wp2_with fail
  go_loopw [4] (fun i wr => ∃ m : Nat, m ≤ n ∧ i = .int .i64 ((m : Int) - 1) ∧ lastW rs n = lastW rs m ∧ Kp [] w wr) (fun i _ => (intOf i + 1).toNat)
  case atStart => exact ⟨n, Nat.le_refl _, rfl, rfl, K1⟩
  case round =>
    obtain ⟨m, hm, rfl, hw, hK⟩ := hrel
    have HW := hid hw
    clear hw
    cases m with
    | zero =>
      have hanc : ancOf nb rs ps = (none, sPrefix) := by
        unfold ancOf; rw [HN.out, HW.out]; rfl
      have HA := hid hanc
      clear hanc
      go_wp2_with fail
      go_ret2
      exact ⟨by rw [HA.out]; rfl, hK⟩
    | succ m =>
      rw [show ((m + 1 : Nat) : Int) - 1 = (m : Int) from by omega]
      obtain ⟨r, hrk⟩ : ∃ r, rs[m]? = some r := ⟨rs[m]'(by rw [HN.out]; omega), by simp⟩
      have hL := hK.at H.out (by simp)
      have d5 : wr.cell? ⟨L, 5, none⟩ = some (.slice (some ⟨rb, 0, none⟩) n rcap) := by rw [cell_at hL]; rfl
      have d9 : wr.cell? ⟨L, 9, none⟩ = some (.slice (some ⟨q, 0, none⟩) n qc) := by rw [cell_at hL]; rfl
      obtain ⟨cur, hc1, hc2, hc3⟩ := HQ.out.kp hK (by simp)
      obtain ⟨a1, a2⟩ := hc3 m r (by omega) hrk
      have e0 : wr.cell? ⟨q, m * 2, none⟩ = some (.int .i64 r.i) := by rw [cell_at hc1]; exact a1
      have e1 : wr.cell? ⟨q, m * 2 + 1, none⟩ = some (.int .i64 r.h) := by rw [cell_at hc1]; exact a2
      obtain ⟨p, hp⟩ : ∃ p, ps[m]? = some p := ⟨ps[m]'(by rw [HPn.out]; omega), by simp⟩
      have HRK := hid hrk
      have HPK := hid hp
      have HL := hid hL
      clear hc1 hc2 hc3 a1 a2 hrk hp hL
      have hmn : (m : Int) < (n : Int) := by omega
      have hm0 : (0 : Int) ≤ (m : Int) := by omega
      go_wp2_with fail
      refine (whole_any _ _ _).mono ?_
      rintro e w2 ⟨rfl, hw2⟩
      have K2 : Kp [] w w2 := by rw [hw2]; exact hK.alloc _
      clear hw2 d5 d9 e0 e1
      by_cases hwh : r.i = r.h
      · have hbw : (r.i == r.h) = true := by simp [hwh]
        have hanc : ancOf nb rs ps = (some ⟨p, 0, none⟩, why nb r) := by
          unfold ancOf
          rw [HN.out, HW.out]
          have : lastW rs (m + 1) = some m := by unfold lastW; rw [HRK.out]; simp [hwh]
          rw [this]
          simp only [HRK.out]
          simp [List.getD, HPK.out]
        have HA := hid hanc
        clear hanc hwh
        have hL := K2.at H.out (by simp)
        have d4 : w2.cell? ⟨L, 4, none⟩ = some (.slice ba nb bc) := by rw [cell_at hL]; rfl
        have d5 : w2.cell? ⟨L, 5, none⟩ = some (.slice (some ⟨rb, 0, none⟩) n rcap) := by rw [cell_at hL]; rfl
        obtain ⟨cur, hc1, hc2, hc3⟩ := HP.out.kp K2 (by simp) (by simp)
        obtain ⟨b1, r', b2, b3⟩ := hc3 m p HPK.out
        obtain rfl : r' = r := by rw [HRK.out] at b2; cases b2; rfl
        have e5 : w2.cell? ⟨rb, m, none⟩ = some (.pointer (some ⟨p, 0, none⟩)) := by rw [cell_at hc1]; exact b1
        have e6 : w2.cell? ⟨p, 6, none⟩ = some (.int .i64 r'.h) := by rw [cell_at b3]; rfl
        have e7 : w2.cell? ⟨p, 7, none⟩ = some (.bool r'.g) := by rw [cell_at b3]; rfl
        clear hc1 hc2 hc3 b1 b2 b3 hL
        obtain ⟨g, hg⟩ : ∃ g, g = r'.g := ⟨_, rfl⟩
        obtain ⟨hh, hhh⟩ : ∃ hh, hh = r'.h := ⟨_, rfl⟩
        have hwhy : why nb r' = if g then sGone else if hh = (nb : Int) then sNothing else sChained := by rw [hg, hhh]; rfl
        have HY := hid hwhy
        rw [← hg] at e7
        rw [← hhh] at e6
        clear hwhy hg hhh
        cases g
        · by_cases hnb : hh = (nb : Int)
          · subst hnb
            have HZ : Hid (why nb r' = sNothing) := hid (by rw [HY.out, if_neg (by simp), if_pos rfl])
            have hq : ((nb : Int) == (nb : Int)) = true := by simp
            go_wp2_with fail
            go_quiet (fail)
            go_wp2_with fail
            go_ret2
            exact ⟨by rw [HA.out, HZ.out]; rfl, K2.drewN _⟩
          · have HZ : Hid (why nb r' = sChained) := hid (by rw [HY.out, if_neg (by simp), if_neg hnb])
            have hq : (hh == (nb : Int)) = false := by simp [hnb]
            clear hnb
            go_wp2_with fail
            go_quiet (fail)
            go_wp2_with fail
            go_ret2
            exact ⟨by rw [HA.out, HZ.out]; rfl, K2.drewN _⟩
        · have HZ : Hid (why nb r' = sGone) := hid (by rw [HY.out, if_pos rfl])
          go_wp2_with fail
          go_ret2
          exact ⟨by rw [HA.out, HZ.out]; rfl, K2⟩
      · have hbw : (r.i == r.h) = false := by simp [hwh]
        have hw' : lastW rs n = lastW rs m := by
          rw [HW.out]
          unfold lastW
          rw [HRK.out]
          simp [hwh]
          cases m <;> rfl
        have HW2 := hid hw'
        clear hwh hw'
        go_wp2_with fail
        exact ⟨⟨m, by omega, rfl, HW2.out, K2⟩, by simp [intOf]⟩

end Go.Proofs.Qxb6613301a
