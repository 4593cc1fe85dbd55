/-
  The small functions of the cut's road.
-/
import Derived.Test.Qxb6613301aAl
set_option linter.unusedVariables false
set_option linter.unusedSimpArgs false
namespace Go.Proofs.Qxb6613301a
open Go.RowKit

def lFC : List UInt8 := [102, 117, 110, 99, 116, 105, 111, 110, 95, 99, 97, 108, 108]
def lFCO : List UInt8 := [102, 117, 110, 99, 116, 105, 111, 110, 95, 99, 97, 108, 108, 95, 111, 117, 116, 112, 117, 116]
def lMsg : List UInt8 := [109, 101, 115, 115, 97, 103, 101]
def lUser : List UInt8 := [117, 115, 101, 114]

/-- What a block's item says. -/
structure It where
  ty : ByteArray
  id : ByteArray
  call : ByteArray
  role : ByteArray
  raw : ByteArray

def It.paired (t : It) : ByteArray :=
  if (t.ty.toList == lFC) = true then (if t.call.toList = [] then t.id else t.call) else if (t.ty.toList == lFCO) = true then t.call else ⟨#[]⟩

def It.user (t : It) : Bool := (t.ty.toList == lMsg) && (t.role.toList == lUser)

def It.blk (t : It) (ra : Option Addr) (rc : Nat) : Array Value :=
  #[.string ⟨#[]⟩, .slice ra t.raw.size rc, .pointer none, .string t.ty, .string t.id, .string t.call, .string t.role, .string ⟨#[]⟩, .bool false]

def It.agg (t : It) : Value := .agg #[.string t.ty, .string t.id, .string t.call, .string t.role, .string t.raw]

theorem paired53 (ty id call role : ByteArray) (ra : Option Addr) (n rc : Nat) (w : World) :
    Calls Try.prog 53 #[.agg #[.string ⟨#[]⟩, .slice ra n rc, .pointer none, .string ty, .string id, .string call, .string role, .string ⟨#[]⟩, .bool false]] w fun e w' =>
      e = .returned (.string (if call.toList = [] then (if (ty.toList == lFC) = true then id else call) else call)) ∧ Kp [] w w' := by
  have htb : (ty.toList == [102, 117, 110, 99, 116, 105, 111, 110, 95, 99, 97, 108, 108]) = (ty.toList == lFC) := rfl
  generalize (ty.toList == lFC) = bt at htb ⊢
  cases bt <;> by_cases hc : call.toList = []
  all_goals
    rw [show (if call.toList = [] then _ else _ : ByteArray) = _ from by first | exact if_pos hc | exact if_neg hc]
    go_enter Try.func53, Try.ntmps53
    go_wp2
    go_ret
    exact ⟨by simp, (Kp.refl _ _).alloc _⟩

theorem paired47 (t : It) (ra : Option Addr) (rc : Nat) (w : World) :
    Calls Try.prog 47 #[.agg (t.blk ra rc)] w fun e w' => e = .returned (.string t.paired) ∧ Kp [] w w' := by
  obtain ⟨ty, id, call, role, raw⟩ := t
  unfold It.blk It.paired
  have htb : (ty.toList == [102, 117, 110, 99, 116, 105, 111, 110, 95, 99, 97, 108, 108]) = (ty.toList == lFC) := rfl
  have hob : (ty.toList == [102, 117, 110, 99, 116, 105, 111, 110, 95, 99, 97, 108, 108, 95, 111, 117, 116, 112, 117, 116]) = (ty.toList == lFCO) := rfl
  dsimp only
  have h53 := paired53 ty id call role ra raw.size rc
  generalize (ty.toList == lFC) = bt at htb h53 ⊢
  generalize (ty.toList == lFCO) = bo at hob h53 ⊢
  generalize hS : (if bt = true then (if call.toList = [] then id else call) else if bo = true then call else (⟨#[]⟩ : ByteArray)) = S
  have hS' : (bt = false ∧ bo = false ∧ S = ⟨#[]⟩) ∨ ((bt = true ∨ bo = true) ∧ S = (if call.toList = [] then (if bt = true then id else call) else call)) := by
    subst hS; cases bt <;> cases bo <;> simp
  clear hS
  rcases hS' with ⟨rfl, rfl, rfl⟩ | ⟨hb, hS⟩
  · go_enter Try.func47, Try.ntmps47
    go_wp2
    go_ret
    exact ⟨rfl, (Kp.refl _ _).alloc _⟩
  · rw [← hS] at h53
    clear hS
    cases bt
    · have hb : bo = true := by simpa using hb
      subst hb
      go_enter Try.func47, Try.ntmps47
      go_wp2_with fail
      refine (h53 _).mono ?_
      rintro e w1 ⟨rfl, hk⟩
      go_wp2_with fail
      go_ret
      exact ⟨rfl, ((Kp.refl _ _).alloc _).trans hk⟩
    · go_enter Try.func47, Try.ntmps47
      go_wp2_with fail
      refine (h53 _).mono ?_
      rintro e w1 ⟨rfl, hk⟩
      go_wp2_with fail
      go_ret
      exact ⟨rfl, ((Kp.refl _ _).alloc _).trans hk⟩

theorem newBlock_any (ty id call role : ByteArray) (ra : Option Addr) (n rc : Nat) (w : World) :
    Calls Try.prog 40 #[.string ty, .string id, .string call, .string role, .slice ra n rc] w fun e w' =>
      e = .returned (.agg #[.string ⟨#[]⟩, .slice ra n rc, .pointer none, .string ty, .string id, .string call, .string role, .string ⟨#[]⟩, .bool false]) ∧ Kp [] w w' := by
  go_enter Try.func40, Try.ntmps40
  go_wp2
  exact bodyPost_ret (v := .agg #[.string ⟨#[]⟩, .slice ra n rc, .pointer none, .string ty, .string id, .string call, .string role, .string ⟨#[]⟩, .bool false]) (by simp [results, Try.results40, go_sem]) rfl ⟨rfl, (Kp.refl _ _).alloc _⟩

theorem fits39 (s z bud : Int) (bb : Nat) (w : World) (h : w.heap[bb]? = some (.cells #[.int .i64 bud] 3 (0, 0))) :
    Calls Try.prog 39 #[.int .i64 s, .int .i64 z, .pointer (some ⟨bb, 0, none⟩)] w fun e w' => e = .returned (.bool (decide (z ≤ bud))) ∧ w' = w := by
  have hc : w.cell? ⟨bb, 0, none⟩ = some (.int .i64 bud) := by rw [cell_at h]; rfl
  go_enter Try.func39, Try.ntmps39
  go_wp2
  go_ret
  exact ⟨rfl, rfl⟩

theorem zzPaired31 (t : It) (w : World) : Calls Try.prog 31 #[t.agg] w fun e w' => e = .returned (.string t.paired) ∧ Kp [] w w' := by
  obtain ⟨ty, id, call, role, raw⟩ := t
  unfold It.agg It.paired
  have htb : (ty.toList == [102, 117, 110, 99, 116, 105, 111, 110, 95, 99, 97, 108, 108]) = (ty.toList == lFC) := rfl
  have hob : (ty.toList == [102, 117, 110, 99, 116, 105, 111, 110, 95, 99, 97, 108, 108, 95, 111, 117, 116, 112, 117, 116]) = (ty.toList == lFCO) := rfl
  dsimp only
  generalize (ty.toList == lFC) = bt at htb ⊢
  generalize (ty.toList == lFCO) = bo at hob ⊢
  generalize hS : (if bt = true then (if call.toList = [] then id else call) else if bo = true then call else (⟨#[]⟩ : ByteArray)) = S
  cases bt <;> cases bo <;> by_cases hc : call.toList = []
  all_goals
    simp only [hc, if_true, if_false, Bool.false_eq_true] at hS
    subst hS
    first | (have hce : call.toList.isEmpty = true := by rw [hc]; rfl) | (have hce : call.toList.isEmpty = false := by simpa using hc)
    go_enter Try.func31, Try.ntmps31
    go_wp2
    go_ret
    exact ⟨rfl, (Kp.refl _ _).alloc _⟩

theorem zzUser32 (t : It) (w : World) : Calls Try.prog 32 #[t.agg] w fun e w' => e = .returned (.bool t.user) ∧ Kp [] w w' := by
  obtain ⟨ty, id, call, role, raw⟩ := t
  unfold It.agg It.user
  have hcb : (ty.toList == [109, 101, 115, 115, 97, 103, 101]) = (ty.toList == lMsg) := rfl
  have htb : (role.toList == [117, 115, 101, 114]) = (role.toList == lUser) := rfl
  dsimp only
  generalize (ty.toList == lMsg) = bt at hcb ⊢
  generalize (role.toList == lUser) = bo at htb ⊢
  cases bt <;> cases bo
  all_goals
    go_enter Try.func32, Try.ntmps32
    go_wp2
    go_ret
    exact ⟨rfl, (Kp.refl _ _).alloc _⟩

end Go.Proofs.Qxb6613301a
