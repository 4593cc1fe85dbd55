/-
  The small functions of the anchor's road.
-/
import Derived.Test.Qxb6613301aBase
set_option linter.unusedVariables false
set_option linter.unusedSimpArgs false
namespace Go.Proofs.Qxb6613301a
open Go.RowKit

structure R where
  g : Bool
  h : Int
  i : Int

/-- The cells of a slice of AnchorResp. -/
def RSl (w : World) (a : Option Addr) (rs : List R) : Prop :=
  ∀ k r, rs[k]? = some r → ∃ b o, a = some ⟨b, o, none⟩ ∧ w.cell? ⟨b, o + k * 3, none⟩ = some (.bool r.g) ∧ w.cell? ⟨b, o + k * 3 + 1, none⟩ = some (.int .i64 r.h) ∧ w.cell? ⟨b, o + k * 3 + 2, none⟩ = some (.int .i64 r.i)

set_option maxHeartbeats 400000 in
theorem bytes21_any (c0 c1 c2 : Value) (a : Option Addr) (len cap : Nat) (g : Bool) (h i : Int) (w : World) (hl : len ≤ 9223372036854775807) :
    Calls Try.prog 21 #[c0, c1, c2, .slice a len cap, .agg #[.bool g, .int .i64 h, .int .i64 i]] w fun e w' => ∃ b, e = .returned (.bool b) ∧ Kp [] w w' := by
  go_enter Try.func21, Try.ntmps21
  go_wp2
  all_goals
    go_ret
    exact ⟨_, rfl, (Kp.refl _ _).alloc _⟩

theorem newResp_any (k : Int) (g : Bool) (h : Int) (w : World) :
    Calls Try.prog 26 #[.int .i64 k, .bool g, .int .i64 h] w fun e w' => e = .returned (.pointer (some ⟨w.heap.size, 0, none⟩)) ∧
      w' = w.alloc (.cells #[.string ⟨#[]⟩, .int .i64 k, .pointer none, .int .i64 0, .pointer none, .slice none 0 0, .int .i64 h, .bool g] 72) := by
  go_enter Try.func26, Try.ntmps26
  go_wp2
  go_ret
  exact ⟨rfl, rfl⟩

theorem newReach_any (i h : Int) (w : World) :
    Calls Try.prog 33 #[.int .i64 i, .int .i64 h] w fun e w' => e = .returned (.agg #[.int .i64 i, .int .i64 h]) ∧ w' = w.alloc (.cells #[.int .i64 i, .int .i64 h] 65) := by
  go_enter Try.func33, Try.ntmps33
  go_wp2
  exact bodyPost_ret (v := .agg #[.int .i64 i, .int .i64 h]) (by simp [results, Try.results33, go_sem]) rfl ⟨rfl, rfl⟩

theorem whole_any (i h : Int) (w : World) :
    Calls Try.prog 42 #[.agg #[.int .i64 i, .int .i64 h]] w fun e w' => e = .returned (.bool (i == h)) ∧ w' = w.alloc (.cells #[.int .i64 i, .int .i64 h] 65) := by
  go_enter Try.func42, Try.ntmps42
  go_wp2
  go_ret
  exact ⟨rfl, rfl⟩

def ledObj (so st : Bool) (ba : Option Addr) (bn bc : Nat) (ra : Option Addr) (rn rc : Nat) (qa : Option Addr) (qn qc : Nat) : Obj :=
  .cells #[.map none, .bool so, .bool st, .string ⟨#[]⟩, .slice ba bn bc, .slice ra rn rc, .slice none 0 0, .map none, .slice none 0 0, .slice qa qn qc, .int .i64 9223372036854775807, .slice none 0 0, .int .i64 0, .int .i64 0] 81 (0, 0)

theorem newLedger_any (so st : Bool) (ba : Option Addr) (bn bc : Nat) (ra : Option Addr) (rn rc : Nat) (qa : Option Addr) (qn qc : Nat) (w : World) :
    Calls Try.prog 34 #[.bool so, .bool st, .slice ba bn bc, .slice ra rn rc, .slice qa qn qc] w fun e w' => e = .returned (.pointer (some ⟨w.heap.size, 0, none⟩)) ∧
      w' = w.alloc (ledObj so st ba bn bc ra rn rc qa qn qc) := by
  go_enter Try.func34, Try.ntmps34
  go_wp2
  go_ret
  exact ⟨rfl, rfl⟩

end Go.Proofs.Qxb6613301a
