/-
  zzSameLoc, zzSamePart, zzKnown, walked.
-/
import Derived.Test.Qxb6613960aAx
import Derived.LaidEqlPtr
set_option linter.unusedVariables false
set_option linter.unusedSimpArgs false
namespace Go.Proofs.Qxb6613960a
open Go.RowKit

theorem info_some {t : TypeId} {s : Nat} (h : (Try.prog.info? t).map (·.size) = some s) : ∃ j, Try.prog.info? t = some j := by
  cases e : Try.prog.info? t with
  | none => rw [e] at h; simp at h
  | some j => exact ⟨j, rfl⟩
theorem eql_same {tp te : TypeId} {s : Nat} (hp : Try.prog.underlying tp = some (.pointer te)) (h : (Try.prog.info? te).map (·.size) = some s) (p : Option Addr) (w : World) : (binOp .eql tp (.pointer p) (.pointer p)).run Try.prog w = .ok (.bool true) w := by
  obtain ⟨j, hj⟩ := info_some h
  cases p with
  | none =>
    have h : ∀ d : Nat, (Op.equalIn (d + 1) tp (.pointer none) (.pointer none)).run Try.prog w = .ok true w := fun d => by
      simp [Op.equalIn, run_underlying hp]
    simp only [binOp]
    simp [Op.equal, Op.maxDepth, h 9999]
  | some a => exact run_eql_ptr_same w a hp hj
theorem neq_same {tp te : TypeId} {s : Nat} (hp : Try.prog.underlying tp = some (.pointer te)) (h : (Try.prog.info? te).map (·.size) = some s) (p : Option Addr) (w : World) : (binOp .neq tp (.pointer p) (.pointer p)).run Try.prog w = .ok (.bool false) w := by
  obtain ⟨j, hj⟩ := info_some h
  cases p with
  | none =>
    have h : ∀ d : Nat, (Op.equalIn (d + 1) tp (.pointer none) (.pointer none)).run Try.prog w = .ok true w := fun d => by
      simp [Op.equalIn, run_underlying hp]
    simp only [binOp]
    simp [Op.equal, Op.maxDepth, h 9999]
  | some a =>
    have h : ∀ d : Nat, (Op.equalIn (d + 1) tp (.pointer (some a)) (.pointer (some a))).run Try.prog w = .ok true w := fun d => by
      simp [Op.equalIn, run_underlying hp, sizeOf, typeInfo, hj, run_sameAddr_same]
    simp only [binOp]
    simp [Op.equal, Op.maxDepth, h 9999]

theorem eql49 (p : Option Addr) (w : World) : (binOp .eql 49 (.pointer p) (.pointer p)).run Try.prog w = .ok (.bool true) w := eql_same Try.underlying49 (s := 1) (by kernel_rfl) p w
theorem neq49 (p : Option Addr) (w : World) : (binOp .neq 49 (.pointer p) (.pointer p)).run Try.prog w = .ok (.bool false) w := neq_same Try.underlying49 (s := 1) (by kernel_rfl) p w
theorem eql22 (p : Option Addr) (w : World) : (binOp .eql 22 (.pointer p) (.pointer p)).run Try.prog w = .ok (.bool true) w := eql_same Try.underlying22 (s := 1) (by kernel_rfl) p w
theorem neq22 (p : Option Addr) (w : World) : (binOp .neq 22 (.pointer p) (.pointer p)).run Try.prog w = .ok (.bool false) w := neq_same Try.underlying22 (s := 1) (by kernel_rfl) p w

theorem sameLoc (l : Lc) (w : World) : Calls Try.prog 11 #[.agg #[.string l.path, .pointer l.line], .agg #[.string l.path, .pointer l.line]] w fun e w' => e = .returned (.bool true) ∧ Kp [] w w' := by
  have h := eql49
  go_enter Try.func11, Try.ntmps11
  go_wp2_with fail
  go_ret
  exact ⟨rfl, ((Kp.refl _ _).alloc _).alloc _⟩

theorem known_all (s : ByteArray) (w : World) : Calls Try.prog 16 #[.string s] w fun e w' => e = .returned (.bool (s.toList == lContent || s.toList == lDiff || s.toList == lTerm)) ∧ w' = w := by
  go_enter Try.func16, Try.ntmps16
  by_cases h1 : s.toList = lContent
  · have g1 : (s.toList == lContent) = true := by simp [h1]
    unfold lContent at h1 g1
    go_wp2_with fail
    go_ret
    exact ⟨by simp [lContent, h1], rfl⟩
  · have g1 : (s.toList == lContent) = false := by simp [h1]
    unfold lContent at h1 g1
    by_cases h2 : s.toList = lDiff
    · have g2 : (s.toList == lDiff) = true := by simp [h2]
      unfold lDiff at h2 g2
      go_wp2_with fail
      go_ret
      exact ⟨by simp [lDiff, h2], rfl⟩
    · have g2 : (s.toList == lDiff) = false := by simp [h2]
      unfold lDiff at h2 g2
      by_cases h3 : s.toList = lTerm
      · have g3 : (s.toList == lTerm) = true := by simp [h3]
        unfold lTerm at h3 g3
        go_wp2_with fail
        go_ret
        exact ⟨by simp [lTerm, h3], rfl⟩
      · have g3 : (s.toList == lTerm) = false := by simp [h3]
        unfold lTerm at h3 g3
        go_wp2_with fail
        go_ret
        exact ⟨by simp [lContent, lDiff, lTerm, h1, h2, h3], rfl⟩

end Go.Proofs.Qxb6613960a
