/-
  zzACPParts, walked.
-/
import Derived.Test.Qxb6613960aLa
set_option linter.unusedVariables false
set_option linter.unusedSimpArgs false
namespace Go.Proofs.Qxb6613960a
open Go.RowKit

/-- The pointer to a resource among the arguments, and what lies there. -/
def ResIn (w : World) (p : Option Addr) (r : Option Rs) : Prop :=
  match r with
  | none => p = none
  | some r => ∃ b o, p = some ⟨b, o, none⟩ ∧ w.cell? ⟨b, o, none⟩ = some (.string r.uri) ∧ w.cell? ⟨b, o + 1, none⟩ = some (.string r.mime) ∧ w.cell? ⟨b, o + 2, none⟩ = some (.string r.text)

/-- The cells of a slice of ZPart. -/
def PSl (w : World) (a : Option Addr) (ps : List Pt) : Prop :=
  ∀ (k : Nat) (p : Pt), ps[k]? = some p → ∃ b o, a = some ⟨b, o, none⟩ ∧ ∃ rp, ResIn w rp p.c.res ∧ ∀ (j : Nat) (v : Value), (p.cells rp)[j]? = some v → w.cell? ⟨b, o + k * 11 + j, none⟩ = some v

theorem info117 : (Try.prog.info? 117).map (fun i => (i.zero, i.size, i.bytes)) = some (some (.agg #[.string ⟨#[]⟩, .string ⟨#[]⟩, .string ⟨#[]⟩, .string ⟨#[]⟩, .string ⟨#[]⟩, .string ⟨#[]⟩, .pointer none, .string ⟨#[]⟩, .pointer none, .string ⟨#[]⟩, .string ⟨#[]⟩]), 11, 160) := by kernel_rfl

theorem acpParts_nil (w : World) : Calls Try.prog 26 #[.slice none 0 0] w fun e w' => e = .returned (.slice none 0 0) ∧ w' = w := by
  have heq := fun wx a n c n' c' => Lib.run_eql_slice_nil (P := Try.prog) wx 24 63 a n c n' c' Try.underlying24
  go_enter Try.func26, Try.ntmps26
  go_wp2
  go_ret
  exact ⟨rfl, rfl⟩

end Go.Proofs.Qxb6613960a
