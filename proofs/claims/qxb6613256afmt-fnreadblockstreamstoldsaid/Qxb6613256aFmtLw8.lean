/-
  The law FnReadBlockStreams, walked whole: it returns true, and nothing that was there has turned.
-/
import Derived.Test.Qxb6613256aFmtLwb8
import Derived.Test.Qxb6613256aFmtLwg8
import Derived.Test.Qxb6613256aFmtLwh8
set_option linter.unusedVariables false
set_option linter.unusedSimpArgs false
namespace Go.Proofs.Qxb6613256aFmt
open Go.RowKit Go.Extern.Stop Go.Stop Go.Extern

set_option maxRecDepth 100000 in
set_option maxHeartbeats 400000 in
theorem fn8_big (a0 : Option Addr) (len cap : Nat) (off : Int) (w : World) (hl : ¬ len ≤ 1048576) (h1 : len ≤ 9223372036854775807) :
    Calls Tryf.prog 8 #[.slice a0 len cap, .int .i64 off] w fun e w' => e = .returned (.bool true) ∧ Below w.heap.size w w' := by
  have HL := hid hl
  clear hl
  go_enter Tryf.func8, Tryf.ntmps8
  go_wp2_with fail
  refine (bytes30_any a0 len cap _ _ h1).mono ?_
  rintro e w1 ⟨b, rfl, hb, hw⟩
  subst w1
  cases b
  · go_wp2_with fail
    go_ret
    exact ⟨rfl, Below.refl _ _⟩
  · exact absurd (hb rfl) HL.out

set_option maxRecDepth 100000 in
set_option maxHeartbeats 400000 in
theorem fn8_out (a0 : Option Addr) (len cap : Nat) (off : Int) (w : World) (hl : len ≤ 1048576) (ho : off < 0 ∨ (len : Int) < off) :
    Calls Tryf.prog 8 #[.slice a0 len cap, .int .i64 off] w fun e w' => e = .returned (.bool true) ∧ Below w.heap.size w w' := by
  rcases ho with ho | ho
  · go_enter Tryf.func8, Tryf.ntmps8
    go_wp2_with fail
    refine (bytes30_any a0 len cap _ _ (by omega)).mono ?_
    rintro e w1 ⟨b, rfl, hb, hw⟩
    subst w1
    clear hb
    cases b
    all_goals
      go_wp2_with fail
      go_ret
      exact ⟨rfl, Below.refl _ _⟩
  · have ho1 : ¬ off < 0 := by omega
    go_enter Tryf.func8, Tryf.ntmps8
    go_wp2_with fail
    refine (bytes30_any a0 len cap _ _ (by omega)).mono ?_
    rintro e w1 ⟨b, rfl, hb, hw⟩
    subst w1
    clear hb
    cases b
    all_goals
      go_wp2_with fail
      go_ret
      exact ⟨rfl, Below.refl _ _⟩

theorem fn8_any (F : Interp) (a0 : Option Addr) (len cap : Nat) (zs : List Int) (off : Int) (w : World) (hF : F.answers w.tape)
    (hz : zs.length = len) (hcap : a0 = none → cap = 0) (hsrc : Src w a0 zs) (h1 : len ≤ 9223372036854775807) (hzs : ∀ z ∈ zs, 0 ≤ z ∧ z < 256) :
    Calls Tryf.prog 8 #[.slice a0 len cap, .int .i64 off] w fun e w' => e = .returned (.bool true) ∧ Below w.heap.size w w' := by
  by_cases hl : len ≤ 1048576
  · by_cases ho : off < 0 ∨ (len : Int) < off
    · exact fn8_out a0 len cap off w hl ho
    · obtain ⟨o, rfl⟩ := Int.eq_ofNat_of_zero_le (show 0 ≤ off by omega)
      have hol : o ≤ len := by omega
      cases hbad : (blkOf zs o).bad
      · cases hbadC : (blkOf zs (blkOf zs o).nd).bad
        · exact fn8_g F a0 len cap zs o w hF hz hcap hsrc hl hol hzs hbad hbadC
        · exact fn8_h F a0 len cap zs o w hF hz hcap hsrc hl hol hzs hbad hbadC
      · exact fn8_b F a0 len cap zs o w hF hz hcap hsrc hl hol hzs hbad
  · exact fn8_big a0 len cap off w hl h1

end Go.Proofs.Qxb6613256aFmt
