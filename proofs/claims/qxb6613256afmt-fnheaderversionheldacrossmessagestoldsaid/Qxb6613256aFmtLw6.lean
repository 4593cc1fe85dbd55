/-
  The law FnHeaderVersionHeldAcrossMessages, walked whole: it returns true, and nothing that was there has turned.
-/
import Derived.Test.Qxb6613256aFmtLwS6
import Derived.Test.Qxb6613256aFmtLwA6
import Derived.Test.Qxb6613256aFmtLwB6
import Derived.Test.Qxb6613256aFmtLwC6
import Derived.Test.Qxb6613256aFmtLwD6
set_option linter.unusedVariables false
set_option linter.unusedSimpArgs false
namespace Go.Proofs.Qxb6613256aFmt
open Go.RowKit Go.Extern.Stop Go.Stop Go.Extern

set_option maxRecDepth 100000 in
set_option maxHeartbeats 400000 in
theorem fn6_big (a0 : Option Addr) (len cap : Nat) (off v slot c : Int) (name : ByteArray) (w : World)
    (hl : ¬ len + name.size ≤ 1048576) (h1 : len ≤ 9223372036854775807) (h2 : name.size ≤ 9223372036854775807) :
    Calls Tryf.prog 6 #[.slice a0 len cap, .int .i64 off, .int .u8 v, .int .i64 slot, .int .u8 c, .string name] w fun e w' => e = .returned (.bool true) ∧ Below w.heap.size w w' := by
  have HL := hid hl
  clear hl
  go_enter Tryf.func6, Tryf.ntmps6
  go_wp2_with fail
  refine (bytes24_any a0 len cap _ _ _ _ name _ h1 h2).mono ?_
  rintro e w1 ⟨b, rfl, hb, hw⟩
  subst w1
  cases b
  · go_wp2_with fail
    go_ret
    exact ⟨rfl, Below.refl _ _⟩
  · exact absurd (hb rfl) HL.out

set_option maxRecDepth 100000 in
set_option maxHeartbeats 400000 in
theorem fn6_out (a0 : Option Addr) (len cap : Nat) (off v slot c : Int) (name : ByteArray) (w : World)
    (hl : len + name.size ≤ 1048576) (ho : off < 0 ∨ (len : Int) < off) :
    Calls Tryf.prog 6 #[.slice a0 len cap, .int .i64 off, .int .u8 v, .int .i64 slot, .int .u8 c, .string name] w fun e w' => e = .returned (.bool true) ∧ Below w.heap.size w w' := by
  have hl2 : len ≤ 1048576 := by omega
  have hs2 : name.size ≤ 1048576 := by omega
  rcases ho with ho | ho
  · go_enter Tryf.func6, Tryf.ntmps6
    go_wp2_with fail
    refine (bytes24_any a0 len cap _ _ _ _ name _ (by omega) (by omega)).mono ?_
    rintro e w1 ⟨b, rfl, hb, hw⟩
    subst w1
    clear hb
    cases b
    all_goals
      go_wp2_with fail
      go_ret
      exact ⟨rfl, Below.refl _ _⟩
  · have ho1 : ¬ off < 0 := by omega
    go_enter Tryf.func6, Tryf.ntmps6
    go_wp2_with fail
    refine (bytes24_any a0 len cap _ _ _ _ name _ (by omega) (by omega)).mono ?_
    rintro e w1 ⟨b, rfl, hb, hw⟩
    subst w1
    clear hb
    cases b
    all_goals
      go_wp2_with fail
      go_ret
      exact ⟨rfl, Below.refl _ _⟩

theorem fn6_any (F : Interp) (a0 : Option Addr) (len cap : Nat) (zs : List Int) (off v slot c : Int) (name : ByteArray) (w : World) (hF : F.answers w.tape)
    (hz : zs.length = len) (hcap : a0 = none → cap = 0) (hsrc : Src w a0 zs) (h1 : len ≤ 9223372036854775807) (h2 : name.size ≤ 9223372036854775807) :
    Calls Tryf.prog 6 #[.slice a0 len cap, .int .i64 off, .int .u8 v, .int .i64 slot, .int .u8 c, .string name] w fun e w' => e = .returned (.bool true) ∧ Below w.heap.size w w' := by
  by_cases hl : len + name.size ≤ 1048576
  · by_cases ho : off < 0 ∨ (len : Int) < off
    · exact fn6_out a0 len cap off v slot c name w hl ho
    · obtain ⟨o, rfl⟩ := Int.eq_ofNat_of_zero_le (show 0 ≤ off by omega)
      have hol : o ≤ len := by omega
      by_cases hn : o + 4 ≤ len
      · cases hk : hok (zs.getD o 0) (zs.getD (o + 1) 0) v c
        · exact fn6_A F a0 len cap zs o v slot c name w hF hz hcap hsrc hl hol hn hk
        · by_cases hn8 : o + 8 ≤ len
          · cases hk2 : hok (zs.getD (o + 4) 0) (zs.getD (o + 5) 0) (hver (zs.getD o 0) v) c
            · exact fn6_D F a0 len cap zs o v slot c name w hF hz hcap hsrc hl hol hn8 hk hk2
            · exact fn6_C F a0 len cap zs o v slot c name w hF hz hcap hsrc hl hol hn8 hk hk2
          · exact fn6_B F a0 len cap zs o v slot c name w hF hz hcap hsrc hl hol hn (by omega) hk
      · exact fn6_S F a0 len cap zs o v slot c name w hF hz hcap hsrc hl hol (by omega)
  · exact fn6_big a0 len cap off v slot c name w hl h1 h2

end Go.Proofs.Qxb6613256aFmt
