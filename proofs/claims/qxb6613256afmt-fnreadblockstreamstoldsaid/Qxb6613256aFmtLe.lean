/-
  The numbers that bytes make: littleEndian and zzLE at no byte, one byte, two bytes.
-/
import Derived.Test.Qxb6613256aFmtSm
import Derived.Laws.BitsAllLaws
set_option linter.unusedVariables false
set_option linter.unusedSimpArgs false
namespace Go.Proofs.Qxb6613256aFmt
open Go.RowKit Go.Extern.Stop Go.Stop Go.Extern

theorem or_two (a b : Int) (h1 : 0 ≤ a) (h2 : a < 256) (h3 : 0 ≤ b) (h4 : b < 256) : bits .or .u32 a (b * 256) = a + b * 256 := by
  rw [u32_or a (b * 256) h1 (by omega) (by omega) (by omega)]
  obtain ⟨x, rfl⟩ := Int.eq_ofNat_of_zero_le h1
  obtain ⟨y, rfl⟩ := Int.eq_ofNat_of_zero_le h3
  have hx : x < 2 ^ 8 := by omega
  have e := Nat.shiftLeft_add_eq_or_of_lt hx y
  have e2 : ((y : Int) * 256).toNat = y <<< 8 := by rw [Nat.shiftLeft_eq]; omega
  have e3 : ((x : Int)).toNat = x := by omega
  rw [e2, e3, Nat.or_comm, ← e, Nat.shiftLeft_eq]
  omega

theorem le_nil (w : World) : Calls Tryf.prog 38 #[.slice none 0 0] w fun e w' => e = .returned (.int .u32 0) ∧ w' = w := by
  go_enter Tryf.func38, Tryf.ntmps38
  go_wp2
  go_loop [3, 8] (fun n i => n = .int .u32 0 ∧ i = .int .i64 0) (fun _ _ => 0)
  case atStart => exact ⟨rfl, rfl⟩
  case round =>
    obtain ⟨rfl, rfl⟩ := hrel
    go_wp2
    go_ret
    exact ⟨rfl, rfl⟩

theorem or_zero (a : Int) (h1 : 0 ≤ a) (h2 : a < 256) : bits .or .u32 0 a = a := by
  rw [u32_or 0 a (by omega) (by omega) h1 (by omega)]
  simp
  omega

set_option maxHeartbeats 400000 in
theorem le_one (bb p cap : Nat) (z0 : Int) (w : World) (hc0 : w.cell? ⟨bb, p, none⟩ = some (.int .u8 z0)) (h1 : 0 ≤ z0) (h2 : z0 < 256) :
    Calls Tryf.prog 38 #[.slice (some ⟨bb, p, none⟩) 1 cap] w fun e w' => e = .returned (.int .u32 z0) ∧ w' = w := by
  have hor0 := or_zero z0 h1 h2
  go_enter Tryf.func38, Tryf.ntmps38
  go_wp2
  go_loop [3, 8] (fun n i => (n = .int .u32 0 ∧ i = .int .i64 0) ∨ (n = .int .u32 z0 ∧ i = .int .i64 1)) (fun _ i => 2 - (intOf i).toNat)
  case atStart => exact Or.inl ⟨rfl, rfl⟩
  case round =>
    rcases hrel with ⟨rfl, rfl⟩ | ⟨rfl, rfl⟩
    · go_wp2
      exact ⟨Or.inr ⟨rfl, rfl⟩, by decide⟩
    · go_wp2
      go_ret
      exact ⟨rfl, rfl⟩

set_option maxHeartbeats 400000 in
theorem le_two (bb p cap : Nat) (z0 z1 : Int) (w : World) (hc0 : w.cell? ⟨bb, p, none⟩ = some (.int .u8 z0)) (hc1 : w.cell? ⟨bb, p + 1, none⟩ = some (.int .u8 z1))
    (h1 : 0 ≤ z0) (h2 : z0 < 256) (h3 : 0 ≤ z1) (h4 : z1 < 256) :
    Calls Tryf.prog 38 #[.slice (some ⟨bb, p, none⟩) 2 cap] w fun e w' => e = .returned (.int .u32 (z0 + z1 * 256)) ∧ w' = w := by
  have hor := or_two z0 z1 h1 h2 h3 h4
  have hor0 := or_zero z0 h1 h2
  go_enter Tryf.func38, Tryf.ntmps38
  go_wp2
  go_loop [3, 8] (fun n i => (n = .int .u32 0 ∧ i = .int .i64 0) ∨ (n = .int .u32 z0 ∧ i = .int .i64 1) ∨ (n = .int .u32 (z0 + z1 * 256) ∧ i = .int .i64 2)) (fun _ i => 2 - (intOf i).toNat)
  case atStart => exact Or.inl ⟨rfl, rfl⟩
  case round =>
    rcases hrel with ⟨rfl, rfl⟩ | ⟨rfl, rfl⟩ | ⟨rfl, rfl⟩
    · go_wp2
      exact ⟨Or.inr (Or.inl ⟨rfl, rfl⟩), by decide⟩
    · go_wp2
      exact ⟨Or.inr (Or.inr ⟨rfl, rfl⟩), by decide⟩
    · go_wp2
      go_ret
      exact ⟨rfl, rfl⟩

set_option maxHeartbeats 400000 in
theorem zzle_two (bb p cap : Nat) (z0 z1 : Int) (w : World) (hc0 : w.cell? ⟨bb, p, none⟩ = some (.int .u8 z0)) (hc1 : w.cell? ⟨bb, p + 1, none⟩ = some (.int .u8 z1))
    (h1 : 0 ≤ z0) (h2 : z0 < 256) (h3 : 0 ≤ z1) (h4 : z1 < 256) :
    Calls Tryf.prog 40 #[.slice (some ⟨bb, p, none⟩) 2 cap] w fun e w' => e = .returned (.int .i64 (z0 + z1 * 256)) ∧ w' = w := by
  go_enter Tryf.func40, Tryf.ntmps40
  go_wp2
  go_loop [3, 4] (fun n i => (n = .int .i64 0 ∧ i = .int .i64 1) ∨ (n = .int .i64 z1 ∧ i = .int .i64 0) ∨ (n = .int .i64 (z0 + z1 * 256) ∧ i = .int .i64 (-1))) (fun _ i => (intOf i + 1).toNat)
  case atStart => exact Or.inl ⟨rfl, rfl⟩
  case round =>
    rcases hrel with ⟨rfl, rfl⟩ | ⟨rfl, rfl⟩ | ⟨rfl, rfl⟩
    · go_wp2
      exact ⟨Or.inr (Or.inl ⟨rfl, rfl⟩), by decide⟩
    · go_wp2
      exact ⟨Or.inr (Or.inr ⟨by rw [Int.add_comm], rfl⟩), by decide⟩
    · go_wp2
      go_ret
      exact ⟨rfl, rfl⟩

/-- The value slices of two blocks, nil both or of the same bytes. -/
def SlAt (w : World) (v : Value) (n : Nat) (f : Nat → Int) : Prop := ∃ b p c, v = .slice (some ⟨b, p, none⟩) n c ∧ ∀ i, i < n → w.cell? ⟨b, p + i, none⟩ = some (.int .u8 (f i))

theorem same_nil (w : World) : Calls Tryf.prog 31 #[.slice none 0 0, .slice none 0 0] w fun e w' => e = .returned (.bool true) ∧ ∃ k, w' = w.drewN k := by
  have heq := fun wx a n c n' c' => Lib.run_eql_slice_nil (P := Tryf.prog) wx 26 5 a n c n' c' Tryf.underlying26
  go_enter Tryf.func31, Tryf.ntmps31
  go_wp2
  go_loop [5] (fun i => i = .int .i64 0) (fun _ => 0)
  case atStart => exact rfl
  case round =>
    obtain rfl := hrel
    go_wp2
    go_ret
    exact ⟨rfl, 0, rfl⟩

set_option maxHeartbeats 400000 in
theorem same_eq (b1 p1 c1 b2 p2 c2 n : Nat) (f : Nat → Int) (w : World) (hn : n ≤ 1048576)
    (h1 : ∀ i, i < n → w.cell? ⟨b1, p1 + i, none⟩ = some (.int .u8 (f i))) (h2 : ∀ i, i < n → w.cell? ⟨b2, p2 + i, none⟩ = some (.int .u8 (f i))) :
    Calls Tryf.prog 31 #[.slice (some ⟨b1, p1, none⟩) n c1, .slice (some ⟨b2, p2, none⟩) n c2] w fun e w' => e = .returned (.bool true) ∧ ∃ k, w' = w.drewN k := by
  have heq := fun wx a n c n' c' => Lib.run_eql_slice_nil (P := Tryf.prog) wx 26 5 a n c n' c' Tryf.underlying26
  have H1 := (show Hid _ from h1)
  have H2 := (show Hid _ from h2)
  clear h1 h2
  go_enter Tryf.func31, Tryf.ntmps31
  go_wp2
  go_loopw [5] (fun i wr => ∃ k : Nat, k ≤ n ∧ i = .int .i64 k ∧ ∃ q, wr = w.drewN q) (fun i _ => n - (intOf i).toNat)
  case atStart => exact ⟨0, Nat.zero_le _, rfl, 0, rfl⟩
  case round =>
    obtain ⟨k, hk, rfl, q, rfl⟩ := hrel
    by_cases hlt : k < n
    · have g1 := H1.out k hlt
      have g2 := H2.out k hlt
      go_wp2
      go_quiet (fail)
      go_wp2
      exact ⟨⟨k + 1, by omega, by go_num, q + nq, rfl⟩, by simp [intOf]; omega⟩
    · go_wp2
      go_ret
      exact ⟨rfl, q, rfl⟩

end Go.Proofs.Qxb6613256aFmt
