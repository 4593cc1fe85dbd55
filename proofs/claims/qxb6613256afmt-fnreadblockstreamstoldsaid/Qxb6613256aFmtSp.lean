/-
  What fmt.Sprintf answers at the formats of the road: a string; one draw; nothing else.
-/
import Derived.Test.Qxb6613256aFmtBase
set_option linter.unusedVariables false
set_option linter.unusedSimpArgs false
namespace Go.Proofs.Qxb6613256aFmt
open Go.RowKit Go.Extern.Stop Go.Stop Go.Extern

def fVer0 : ByteArray := { data := ([83, 80, 68, 77, 86, 101, 114, 115, 105, 111, 110, 32, 105, 115, 32, 48, 120, 37, 48, 50, 120, 44, 32, 110, 111, 116, 32, 49, 46, 50, 32, 40, 48, 120, 49, 50, 41, 32, 111, 114, 32, 49, 46, 51, 32, 40, 48].append [120, 49, 51, 41, 44, 32, 116, 104, 101, 32, 118, 101, 114, 115, 105, 111, 110, 115, 32, 97, 32, 99, 111, 109, 98, 105, 110, 101, 100, 32, 83, 80, 68, 77, 32, 112, 114, 101, 102, 105, 120, 32, 115, 105, 103, 110, 115]).toArray }
def fVer1 : ByteArray := { data := ([83, 80, 68, 77, 86, 101, 114, 115, 105, 111, 110, 32, 105, 115, 32, 48, 120, 37, 48, 50, 120, 44, 32, 110, 111, 116, 32, 48, 120, 37, 48, 50, 120, 32, 97, 115].append [32, 116, 104, 101, 32, 101, 120, 99, 104, 97, 110, 103, 101, 39, 115, 32, 102, 105, 114, 115, 116, 32, 109, 101, 115, 115, 97, 103, 101, 32, 104, 97, 115, 32, 105, 116]).toArray }
def fCode : ByteArray := { data := #[82, 101, 113, 117, 101, 115, 116, 82, 101, 115, 112, 111, 110, 115, 101, 67, 111, 100, 101, 32, 105, 115, 32, 48, 120, 37, 48, 50, 120, 44, 32, 110, 111, 116, 32, 97, 32, 37, 115, 32, 40, 48, 120, 37, 48, 50, 120, 41] }
theorem pVer0 : FmtStop.printed? fVer0 1 = some [(0, 120, false)] := by kernel_rfl
theorem pVer1 : FmtStop.printed? fVer1 2 = some [(0, 120, false), (1, 120, false)] := by kernel_rfl
theorem pCode : FmtStop.printed? fCode 3 = some [(0, 120, false), (1, 115, false), (2, 120, false)] := by kernel_rfl

def fSpec : ByteArray := { data := ([98, 108, 111, 99, 107, 32, 37, 100, 39, 115, 32, 77, 101, 97, 115, 117, 114, 101, 109, 101, 110, 116, 83, 112, 101, 99, 105, 102, 105, 99, 97, 116].append [105, 111, 110, 32, 105, 115, 32, 48, 120, 37, 48, 50, 120, 44, 32, 110, 111, 116, 32, 68, 77, 84, 70, 39, 115, 32, 40, 98, 105, 116, 32, 48, 41]).toArray }
def fSize : ByteArray := { data := ([98, 108, 111, 99, 107, 32, 37, 100, 39, 115, 32, 77, 101, 97, 115, 117, 114, 101, 109, 101, 110, 116, 83, 105, 122, 101, 32, 105, 115, 32, 37, 100, 44, 32, 97].append [110, 100, 32, 105, 116, 115, 32, 68, 77, 84, 70, 32, 109, 101, 97, 115, 117, 114, 101, 109, 101, 110, 116, 32, 105, 115, 32, 37, 100, 32, 98, 121, 116, 101, 115]).toArray }
theorem pSpec : FmtStop.printed? fSpec 2 = some [(0, 100, false), (1, 120, false)] := by kernel_rfl
theorem pSize : FmtStop.printed? fSize 3 = some [(0, 100, false), (1, 100, false), (2, 100, false)] := by kernel_rfl

theorem sprintf_ver0 (F : Interp) (f : ByteArray) (blk : Nat) (x : Int) (w : World) (hF : F.answers w.tape) (hp : FmtStop.printed? f 1 = some [(0, 120, false)])
    (h : w.heap[blk]? = some (.cells #[.iface 5 (.int .u8 x)] 20 (0, 0))) :
    ∃ s, (callFunc 43 #[.string f, .slice (some ⟨blk, 0, none⟩) 1 1]).run Tryf.prog w = .ok (.value (.string s)) w.drew := by
  have h0 : w.cell? ⟨blk, 0, none⟩ = some (.iface 5 (.int .u8 x)) := by rw [cell_at h]; rfl
  have hF' := answers_open hF
  rw [Tryf.call43]
  clear h
  go_simp
theorem sprintf_ver1 (F : Interp) (f : ByteArray) (blk : Nat) (x y : Int) (w : World) (hF : F.answers w.tape) (hp : FmtStop.printed? f 2 = some [(0, 120, false), (1, 120, false)])
    (h : w.heap[blk]? = some (.cells #[.iface 5 (.int .u8 x), .iface 5 (.int .u8 y)] 20 (0, 0))) :
    ∃ s, (callFunc 43 #[.string f, .slice (some ⟨blk, 0, none⟩) 2 2]).run Tryf.prog w = .ok (.value (.string s)) w.drew := by
  have h0 : w.cell? ⟨blk, 0, none⟩ = some (.iface 5 (.int .u8 x)) := by rw [cell_at h]; rfl
  have h1 : w.cell? ⟨blk, 1, none⟩ = some (.iface 5 (.int .u8 y)) := by rw [cell_at h]; rfl
  have hF' := answers_open hF
  rw [Tryf.call43]
  clear h
  go_simp
theorem sprintf_code (F : Interp) (f : ByteArray) (blk : Nat) (x y : Int) (s : ByteArray) (w : World) (hF : F.answers w.tape) (hp : FmtStop.printed? f 3 = some [(0, 120, false), (1, 115, false), (2, 120, false)])
    (h : w.heap[blk]? = some (.cells #[.iface 5 (.int .u8 x), .iface 9 (.string s), .iface 5 (.int .u8 y)] 20 (0, 0))) :
    ∃ s, (callFunc 43 #[.string f, .slice (some ⟨blk, 0, none⟩) 3 3]).run Tryf.prog w = .ok (.value (.string s)) w.drew := by
  have h0 : w.cell? ⟨blk, 0, none⟩ = some (.iface 5 (.int .u8 x)) := by rw [cell_at h]; rfl
  have h1 : w.cell? ⟨blk, 1, none⟩ = some (.iface 9 (.string s)) := by rw [cell_at h]; rfl
  have h2 : w.cell? ⟨blk, 2, none⟩ = some (.iface 5 (.int .u8 y)) := by rw [cell_at h]; rfl
  have hF' := answers_open hF
  rw [Tryf.call43]
  clear h
  go_simp
theorem sprintf_spec (F : Interp) (f : ByteArray) (blk : Nat) (x y : Int) (w : World) (hF : F.answers w.tape) (hp : FmtStop.printed? f 2 = some [(0, 100, false), (1, 120, false)])
    (h : w.heap[blk]? = some (.cells #[.iface 3 (.int .i64 x), .iface 3 (.int .i64 y)] 20 (0, 0))) :
    ∃ s, (callFunc 43 #[.string f, .slice (some ⟨blk, 0, none⟩) 2 2]).run Tryf.prog w = .ok (.value (.string s)) w.drew := by
  have h0 : w.cell? ⟨blk, 0, none⟩ = some (.iface 3 (.int .i64 x)) := by rw [cell_at h]; rfl
  have h1 : w.cell? ⟨blk, 1, none⟩ = some (.iface 3 (.int .i64 y)) := by rw [cell_at h]; rfl
  have hF' := answers_open hF
  rw [Tryf.call43]
  clear h
  go_simp
theorem sprintf_size (F : Interp) (f : ByteArray) (blk : Nat) (x y z : Int) (w : World) (hF : F.answers w.tape) (hp : FmtStop.printed? f 3 = some [(0, 100, false), (1, 100, false), (2, 100, false)])
    (h : w.heap[blk]? = some (.cells #[.iface 3 (.int .i64 x), .iface 3 (.int .i64 y), .iface 3 (.int .i64 z)] 20 (0, 0))) :
    ∃ s, (callFunc 43 #[.string f, .slice (some ⟨blk, 0, none⟩) 3 3]).run Tryf.prog w = .ok (.value (.string s)) w.drew := by
  have h0 : w.cell? ⟨blk, 0, none⟩ = some (.iface 3 (.int .i64 x)) := by rw [cell_at h]; rfl
  have h1 : w.cell? ⟨blk, 1, none⟩ = some (.iface 3 (.int .i64 y)) := by rw [cell_at h]; rfl
  have h2 : w.cell? ⟨blk, 2, none⟩ = some (.iface 3 (.int .i64 z)) := by rw [cell_at h]; rfl
  have hF' := answers_open hF
  rw [Tryf.call43]
  clear h
  go_simp
end Go.Proofs.Qxb6613256aFmt
