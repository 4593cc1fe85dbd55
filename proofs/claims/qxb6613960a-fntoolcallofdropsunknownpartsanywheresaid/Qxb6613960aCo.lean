/-
  contentOf, walked.
-/
import Derived.Test.Qxb6613960aBase
import Derived.BigRegion
set_option linter.unusedVariables false
set_option linter.unusedSimpArgs false
namespace Go.Proofs.Qxb6613960a
open Go.RowKit

def lText : List UInt8 := [116, 101, 120, 116]
def lImage : List UInt8 := [105, 109, 97, 103, 101]
def lAudio : List UInt8 := [97, 117, 100, 105, 111]
def lLink : List UInt8 := [114, 101, 115, 111, 117, 114, 99, 101, 95, 108, 105, 110, 107]
def lRes : List UInt8 := [114, 101, 115, 111, 117, 114, 99, 101]

/-- A resource's three strings. -/
structure Rs where
  uri : ByteArray
  mime : ByteArray
  text : ByteArray

/-- A content block, its resource read. -/
structure Cb where
  ty : ByteArray
  text : ByteArray
  mime : ByteArray
  uri : ByteArray
  name : ByteArray
  res : Option Rs

/-- An event log's block. -/
structure Bl where
  ty : ByteArray
  mime : ByteArray
  uri : ByteArray
  name : ByteArray
  text : ByteArray

def em : ByteArray := ⟨#[]⟩

def Cb.blk (c : Cb) : Bl :=
  if (c.ty.toList == lImage) = true then ⟨c.ty, c.mime, c.uri, em, em⟩
  else if (c.ty.toList == lAudio) = true then ⟨c.ty, c.mime, em, em, em⟩
  else if (c.ty.toList == lLink) = true then ⟨c.ty, c.mime, c.uri, c.name, em⟩
  else if (c.ty.toList == lRes) = true then (match c.res with | some r => ⟨c.ty, r.mime, r.uri, em, r.text⟩ | none => ⟨c.ty, em, em, em, em⟩)
  else ⟨c.ty, em, em, em, em⟩

def Bl.obj (b : Bl) : Obj := .cells #[.string b.ty, .string b.mime, .string b.uri, .string b.name, .string b.text] 81 (0, 0)

/-- The pointer to a resource, and what lies there. -/
def ResAt (w : World) (p : Option Addr) (r : Option Rs) : Prop :=
  match r with
  | none => p = none
  | some r => ∃ b, p = some ⟨b, 0, none⟩ ∧ w.heap[b]? = some (.cells #[.string r.uri, .string r.mime, .string r.text] 113 (0, 0))

theorem heap_push2 (w : World) (a b : Obj) : ((w.alloc a).alloc b).heap[w.heap.size + 1]? = some b := by
  have := heap_push (w.alloc a) b
  rw [show (w.alloc a).heap.size = w.heap.size + 1 from by simp] at this
  exact this

theorem content_text (ty text mime uri name : ByteArray) (p : Option Addr) (w : World) (ht : (ty.toList == lText) = true) :
    Calls Try.prog 34 #[.agg #[.string ty, .string text, .string mime, .string uri, .string name, .pointer p]] w fun e w' =>
      e = .returned (.tuple #[.string text, .pointer none]) ∧ Kp [] w w' := by
  have h0 : (ty.toList == [116, 101, 120, 116]) = true := ht
  have h1 : ty.toList = [116, 101, 120, 116] := by simpa using h0
  clear ht
  go_enter Try.func34, Try.ntmps34
  go_wp2
  go_ret2
  exact ⟨rfl, (Kp.refl _ _).alloc _⟩

set_option maxHeartbeats 1000000 in
theorem content_image (ty text mime uri name : ByteArray) (p : Option Addr) (w : World) (ht : (ty.toList == lImage) = true) :
    Calls Try.prog 34 #[.agg #[.string ty, .string text, .string mime, .string uri, .string name, .pointer p]] w fun e w' =>
      ∃ b, e = .returned (.tuple #[.string ⟨#[]⟩, .pointer (some ⟨b, 0, none⟩)]) ∧ w'.heap[b]? = some (Bl.obj ⟨ty, mime, uri, em, em⟩) ∧ w.heap.size ≤ b ∧ Kp [] w w' := by
  have h1 : ty.toList = [105, 109, 97, 103, 101] := by simpa [lText, lImage, lAudio, lLink, lRes] using ht
  clear ht
  have hnlText : (ty.toList == [116, 101, 120, 116]) = false := by rw [h1]; rfl
  have hnlAudio : (ty.toList == [97, 117, 100, 105, 111]) = false := by rw [h1]; rfl
  have hnlLink : (ty.toList == [114, 101, 115, 111, 117, 114, 99, 101, 95, 108, 105, 110, 107]) = false := by rw [h1]; rfl
  have hnlRes : (ty.toList == [114, 101, 115, 111, 117, 114, 99, 101]) = false := by rw [h1]; rfl
  have hplImage : (ty.toList == [105, 109, 97, 103, 101]) = true := by rw [h1]; rfl
  clear h1
  go_enter Try.func34, Try.ntmps34
  go_wp2_with fail
  go_region
  all_goals
    go_wp2_with fail
    go_ret2
    exact ⟨w.heap.size + 1, rfl, heap_push2 _ _ _, by omega, (((Kp.refl _ _).alloc _).alloc _).drew⟩

set_option maxHeartbeats 1000000 in
theorem content_audio (ty text mime uri name : ByteArray) (p : Option Addr) (w : World) (ht : (ty.toList == lAudio) = true) :
    Calls Try.prog 34 #[.agg #[.string ty, .string text, .string mime, .string uri, .string name, .pointer p]] w fun e w' =>
      ∃ b, e = .returned (.tuple #[.string ⟨#[]⟩, .pointer (some ⟨b, 0, none⟩)]) ∧ w'.heap[b]? = some (Bl.obj ⟨ty, mime, em, em, em⟩) ∧ w.heap.size ≤ b ∧ Kp [] w w' := by
  have h1 : ty.toList = [97, 117, 100, 105, 111] := by simpa [lText, lImage, lAudio, lLink, lRes] using ht
  clear ht
  have hnlText : (ty.toList == [116, 101, 120, 116]) = false := by rw [h1]; rfl
  have hnlImage : (ty.toList == [105, 109, 97, 103, 101]) = false := by rw [h1]; rfl
  have hnlLink : (ty.toList == [114, 101, 115, 111, 117, 114, 99, 101, 95, 108, 105, 110, 107]) = false := by rw [h1]; rfl
  have hnlRes : (ty.toList == [114, 101, 115, 111, 117, 114, 99, 101]) = false := by rw [h1]; rfl
  have hplAudio : (ty.toList == [97, 117, 100, 105, 111]) = true := by rw [h1]; rfl
  clear h1
  go_enter Try.func34, Try.ntmps34
  go_wp2_with fail
  go_ret2
  exact ⟨w.heap.size + 1, rfl, heap_push2 _ _ _, by omega, ((Kp.refl _ _).alloc _).alloc _⟩

set_option maxHeartbeats 1000000 in
theorem content_link (ty text mime uri name : ByteArray) (p : Option Addr) (w : World) (ht : (ty.toList == lLink) = true) :
    Calls Try.prog 34 #[.agg #[.string ty, .string text, .string mime, .string uri, .string name, .pointer p]] w fun e w' =>
      ∃ b, e = .returned (.tuple #[.string ⟨#[]⟩, .pointer (some ⟨b, 0, none⟩)]) ∧ w'.heap[b]? = some (Bl.obj ⟨ty, mime, uri, name, em⟩) ∧ w.heap.size ≤ b ∧ Kp [] w w' := by
  have h1 : ty.toList = [114, 101, 115, 111, 117, 114, 99, 101, 95, 108, 105, 110, 107] := by simpa [lText, lImage, lAudio, lLink, lRes] using ht
  clear ht
  have hnlText : (ty.toList == [116, 101, 120, 116]) = false := by rw [h1]; rfl
  have hnlImage : (ty.toList == [105, 109, 97, 103, 101]) = false := by rw [h1]; rfl
  have hnlAudio : (ty.toList == [97, 117, 100, 105, 111]) = false := by rw [h1]; rfl
  have hnlRes : (ty.toList == [114, 101, 115, 111, 117, 114, 99, 101]) = false := by rw [h1]; rfl
  have hplLink : (ty.toList == [114, 101, 115, 111, 117, 114, 99, 101, 95, 108, 105, 110, 107]) = true := by rw [h1]; rfl
  clear h1
  go_enter Try.func34, Try.ntmps34
  go_wp2_with fail
  go_region
  all_goals
    go_wp2_with fail
    go_ret2
    exact ⟨w.heap.size + 1, rfl, heap_push2 _ _ _, by omega, (((Kp.refl _ _).alloc _).alloc _).drew⟩

set_option maxHeartbeats 1000000 in
theorem content_res (ty text mime uri name : ByteArray) (rb : Nat) (ru rm rt : ByteArray) (w : World) (ht : (ty.toList == lRes) = true) (hr : w.heap[rb]? = some (.cells #[.string ru, .string rm, .string rt] 113 (0, 0))) :
    Calls Try.prog 34 #[.agg #[.string ty, .string text, .string mime, .string uri, .string name, .pointer (some ⟨rb, 0, none⟩)]] w fun e w' =>
      ∃ b, e = .returned (.tuple #[.string ⟨#[]⟩, .pointer (some ⟨b, 0, none⟩)]) ∧ w'.heap[b]? = some (Bl.obj ⟨ty, rm, ru, em, rt⟩) ∧ w.heap.size ≤ b ∧ Kp [] w w' := by
  have h1 : ty.toList = [114, 101, 115, 111, 117, 114, 99, 101] := by simpa [lText, lImage, lAudio, lLink, lRes] using ht
  clear ht
  have hnlText : (ty.toList == [116, 101, 120, 116]) = false := by rw [h1]; rfl
  have hnlImage : (ty.toList == [105, 109, 97, 103, 101]) = false := by rw [h1]; rfl
  have hnlAudio : (ty.toList == [97, 117, 100, 105, 111]) = false := by rw [h1]; rfl
  have hnlLink : (ty.toList == [114, 101, 115, 111, 117, 114, 99, 101, 95, 108, 105, 110, 107]) = false := by rw [h1]; rfl
  have hplRes : (ty.toList == [114, 101, 115, 111, 117, 114, 99, 101]) = true := by rw [h1]; rfl
  clear h1
  have r0 : w.cell? ⟨rb, 0, none⟩ = some (.string ru) := by rw [cell_at hr]; rfl
  have r1 : w.cell? ⟨rb, 1, none⟩ = some (.string rm) := by rw [cell_at hr]; rfl
  have r2 : w.cell? ⟨rb, 2, none⟩ = some (.string rt) := by rw [cell_at hr]; rfl
  have hrb := lt_of_at hr
  have hrb1 : rb < w.heap.size + 1 := by omega
  have hrn1 : rb ≠ w.heap.size := by omega
  have hrn2 : rb ≠ w.heap.size + 1 := by omega
  clear hr
  go_enter Try.func34, Try.ntmps34
  go_wp2_with fail
  go_region
  all_goals
    go_wp2_with fail
    go_ret2
    exact ⟨w.heap.size + 1, rfl, heap_push2 _ _ _, by omega, (((Kp.refl _ _).alloc _).alloc _).drew⟩

set_option maxHeartbeats 1000000 in
theorem content_nores (ty text mime uri name : ByteArray) (w : World) (ht : (ty.toList == lRes) = true) :
    Calls Try.prog 34 #[.agg #[.string ty, .string text, .string mime, .string uri, .string name, .pointer none]] w fun e w' =>
      ∃ b, e = .returned (.tuple #[.string ⟨#[]⟩, .pointer (some ⟨b, 0, none⟩)]) ∧ w'.heap[b]? = some (Bl.obj ⟨ty, em, em, em, em⟩) ∧ w.heap.size ≤ b ∧ Kp [] w w' := by
  have h1 : ty.toList = [114, 101, 115, 111, 117, 114, 99, 101] := by simpa [lText, lImage, lAudio, lLink, lRes] using ht
  clear ht
  have hnlText : (ty.toList == [116, 101, 120, 116]) = false := by rw [h1]; rfl
  have hnlImage : (ty.toList == [105, 109, 97, 103, 101]) = false := by rw [h1]; rfl
  have hnlAudio : (ty.toList == [97, 117, 100, 105, 111]) = false := by rw [h1]; rfl
  have hnlLink : (ty.toList == [114, 101, 115, 111, 117, 114, 99, 101, 95, 108, 105, 110, 107]) = false := by rw [h1]; rfl
  have hplRes : (ty.toList == [114, 101, 115, 111, 117, 114, 99, 101]) = true := by rw [h1]; rfl
  clear h1
  go_enter Try.func34, Try.ntmps34
  go_wp2_with fail
  go_ret2
  exact ⟨w.heap.size + 1, rfl, heap_push2 _ _ _, by omega, ((Kp.refl _ _).alloc _).alloc _⟩

set_option maxHeartbeats 1000000 in
theorem content_other (ty text mime uri name : ByteArray) (p : Option Addr) (w : World) (nlText : (ty.toList == lText) = false) (nlImage : (ty.toList == lImage) = false) (nlAudio : (ty.toList == lAudio) = false) (nlLink : (ty.toList == lLink) = false) (nlRes : (ty.toList == lRes) = false) :
    Calls Try.prog 34 #[.agg #[.string ty, .string text, .string mime, .string uri, .string name, .pointer p]] w fun e w' =>
      ∃ b, e = .returned (.tuple #[.string ⟨#[]⟩, .pointer (some ⟨b, 0, none⟩)]) ∧ w'.heap[b]? = some (Bl.obj ⟨ty, em, em, em, em⟩) ∧ w.heap.size ≤ b ∧ Kp [] w w' := by
  have hnlText : (ty.toList == [116, 101, 120, 116]) = false := nlText
  have hqlText : ¬ ty.toList = [116, 101, 120, 116] := by simpa using hnlText
  clear nlText
  have hnlImage : (ty.toList == [105, 109, 97, 103, 101]) = false := nlImage
  have hqlImage : ¬ ty.toList = [105, 109, 97, 103, 101] := by simpa using hnlImage
  clear nlImage
  have hnlAudio : (ty.toList == [97, 117, 100, 105, 111]) = false := nlAudio
  have hqlAudio : ¬ ty.toList = [97, 117, 100, 105, 111] := by simpa using hnlAudio
  clear nlAudio
  have hnlLink : (ty.toList == [114, 101, 115, 111, 117, 114, 99, 101, 95, 108, 105, 110, 107]) = false := nlLink
  have hqlLink : ¬ ty.toList = [114, 101, 115, 111, 117, 114, 99, 101, 95, 108, 105, 110, 107] := by simpa using hnlLink
  clear nlLink
  have hnlRes : (ty.toList == [114, 101, 115, 111, 117, 114, 99, 101]) = false := nlRes
  have hqlRes : ¬ ty.toList = [114, 101, 115, 111, 117, 114, 99, 101] := by simpa using hnlRes
  clear nlRes
  go_enter Try.func34, Try.ntmps34
  go_wp2_with fail
  go_ret2
  exact ⟨w.heap.size + 1, rfl, heap_push2 _ _ _, by omega, ((Kp.refl _ _).alloc _).alloc _⟩

def CbVal (c : Cb) (p : Option Addr) : Value := .agg #[.string c.ty, .string c.text, .string c.mime, .string c.uri, .string c.name, .pointer p]

/-- contentOf at a block that is not plain text. -/
theorem content_any (c : Cb) (p : Option Addr) (w : World) (hp : ResAt w p c.res) (ht : (c.ty.toList == lText) = false) :
    Calls Try.prog 34 #[CbVal c p] w fun e w' => ∃ b, e = .returned (.tuple #[.string ⟨#[]⟩, .pointer (some ⟨b, 0, none⟩)]) ∧ w'.heap[b]? = some (Bl.obj c.blk) ∧ w.heap.size ≤ b ∧ Kp [] w w' := by
  obtain ⟨ty, text, mime, uri, name, res⟩ := c
  unfold CbVal Cb.blk
  dsimp only at hp ht ⊢
  cases hi : (ty.toList == lImage) with
  | true => exact content_image ty text mime uri name p w hi
  | false =>
    cases ha : (ty.toList == lAudio) with
    | true => exact content_audio ty text mime uri name p w ha
    | false =>
      cases hl : (ty.toList == lLink) with
      | true => exact content_link ty text mime uri name p w hl
      | false =>
        cases hr : (ty.toList == lRes) with
        | true =>
          cases res with
          | none =>
            have e : p = none := hp
            subst e
            exact content_nores ty text mime uri name w hr
          | some r =>
            obtain ⟨b, rfl, hb⟩ := hp
            exact content_res ty text mime uri name b r.uri r.mime r.text w hr hb
        | false => exact content_other ty text mime uri name p w ht hi ha hl hr

end Go.Proofs.Qxb6613960a
