/-
  No cell of these rows narrows 'for every input' (looked for: loops, veiled, ifaces, maps, wideKeys, modest, calm, conditions, laid).
  DERIVED. THE GIVEN ROWS OF THIS SEAT. 7 by the template 'for every input the law returns true; each argument reads behind the call as it read before'; 0 by the template 'total and deterministic' (their statements: Qxb6613256aFmtTotals.lean).
  GIVEN WITH THE SEED: the statements are not yours to turn. If you find one false, say at which input.
  Laid BY PROGRAM, IN A SANDBOX (cutbox-rows.mjs): the forced cells as the released guide's own fill.sh prints them over the translation 89bc05b0db3fda17… (all of the seat's roots in one cut). By AI agents, Wed Nov 11 2026. No macro, syntax, notation, axiom, sorry.
-/
import Derived.Test.Qxb6613256aFmtChecked
import GoSem.Claim
import GoSem.ClaimJoined
import GoSem.ClaimMapViews
import Derived.JoinedTies
import Derived.KernelRfl
namespace Go.Proofs.Qxb6613256aFmt
/- THE CELL 'sum', in the pinned program and in every row, IS THE sha256 OF THE DUMP (.gsa) THAT Qxb6613256aFmtProg.lean LOADS. Nothing in Lean hashes anything: it is a label: what it is worth is what the hold of that sum in a sandbox is worth. -/
noncomputable def Tryf.pinned : Pinned := { name := "qxb6613256afmt", sum := "89bc05b0db3fda17a9a3261531880d8f583010970f80c8c9321d4cc8352180aa", checked := Tryf.checked }
namespace Rows
def none {H : Type} : Left H := { results := [], args := [] }

/-- 'zzlaws_dat_b1.FnHexPadsToRegisterWidth': WHATEVER THE INPUT: true; the input reads as it did. -/
def fnHexPadsToRegisterWidthSpec : ChangeSpec := { name := "fnHexPadsToRegisterWidth", fn := fun _ => fun
  | [d1, d2, d3, d4, d5, d6, d7] => { results := [.lit (.bool true)], args := [d1, d2, d3, d4, d5, d6, d7] }
  | _ => none }
def fnHexPadsToRegisterWidthRow : OpenClaim := { program := "qxb6613256afmt", sum := "89bc05b0db3fda17a9a3261531880d8f583010970f80c8c9321d4cc8352180aa", func := "example.com/glowworm/glowworm/zzlaws_dat_b1.FnHexPadsToRegisterWidth", spec := "fnHexPadsToRegisterWidth", stops := ["fmt.Sprintf", "fmt.errorf"], inPlace := ["fmt.Sprintf"], apart := false }
/-- NO THEOREM (fmt's text is open here; it may be false): for the released tool's asking of the row's closed facts alone. THE STATEMENT IS 'FnHexPadsToRegisterWidthToldSaid' (Qxb6613256aFmtCards.lean). -/
def FnHexPadsToRegisterWidthFormAsk : Prop := fnHexPadsToRegisterWidthRow.holds Tryf.pinned (OpenSpec.ofChange fnHexPadsToRegisterWidthSpec)

/-- ITS FALSE NEIGHBOUR: 'it returns false'. Refute it at one input. -/
def fnHexPadsToRegisterWidthWrong : ChangeSpec := { name := "fnHexPadsToRegisterWidth", fn := fun _ => fun
  | [d1, d2, d3, d4, d5, d6, d7] => { results := [.lit (.bool false)], args := [d1, d2, d3, d4, d5, d6, d7] }
  | _ => none }
def FnHexPadsToRegisterWidthWrongFormAsk : Prop := fnHexPadsToRegisterWidthRow.holds Tryf.pinned (OpenSpec.ofChange fnHexPadsToRegisterWidthWrong)

/-- 'zzlaws_dat_b1.FnHexShowsConfigBytesHighFirst': WHATEVER THE INPUT: true; the input reads as it did. -/
def fnHexShowsConfigBytesHighFirstSpec : ChangeSpec := { name := "fnHexShowsConfigBytesHighFirst", fn := fun _ => fun
  | [d1, d2, d3, d4, d5, d6] => { results := [.lit (.bool true)], args := [d1, d2, d3, d4, d5, d6] }
  | _ => none }
def fnHexShowsConfigBytesHighFirstRow : OpenClaim := { program := "qxb6613256afmt", sum := "89bc05b0db3fda17a9a3261531880d8f583010970f80c8c9321d4cc8352180aa", func := "example.com/glowworm/glowworm/zzlaws_dat_b1.FnHexShowsConfigBytesHighFirst", spec := "fnHexShowsConfigBytesHighFirst", stops := ["fmt.Sprintf", "fmt.errorf"], inPlace := ["fmt.Sprintf"], apart := false }
/-- NO THEOREM (fmt's text is open here; it may be false): for the released tool's asking of the row's closed facts alone. THE STATEMENT IS 'FnHexShowsConfigBytesHighFirstToldSaid' (Qxb6613256aFmtCards.lean). -/
def FnHexShowsConfigBytesHighFirstFormAsk : Prop := fnHexShowsConfigBytesHighFirstRow.holds Tryf.pinned (OpenSpec.ofChange fnHexShowsConfigBytesHighFirstSpec)

/-- ITS FALSE NEIGHBOUR: 'it returns false'. Refute it at one input. -/
def fnHexShowsConfigBytesHighFirstWrong : ChangeSpec := { name := "fnHexShowsConfigBytesHighFirst", fn := fun _ => fun
  | [d1, d2, d3, d4, d5, d6] => { results := [.lit (.bool false)], args := [d1, d2, d3, d4, d5, d6] }
  | _ => none }
def FnHexShowsConfigBytesHighFirstWrongFormAsk : Prop := fnHexShowsConfigBytesHighFirstRow.holds Tryf.pinned (OpenSpec.ofChange fnHexShowsConfigBytesHighFirstWrong)

/-- 'zzlaws_dat_b1.FnHeaderCutInvariant': WHATEVER THE INPUT: true; the input reads as it did. -/
def fnHeaderCutInvariantSpec : ChangeSpec := { name := "fnHeaderCutInvariant", fn := fun _ => fun
  | [d1, d2, d3, d4, d5, d6] => { results := [.lit (.bool true)], args := [d1, d2, d3, d4, d5, d6] }
  | _ => none }
def fnHeaderCutInvariantRow : OpenClaim := { program := "qxb6613256afmt", sum := "89bc05b0db3fda17a9a3261531880d8f583010970f80c8c9321d4cc8352180aa", func := "example.com/glowworm/glowworm/zzlaws_dat_b1.FnHeaderCutInvariant", spec := "fnHeaderCutInvariant", stops := ["fmt.Sprintf", "fmt.errorf"], inPlace := ["fmt.errorf", "fmt.Sprintf"], apart := false }
/-- NO THEOREM (fmt's text is open here; it may be false): for the released tool's asking of the row's closed facts alone. THE STATEMENT IS 'FnHeaderCutInvariantToldSaid' (Qxb6613256aFmtCards.lean). -/
def FnHeaderCutInvariantFormAsk : Prop := fnHeaderCutInvariantRow.holds Tryf.pinned (OpenSpec.ofChange fnHeaderCutInvariantSpec)

/-- ITS FALSE NEIGHBOUR: 'it returns false'. Refute it at one input. -/
def fnHeaderCutInvariantWrong : ChangeSpec := { name := "fnHeaderCutInvariant", fn := fun _ => fun
  | [d1, d2, d3, d4, d5, d6] => { results := [.lit (.bool false)], args := [d1, d2, d3, d4, d5, d6] }
  | _ => none }
def FnHeaderCutInvariantWrongFormAsk : Prop := fnHeaderCutInvariantRow.holds Tryf.pinned (OpenSpec.ofChange fnHeaderCutInvariantWrong)

/-- 'zzlaws_dat_b1.FnHeaderVersionHeldAcrossMessages': WHATEVER THE INPUT: true; the input reads as it did. -/
def fnHeaderVersionHeldAcrossMessagesSpec : ChangeSpec := { name := "fnHeaderVersionHeldAcrossMessages", fn := fun _ => fun
  | [d1, d2, d3, d4, d5, d6] => { results := [.lit (.bool true)], args := [d1, d2, d3, d4, d5, d6] }
  | _ => none }
def fnHeaderVersionHeldAcrossMessagesRow : OpenClaim := { program := "qxb6613256afmt", sum := "89bc05b0db3fda17a9a3261531880d8f583010970f80c8c9321d4cc8352180aa", func := "example.com/glowworm/glowworm/zzlaws_dat_b1.FnHeaderVersionHeldAcrossMessages", spec := "fnHeaderVersionHeldAcrossMessages", stops := ["fmt.Sprintf", "fmt.errorf"], inPlace := ["fmt.errorf", "fmt.Sprintf"], apart := false }
/-- NO THEOREM (fmt's text is open here; it may be false): for the released tool's asking of the row's closed facts alone. THE STATEMENT IS 'FnHeaderVersionHeldAcrossMessagesToldSaid' (Qxb6613256aFmtCards.lean). -/
def FnHeaderVersionHeldAcrossMessagesFormAsk : Prop := fnHeaderVersionHeldAcrossMessagesRow.holds Tryf.pinned (OpenSpec.ofChange fnHeaderVersionHeldAcrossMessagesSpec)

/-- ITS FALSE NEIGHBOUR: 'it returns false'. Refute it at one input. -/
def fnHeaderVersionHeldAcrossMessagesWrong : ChangeSpec := { name := "fnHeaderVersionHeldAcrossMessages", fn := fun _ => fun
  | [d1, d2, d3, d4, d5, d6] => { results := [.lit (.bool false)], args := [d1, d2, d3, d4, d5, d6] }
  | _ => none }
def FnHeaderVersionHeldAcrossMessagesWrongFormAsk : Prop := fnHeaderVersionHeldAcrossMessagesRow.holds Tryf.pinned (OpenSpec.ofChange fnHeaderVersionHeldAcrossMessagesWrong)

/-- 'zzlaws_dat_b1.FnReadBlockCutInvariant': WHATEVER THE INPUT: true; the input reads as it did. -/
def fnReadBlockCutInvariantSpec : ChangeSpec := { name := "fnReadBlockCutInvariant", fn := fun _ => fun
  | [d1, d2] => { results := [.lit (.bool true)], args := [d1, d2] }
  | _ => none }
def fnReadBlockCutInvariantRow : OpenClaim := { program := "qxb6613256afmt", sum := "89bc05b0db3fda17a9a3261531880d8f583010970f80c8c9321d4cc8352180aa", func := "example.com/glowworm/glowworm/zzlaws_dat_b1.FnReadBlockCutInvariant", spec := "fnReadBlockCutInvariant", stops := ["fmt.Sprintf", "fmt.errorf"], inPlace := ["fmt.errorf", "fmt.Sprintf"], apart := false }
/-- NO THEOREM (fmt's text is open here; it may be false): for the released tool's asking of the row's closed facts alone. THE STATEMENT IS 'FnReadBlockCutInvariantToldSaid' (Qxb6613256aFmtCards.lean). -/
def FnReadBlockCutInvariantFormAsk : Prop := fnReadBlockCutInvariantRow.holds Tryf.pinned (OpenSpec.ofChange fnReadBlockCutInvariantSpec)

/-- ITS FALSE NEIGHBOUR: 'it returns false'. Refute it at one input. -/
def fnReadBlockCutInvariantWrong : ChangeSpec := { name := "fnReadBlockCutInvariant", fn := fun _ => fun
  | [d1, d2] => { results := [.lit (.bool false)], args := [d1, d2] }
  | _ => none }
def FnReadBlockCutInvariantWrongFormAsk : Prop := fnReadBlockCutInvariantRow.holds Tryf.pinned (OpenSpec.ofChange fnReadBlockCutInvariantWrong)

/-- 'zzlaws_dat_b1.FnReadBlockStreams': WHATEVER THE INPUT: true; the input reads as it did. -/
def fnReadBlockStreamsSpec : ChangeSpec := { name := "fnReadBlockStreams", fn := fun _ => fun
  | [d1, d2] => { results := [.lit (.bool true)], args := [d1, d2] }
  | _ => none }
def fnReadBlockStreamsRow : OpenClaim := { program := "qxb6613256afmt", sum := "89bc05b0db3fda17a9a3261531880d8f583010970f80c8c9321d4cc8352180aa", func := "example.com/glowworm/glowworm/zzlaws_dat_b1.FnReadBlockStreams", spec := "fnReadBlockStreams", stops := ["fmt.Sprintf", "fmt.errorf"], inPlace := ["fmt.errorf", "fmt.Sprintf"], apart := false }
/-- NO THEOREM (fmt's text is open here; it may be false): for the released tool's asking of the row's closed facts alone. THE STATEMENT IS 'FnReadBlockStreamsToldSaid' (Qxb6613256aFmtCards.lean). -/
def FnReadBlockStreamsFormAsk : Prop := fnReadBlockStreamsRow.holds Tryf.pinned (OpenSpec.ofChange fnReadBlockStreamsSpec)

/-- ITS FALSE NEIGHBOUR: 'it returns false'. Refute it at one input. -/
def fnReadBlockStreamsWrong : ChangeSpec := { name := "fnReadBlockStreams", fn := fun _ => fun
  | [d1, d2] => { results := [.lit (.bool false)], args := [d1, d2] }
  | _ => none }
def FnReadBlockStreamsWrongFormAsk : Prop := fnReadBlockStreamsRow.holds Tryf.pinned (OpenSpec.ofChange fnReadBlockStreamsWrong)

/-- 'zzlaws_dat_b1.FnReadResponseSignedAddsOnlySlotCheck': WHATEVER THE INPUT: true; the input reads as it did. -/
def fnReadResponseSignedAddsOnlySlotCheckSpec : ChangeSpec := { name := "fnReadResponseSignedAddsOnlySlotCheck", fn := fun _ => fun
  | [d1, d2, d3, d4] => { results := [.lit (.bool true)], args := [d1, d2, d3, d4] }
  | _ => none }
def fnReadResponseSignedAddsOnlySlotCheckRow : OpenClaim := { program := "qxb6613256afmt", sum := "89bc05b0db3fda17a9a3261531880d8f583010970f80c8c9321d4cc8352180aa", func := "example.com/glowworm/glowworm/zzlaws_dat_b1.FnReadResponseSignedAddsOnlySlotCheck", spec := "fnReadResponseSignedAddsOnlySlotCheck", stops := ["fmt.Sprintf", "fmt.errorf"], inPlace := ["fmt.errorf", "fmt.Sprintf"], apart := false }
/-- NO THEOREM (fmt's text is open here; it may be false): for the released tool's asking of the row's closed facts alone. THE STATEMENT IS 'FnReadResponseSignedAddsOnlySlotCheckToldSaid' (Qxb6613256aFmtCards.lean). -/
def FnReadResponseSignedAddsOnlySlotCheckFormAsk : Prop := fnReadResponseSignedAddsOnlySlotCheckRow.holds Tryf.pinned (OpenSpec.ofChange fnReadResponseSignedAddsOnlySlotCheckSpec)

/-- ITS FALSE NEIGHBOUR: 'it returns false'. Refute it at one input. -/
def fnReadResponseSignedAddsOnlySlotCheckWrong : ChangeSpec := { name := "fnReadResponseSignedAddsOnlySlotCheck", fn := fun _ => fun
  | [d1, d2, d3, d4] => { results := [.lit (.bool false)], args := [d1, d2, d3, d4] }
  | _ => none }
def FnReadResponseSignedAddsOnlySlotCheckWrongFormAsk : Prop := fnReadResponseSignedAddsOnlySlotCheckRow.holds Tryf.pinned (OpenSpec.ofChange fnReadResponseSignedAddsOnlySlotCheckWrong)

end Rows
end Go.Proofs.Qxb6613256aFmt
