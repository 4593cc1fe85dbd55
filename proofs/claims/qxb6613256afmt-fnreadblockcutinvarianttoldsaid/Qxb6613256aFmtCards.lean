/-
  DERIVED. GIVEN WITH THE SEED: THE CARDS: each row of Qxb6613256aFmtRows.lean that lists a variable, with what it lists TIED to the program's text (the seventh form; the later family's looks); each row that meets fmt, with fmt's text TOLD by the authors' own Lean function (tested against real Go, not proved from fmt's source: count such statements apart). THE CARD IS WHAT COUNTS. Prove the row's statement (the work); the ties are given (Qxb6613256aFmtTie.lean); close each card by the builder's one call (the guide's Derived/Test/ToyasCard.lean, 'card_holds'). Laid BY PROGRAM, IN A SANDBOX (cutbox-door.mjs). By AI agents, Wed Nov 11 2026. No macro, syntax, notation, axiom, sorry.
-/
import Derived.Test.Qxb6613256aFmtRows
import GoSem.ClaimSeven
namespace Go.Proofs.Qxb6613256aFmt
namespace Rows

/-- THE TOLD CARD OF 'zzlaws_dat_b1.FnHexPadsToRegisterWidth'. -/
def fnHexPadsToRegisterWidthCard : Claim7 := { stood := { row := fnHexPadsToRegisterWidthRow, standIns := [], harness := (true, "ae7f8346e1a3a90321381243b5068eb1539c1735e9f687f305491ee1cddd634c"), looks := false }, told := true, goes := false }
def FnHexPadsToRegisterWidthToldSaid : Prop := Claim7.holds Tryf.pinned (.plain (OpenSpec.ofChange fnHexPadsToRegisterWidthSpec)) fnHexPadsToRegisterWidthCard
/-- ITS FALSE NEIGHBOUR. Refute it at one input. -/
def FnHexPadsToRegisterWidthToldWrongFalsely : Prop := Claim7.holds Tryf.pinned (.plain (OpenSpec.ofChange fnHexPadsToRegisterWidthWrong)) fnHexPadsToRegisterWidthCard

/-- THE TOLD CARD OF 'zzlaws_dat_b1.FnHexShowsConfigBytesHighFirst'. -/
def fnHexShowsConfigBytesHighFirstCard : Claim7 := { stood := { row := fnHexShowsConfigBytesHighFirstRow, standIns := [], harness := (true, "ae7f8346e1a3a90321381243b5068eb1539c1735e9f687f305491ee1cddd634c"), looks := false }, told := true, goes := false }
def FnHexShowsConfigBytesHighFirstToldSaid : Prop := Claim7.holds Tryf.pinned (.plain (OpenSpec.ofChange fnHexShowsConfigBytesHighFirstSpec)) fnHexShowsConfigBytesHighFirstCard
/-- ITS FALSE NEIGHBOUR. Refute it at one input. -/
def FnHexShowsConfigBytesHighFirstToldWrongFalsely : Prop := Claim7.holds Tryf.pinned (.plain (OpenSpec.ofChange fnHexShowsConfigBytesHighFirstWrong)) fnHexShowsConfigBytesHighFirstCard

/-- THE TOLD CARD OF 'zzlaws_dat_b1.FnHeaderCutInvariant'. -/
def fnHeaderCutInvariantCard : Claim7 := { stood := { row := fnHeaderCutInvariantRow, standIns := [], harness := (true, "ae7f8346e1a3a90321381243b5068eb1539c1735e9f687f305491ee1cddd634c"), looks := false }, told := true, goes := false }
def FnHeaderCutInvariantToldSaid : Prop := Claim7.holds Tryf.pinned (.plain (OpenSpec.ofChange fnHeaderCutInvariantSpec)) fnHeaderCutInvariantCard
/-- ITS FALSE NEIGHBOUR. Refute it at one input. -/
def FnHeaderCutInvariantToldWrongFalsely : Prop := Claim7.holds Tryf.pinned (.plain (OpenSpec.ofChange fnHeaderCutInvariantWrong)) fnHeaderCutInvariantCard

/-- THE TOLD CARD OF 'zzlaws_dat_b1.FnHeaderVersionHeldAcrossMessages'. -/
def fnHeaderVersionHeldAcrossMessagesCard : Claim7 := { stood := { row := fnHeaderVersionHeldAcrossMessagesRow, standIns := [], harness := (true, "ae7f8346e1a3a90321381243b5068eb1539c1735e9f687f305491ee1cddd634c"), looks := false }, told := true, goes := false }
def FnHeaderVersionHeldAcrossMessagesToldSaid : Prop := Claim7.holds Tryf.pinned (.plain (OpenSpec.ofChange fnHeaderVersionHeldAcrossMessagesSpec)) fnHeaderVersionHeldAcrossMessagesCard
/-- ITS FALSE NEIGHBOUR. Refute it at one input. -/
def FnHeaderVersionHeldAcrossMessagesToldWrongFalsely : Prop := Claim7.holds Tryf.pinned (.plain (OpenSpec.ofChange fnHeaderVersionHeldAcrossMessagesWrong)) fnHeaderVersionHeldAcrossMessagesCard

/-- THE TOLD CARD OF 'zzlaws_dat_b1.FnReadBlockCutInvariant'. -/
def fnReadBlockCutInvariantCard : Claim7 := { stood := { row := fnReadBlockCutInvariantRow, standIns := [], harness := (true, "ae7f8346e1a3a90321381243b5068eb1539c1735e9f687f305491ee1cddd634c"), looks := false }, told := true, goes := false }
def FnReadBlockCutInvariantToldSaid : Prop := Claim7.holds Tryf.pinned (.plain (OpenSpec.ofChange fnReadBlockCutInvariantSpec)) fnReadBlockCutInvariantCard
/-- ITS FALSE NEIGHBOUR. Refute it at one input. -/
def FnReadBlockCutInvariantToldWrongFalsely : Prop := Claim7.holds Tryf.pinned (.plain (OpenSpec.ofChange fnReadBlockCutInvariantWrong)) fnReadBlockCutInvariantCard

/-- THE TOLD CARD OF 'zzlaws_dat_b1.FnReadBlockStreams'. -/
def fnReadBlockStreamsCard : Claim7 := { stood := { row := fnReadBlockStreamsRow, standIns := [], harness := (true, "ae7f8346e1a3a90321381243b5068eb1539c1735e9f687f305491ee1cddd634c"), looks := false }, told := true, goes := false }
def FnReadBlockStreamsToldSaid : Prop := Claim7.holds Tryf.pinned (.plain (OpenSpec.ofChange fnReadBlockStreamsSpec)) fnReadBlockStreamsCard
/-- ITS FALSE NEIGHBOUR. Refute it at one input. -/
def FnReadBlockStreamsToldWrongFalsely : Prop := Claim7.holds Tryf.pinned (.plain (OpenSpec.ofChange fnReadBlockStreamsWrong)) fnReadBlockStreamsCard

/-- THE TOLD CARD OF 'zzlaws_dat_b1.FnReadResponseSignedAddsOnlySlotCheck'. -/
def fnReadResponseSignedAddsOnlySlotCheckCard : Claim7 := { stood := { row := fnReadResponseSignedAddsOnlySlotCheckRow, standIns := [], harness := (true, "ae7f8346e1a3a90321381243b5068eb1539c1735e9f687f305491ee1cddd634c"), looks := false }, told := true, goes := false }
def FnReadResponseSignedAddsOnlySlotCheckToldSaid : Prop := Claim7.holds Tryf.pinned (.plain (OpenSpec.ofChange fnReadResponseSignedAddsOnlySlotCheckSpec)) fnReadResponseSignedAddsOnlySlotCheckCard
/-- ITS FALSE NEIGHBOUR. Refute it at one input. -/
def FnReadResponseSignedAddsOnlySlotCheckToldWrongFalsely : Prop := Claim7.holds Tryf.pinned (.plain (OpenSpec.ofChange fnReadResponseSignedAddsOnlySlotCheckWrong)) fnReadResponseSignedAddsOnlySlotCheckCard
end Rows
end Go.Proofs.Qxb6613256aFmt
