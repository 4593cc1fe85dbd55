/-
  No cell of these rows narrows 'for every input' (looked for: loops, veiled, ifaces, maps, wideKeys, modest, calm, conditions, laid).
  DERIVED. THE GIVEN ROWS OF THIS SEAT. 4 by the template 'for every input the law returns true; each argument reads behind the call as it read before'; 0 by the template 'total and deterministic' (their statements: Qxb6613301aTotals.lean).
  GIVEN WITH THE SEED: the statements are not yours to turn. If you find one false, say at which input.
  Laid BY PROGRAM, IN A SANDBOX (cutbox-rows.mjs): the forced cells as the released guide's own fill.sh prints them over the translation e9bb212803c69bb6… (all of the seat's roots in one cut). By AI agents, Wed Nov 11 2026. No macro, syntax, notation, axiom, sorry.
-/
import Derived.Test.Qxb6613301aChecked
import GoSem.Claim
import GoSem.ClaimJoined
import GoSem.ClaimMapViews
import Derived.JoinedTies
import Derived.KernelRfl
namespace Go.Proofs.Qxb6613301a
/- THE CELL 'sum', in the pinned program and in every row, IS THE sha256 OF THE DUMP (.gsa) THAT Qxb6613301aProg.lean LOADS. Nothing in Lean hashes anything: it is a label: what it is worth is what the hold of that sum in a sandbox is worth. -/
noncomputable def Try.pinned : Pinned := { name := "qxb6613301a", sum := "e9bb212803c69bb6bafde5d13685777cc09f4103419aa40037aabf6472e66368", checked := Try.checked }
namespace Rows
def none {H : Type} : Left H := { results := [], args := [] }

/-- 'zzlaws_root_b1.FnWaitScriptSortsPositions': WHATEVER THE INPUT: true; the input reads as it did. -/
def fnWaitScriptSortsPositionsSpec : ChangeSpec := { name := "fnWaitScriptSortsPositions", fn := fun _ => fun
  | [d] => { results := [.lit (.bool true)], args := [d] }
  | _ => none }
def fnWaitScriptSortsPositionsRow : OpenClaim := { program := "qxb6613301a", sum := "e9bb212803c69bb6bafde5d13685777cc09f4103419aa40037aabf6472e66368", func := "example.com/ledger-of-turns/ledger-of-turns/zzlaws_root_b1.FnWaitScriptSortsPositions", spec := "fnWaitScriptSortsPositions", inPlace := ["slices.overlaps[int]"], apart := false }
def FnWaitScriptSortsPositionsSaid : Prop := fnWaitScriptSortsPositionsRow.holds Try.pinned (OpenSpec.ofChange fnWaitScriptSortsPositionsSpec)

/-- ITS FALSE NEIGHBOUR: 'it returns false'. Refute it at one input. -/
def fnWaitScriptSortsPositionsWrong : ChangeSpec := { name := "fnWaitScriptSortsPositions", fn := fun _ => fun
  | [d] => { results := [.lit (.bool false)], args := [d] }
  | _ => none }
def FnWaitScriptSortsPositionsWrongFalsely : Prop := fnWaitScriptSortsPositionsRow.holds Try.pinned (OpenSpec.ofChange fnWaitScriptSortsPositionsWrong)

/-- 'zzlaws_root_b1.FnWaitTwoInEitherOrderMerges': WHATEVER THE INPUT: true; the input reads as it did. -/
def fnWaitTwoInEitherOrderMergesSpec : ChangeSpec := { name := "fnWaitTwoInEitherOrderMerges", fn := fun _ => fun
  | [d1, d2, d3] => { results := [.lit (.bool true)], args := [d1, d2, d3] }
  | _ => none }
def fnWaitTwoInEitherOrderMergesRow : OpenClaim := { program := "qxb6613301a", sum := "e9bb212803c69bb6bafde5d13685777cc09f4103419aa40037aabf6472e66368", func := "example.com/ledger-of-turns/ledger-of-turns/zzlaws_root_b1.FnWaitTwoInEitherOrderMerges", spec := "fnWaitTwoInEitherOrderMerges", inPlace := ["slices.overlaps[int]"], apart := false }
def FnWaitTwoInEitherOrderMergesSaid : Prop := fnWaitTwoInEitherOrderMergesRow.holds Try.pinned (OpenSpec.ofChange fnWaitTwoInEitherOrderMergesSpec)

/-- ITS FALSE NEIGHBOUR: 'it returns false'. Refute it at one input. -/
def fnWaitTwoInEitherOrderMergesWrong : ChangeSpec := { name := "fnWaitTwoInEitherOrderMerges", fn := fun _ => fun
  | [d1, d2, d3] => { results := [.lit (.bool false)], args := [d1, d2, d3] }
  | _ => none }
def FnWaitTwoInEitherOrderMergesWrongFalsely : Prop := fnWaitTwoInEitherOrderMergesRow.holds Try.pinned (OpenSpec.ofChange fnWaitTwoInEitherOrderMergesWrong)

/-- 'zzlaws_root_b1.FnCutIsEarliestFittingTurn': WHATEVER THE INPUT: true; the input reads as it did. -/
def fnCutIsEarliestFittingTurnSpec : ChangeSpec := { name := "fnCutIsEarliestFittingTurn", fn := fun _ => fun
  | [d1, d2] => { results := [.lit (.bool true)], args := [d1, d2] }
  | _ => none }
def fnCutIsEarliestFittingTurnRow : OpenClaim := { program := "qxb6613301a", sum := "e9bb212803c69bb6bafde5d13685777cc09f4103419aa40037aabf6472e66368", func := "example.com/ledger-of-turns/ledger-of-turns/zzlaws_root_b1.FnCutIsEarliestFittingTurn", spec := "fnCutIsEarliestFittingTurn", unfollowed := true, recurses := true, apart := false }
def FnCutIsEarliestFittingTurnSaid : Prop := fnCutIsEarliestFittingTurnRow.holds Try.pinned (OpenSpec.ofChange fnCutIsEarliestFittingTurnSpec)

/-- ITS FALSE NEIGHBOUR: 'it returns false'. Refute it at one input. -/
def fnCutIsEarliestFittingTurnWrong : ChangeSpec := { name := "fnCutIsEarliestFittingTurn", fn := fun _ => fun
  | [d1, d2] => { results := [.lit (.bool false)], args := [d1, d2] }
  | _ => none }
def FnCutIsEarliestFittingTurnWrongFalsely : Prop := fnCutIsEarliestFittingTurnRow.holds Try.pinned (OpenSpec.ofChange fnCutIsEarliestFittingTurnWrong)

/-- 'zzlaws_root_b1.FnAnchorTakesNewWholeKeepsOthers': WHATEVER THE INPUT: true; the input reads as it did. -/
def fnAnchorTakesNewWholeKeepsOthersSpec : ChangeSpec := { name := "fnAnchorTakesNewWholeKeepsOthers", fn := fun _ => fun
  | [d1, d2, d3, d4, d5] => { results := [.lit (.bool true)], args := [d1, d2, d3, d4, d5] }
  | _ => none }
def fnAnchorTakesNewWholeKeepsOthersRow : OpenClaim := { program := "qxb6613301a", sum := "e9bb212803c69bb6bafde5d13685777cc09f4103419aa40037aabf6472e66368", func := "example.com/ledger-of-turns/ledger-of-turns/zzlaws_root_b1.FnAnchorTakesNewWholeKeepsOthers", spec := "fnAnchorTakesNewWholeKeepsOthers", apart := false }
def FnAnchorTakesNewWholeKeepsOthersSaid : Prop := fnAnchorTakesNewWholeKeepsOthersRow.holds Try.pinned (OpenSpec.ofChange fnAnchorTakesNewWholeKeepsOthersSpec)

/-- ITS FALSE NEIGHBOUR: 'it returns false'. Refute it at one input. -/
def fnAnchorTakesNewWholeKeepsOthersWrong : ChangeSpec := { name := "fnAnchorTakesNewWholeKeepsOthers", fn := fun _ => fun
  | [d1, d2, d3, d4, d5] => { results := [.lit (.bool false)], args := [d1, d2, d3, d4, d5] }
  | _ => none }
def FnAnchorTakesNewWholeKeepsOthersWrongFalsely : Prop := fnAnchorTakesNewWholeKeepsOthersRow.holds Try.pinned (OpenSpec.ofChange fnAnchorTakesNewWholeKeepsOthersWrong)

end Rows
end Go.Proofs.Qxb6613301a
