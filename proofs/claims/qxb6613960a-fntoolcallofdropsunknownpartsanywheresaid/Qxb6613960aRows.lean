/-
  No cell of these rows narrows 'for every input' (looked for: loops, veiled, ifaces, maps, wideKeys, modest, calm, conditions, laid).
  DERIVED. THE GIVEN ROWS OF THIS SEAT. 3 by the template 'for every input the law returns true; each argument reads behind the call as it read before'; 0 by the template 'total and deterministic' (their statements: Qxb6613960aTotals.lean).
  GIVEN WITH THE SEED: the statements are not yours to turn. If you find one false, say at which input.
  Laid BY PROGRAM, IN A SANDBOX (cutbox-rows.mjs): the forced cells as the released guide's own fill.sh prints them over the translation 7463ace9b13025f2… (all of the seat's roots in one cut). By AI agents, Wed Nov 11 2026. No macro, syntax, notation, axiom, sorry.
-/
import Derived.Test.Qxb6613960aChecked
import GoSem.Claim
import GoSem.ClaimJoined
import GoSem.ClaimMapViews
import Derived.JoinedTies
import Derived.KernelRfl
namespace Go.Proofs.Qxb6613960a
/- THE CELL 'sum', in the pinned program and in every row, IS THE sha256 OF THE DUMP (.gsa) THAT Qxb6613960aProg.lean LOADS. Nothing in Lean hashes anything: it is a label: what it is worth is what the hold of that sum in a sandbox is worth. -/
noncomputable def Try.pinned : Pinned := { name := "qxb6613960a", sum := "7463ace9b13025f2271cde18f02bf8af0102ae778324589c54378d81d71b6a49", checked := Try.checked }
namespace Rows
def none {H : Type} : Left H := { results := [], args := [] }

/-- 'zzlaws_session_b1.FnToolCallOfSplitsAtAnyCut': WHATEVER THE INPUT: true; the input reads as it did. -/
def fnToolCallOfSplitsAtAnyCutSpec : ChangeSpec := { name := "fnToolCallOfSplitsAtAnyCut", fn := fun _ => fun
  | [d1, d2, d3, d4, d5, d6, d7, d8, d9] => { results := [.lit (.bool true)], args := [d1, d2, d3, d4, d5, d6, d7, d8, d9] }
  | _ => none }
def fnToolCallOfSplitsAtAnyCutRow : OpenClaim := { program := "qxb6613960a", sum := "7463ace9b13025f2271cde18f02bf8af0102ae778324589c54378d81d71b6a49", func := "example.com/tally/tally/zzlaws_session_b1.FnToolCallOfSplitsAtAnyCut", spec := "fnToolCallOfSplitsAtAnyCut", apart := false }
def FnToolCallOfSplitsAtAnyCutSaid : Prop := fnToolCallOfSplitsAtAnyCutRow.holds Try.pinned (OpenSpec.ofChange fnToolCallOfSplitsAtAnyCutSpec)

/-- ITS FALSE NEIGHBOUR: 'it returns false'. Refute it at one input. -/
def fnToolCallOfSplitsAtAnyCutWrong : ChangeSpec := { name := "fnToolCallOfSplitsAtAnyCut", fn := fun _ => fun
  | [d1, d2, d3, d4, d5, d6, d7, d8, d9] => { results := [.lit (.bool false)], args := [d1, d2, d3, d4, d5, d6, d7, d8, d9] }
  | _ => none }
def FnToolCallOfSplitsAtAnyCutWrongFalsely : Prop := fnToolCallOfSplitsAtAnyCutRow.holds Try.pinned (OpenSpec.ofChange fnToolCallOfSplitsAtAnyCutWrong)

/-- 'zzlaws_session_b1.FnToolCallOfDropsUnknownPartsAnywhere': WHATEVER THE INPUT: true; the input reads as it did. -/
def fnToolCallOfDropsUnknownPartsAnywhereSpec : ChangeSpec := { name := "fnToolCallOfDropsUnknownPartsAnywhere", fn := fun _ => fun
  | [d1, d2, d3, d4, d5, d6, d7, d8, d9] => { results := [.lit (.bool true)], args := [d1, d2, d3, d4, d5, d6, d7, d8, d9] }
  | _ => none }
def fnToolCallOfDropsUnknownPartsAnywhereRow : OpenClaim := { program := "qxb6613960a", sum := "7463ace9b13025f2271cde18f02bf8af0102ae778324589c54378d81d71b6a49", func := "example.com/tally/tally/zzlaws_session_b1.FnToolCallOfDropsUnknownPartsAnywhere", spec := "fnToolCallOfDropsUnknownPartsAnywhere", apart := false }
def FnToolCallOfDropsUnknownPartsAnywhereSaid : Prop := fnToolCallOfDropsUnknownPartsAnywhereRow.holds Try.pinned (OpenSpec.ofChange fnToolCallOfDropsUnknownPartsAnywhereSpec)

/-- ITS FALSE NEIGHBOUR: 'it returns false'. Refute it at one input. -/
def fnToolCallOfDropsUnknownPartsAnywhereWrong : ChangeSpec := { name := "fnToolCallOfDropsUnknownPartsAnywhere", fn := fun _ => fun
  | [d1, d2, d3, d4, d5, d6, d7, d8, d9] => { results := [.lit (.bool false)], args := [d1, d2, d3, d4, d5, d6, d7, d8, d9] }
  | _ => none }
def FnToolCallOfDropsUnknownPartsAnywhereWrongFalsely : Prop := fnToolCallOfDropsUnknownPartsAnywhereRow.holds Try.pinned (OpenSpec.ofChange fnToolCallOfDropsUnknownPartsAnywhereWrong)

/-- 'zzlaws_session_b1.FnSignInByRemembersTheLast': WHATEVER THE INPUT: true; the input reads as it did. -/
def fnSignInByRemembersTheLastSpec : ChangeSpec := { name := "fnSignInByRemembersTheLast", fn := fun _ => fun
  | [d] => { results := [.lit (.bool true)], args := [d] }
  | _ => none }
def fnSignInByRemembersTheLastRow : OpenClaim := { program := "qxb6613960a", sum := "7463ace9b13025f2271cde18f02bf8af0102ae778324589c54378d81d71b6a49", func := "example.com/tally/tally/zzlaws_session_b1.FnSignInByRemembersTheLast", spec := "fnSignInByRemembersTheLast", inPlace := ["(*internal/sync.Mutex).Lock", "internal/race.Disable", "sync/atomic.CompareAndSwapInt32", "internal/race.Enable", "internal/race.Acquire", "(*internal/sync.Mutex).lockSlow", "internal/sync.runtime_canSpin", "internal/sync.runtime_doSpin", "internal/sync.throw", "internal/sync.runtime_nanotime", "internal/sync.runtime_SemacquireMutex", "sync/atomic.AddInt32", "(*internal/sync.Mutex).Unlock", "internal/race.ReleaseMerge", "(*internal/sync.Mutex).unlockSlow", "internal/sync.fatal", "internal/sync.runtime_Semrelease"], apart := false }
def FnSignInByRemembersTheLastSaid : Prop := fnSignInByRemembersTheLastRow.holds Try.pinned (OpenSpec.ofChange fnSignInByRemembersTheLastSpec)

/-- ITS FALSE NEIGHBOUR: 'it returns false'. Refute it at one input. -/
def fnSignInByRemembersTheLastWrong : ChangeSpec := { name := "fnSignInByRemembersTheLast", fn := fun _ => fun
  | [d] => { results := [.lit (.bool false)], args := [d] }
  | _ => none }
def FnSignInByRemembersTheLastWrongFalsely : Prop := fnSignInByRemembersTheLastRow.holds Try.pinned (OpenSpec.ofChange fnSignInByRemembersTheLastWrong)

end Rows
end Go.Proofs.Qxb6613960a
