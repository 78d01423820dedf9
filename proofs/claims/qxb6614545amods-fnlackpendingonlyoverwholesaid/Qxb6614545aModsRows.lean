/-
  No cell of these rows narrows 'for every input' (looked for: loops, veiled, ifaces, maps, wideKeys, modest, calm, conditions, laid).
  DERIVED. THE GIVEN ROWS OF THIS SEAT. 3 by the template 'for every input the law returns true; each argument reads behind the call as it read before'; 0 by the template 'total and deterministic' (their statements: Qxb6614545aModsTotals.lean).
  GIVEN WITH THE SEED: the statements are not yours to turn. If you find one false, say at which input.
  Laid BY PROGRAM, IN A SANDBOX (cutbox-rows.mjs): the forced cells as the released guide's own fill.sh prints them over the translation c294723024d4affb… (all of the seat's roots in one cut). By AI agents, Wed Nov 11 2026. No macro, syntax, notation, axiom, sorry.
-/
import Derived.Test.Qxb6614545aModsChecked
import GoSem.Claim
import GoSem.ClaimJoined
import GoSem.ClaimMapViews
import Derived.JoinedTies
import Derived.KernelRfl
namespace Go.Proofs.Qxb6614545aMods
/- THE CELL 'sum', in the pinned program and in every row, IS THE sha256 OF THE DUMP (.gsa) THAT Qxb6614545aModsProg.lean LOADS. Nothing in Lean hashes anything: it is a label: what it is worth is what the hold of that sum in a sandbox is worth. -/
noncomputable def Trym.pinned : Pinned := { name := "qxb6614545amods", sum := "c294723024d4affb086911a464f4b0dfb46d2add3905d73e3be51811590c007b", checked := Trym.checked }
namespace Rows
def none {H : Type} : Left H := { results := [], args := [] }

/-- 'zzlaws_pkg_quorumkeep_b1.FnLackInsertedPiece': WHATEVER THE INPUT: true; the input reads as it did. -/
def fnLackInsertedPieceSpec : ChangeSpec := { name := "fnLackInsertedPiece", fn := fun _ => fun
  | [d1, d2, d3, d4, d5, d6, d7] => { results := [.lit (.bool true)], args := [d1, d2, d3, d4, d5, d6, d7] }
  | _ => none }
def fnLackInsertedPieceRow : OpenClaim := { program := "qxb6614545amods", sum := "c294723024d4affb086911a464f4b0dfb46d2add3905d73e3be51811590c007b", func := "example.com/quorumkeep/quorumkeep/zzlaws_pkg_quorumkeep_b1.FnLackInsertedPiece", spec := "fnLackInsertedPiece", make := .lifted ["publicsums"], apart := false }
def FnLackInsertedPieceSaid : Prop := fnLackInsertedPieceRow.holds Trym.pinned (OpenSpec.ofChange fnLackInsertedPieceSpec)

/-- ITS FALSE NEIGHBOUR: 'it returns false'. Refute it at one input. -/
def fnLackInsertedPieceWrong : ChangeSpec := { name := "fnLackInsertedPiece", fn := fun _ => fun
  | [d1, d2, d3, d4, d5, d6, d7] => { results := [.lit (.bool false)], args := [d1, d2, d3, d4, d5, d6, d7] }
  | _ => none }
def FnLackInsertedPieceWrongFalsely : Prop := fnLackInsertedPieceRow.holds Trym.pinned (OpenSpec.ofChange fnLackInsertedPieceWrong)

/-- 'zzlaws_pkg_quorumkeep_b1.FnLackPendingOnlyOverWhole': WHATEVER THE INPUT: true; the input reads as it did. -/
def fnLackPendingOnlyOverWholeSpec : ChangeSpec := { name := "fnLackPendingOnlyOverWhole", fn := fun _ => fun
  | [d1, d2, d3, d4] => { results := [.lit (.bool true)], args := [d1, d2, d3, d4] }
  | _ => none }
def fnLackPendingOnlyOverWholeRow : OpenClaim := { program := "qxb6614545amods", sum := "c294723024d4affb086911a464f4b0dfb46d2add3905d73e3be51811590c007b", func := "example.com/quorumkeep/quorumkeep/zzlaws_pkg_quorumkeep_b1.FnLackPendingOnlyOverWhole", spec := "fnLackPendingOnlyOverWhole", make := .lifted ["publicsums"], apart := false }
def FnLackPendingOnlyOverWholeSaid : Prop := fnLackPendingOnlyOverWholeRow.holds Trym.pinned (OpenSpec.ofChange fnLackPendingOnlyOverWholeSpec)

/-- ITS FALSE NEIGHBOUR: 'it returns false'. Refute it at one input. -/
def fnLackPendingOnlyOverWholeWrong : ChangeSpec := { name := "fnLackPendingOnlyOverWhole", fn := fun _ => fun
  | [d1, d2, d3, d4] => { results := [.lit (.bool false)], args := [d1, d2, d3, d4] }
  | _ => none }
def FnLackPendingOnlyOverWholeWrongFalsely : Prop := fnLackPendingOnlyOverWholeRow.holds Trym.pinned (OpenSpec.ofChange fnLackPendingOnlyOverWholeWrong)

/-- 'zzlaws_pkg_quorumkeep_b1.FnRunningEndCountsDown': WHATEVER THE INPUT: true; the input reads as it did. -/
def fnRunningEndCountsDownSpec : ChangeSpec := { name := "fnRunningEndCountsDown", fn := fun _ => fun
  | [d1, d2] => { results := [.lit (.bool true)], args := [d1, d2] }
  | _ => none }
def fnRunningEndCountsDownRow : OpenClaim := { program := "qxb6614545amods", sum := "c294723024d4affb086911a464f4b0dfb46d2add3905d73e3be51811590c007b", func := "example.com/quorumkeep/quorumkeep/zzlaws_pkg_quorumkeep_b1.FnRunningEndCountsDown", spec := "fnRunningEndCountsDown", inPlace := ["(*internal/sync.Mutex).Lock", "internal/race.Disable", "sync/atomic.CompareAndSwapInt32", "internal/race.Enable", "internal/race.Acquire", "(*internal/sync.Mutex).lockSlow", "internal/sync.runtime_canSpin", "internal/sync.runtime_doSpin", "internal/sync.throw", "internal/sync.runtime_nanotime", "internal/sync.runtime_SemacquireMutex", "sync/atomic.AddInt32", "(*internal/sync.Mutex).Unlock", "internal/race.ReleaseMerge", "(*internal/sync.Mutex).unlockSlow", "internal/sync.fatal", "internal/sync.runtime_Semrelease"], make := .lifted ["publicsums"], apart := false }
def FnRunningEndCountsDownSaid : Prop := fnRunningEndCountsDownRow.holds Trym.pinned (OpenSpec.ofChange fnRunningEndCountsDownSpec)

/-- ITS FALSE NEIGHBOUR: 'it returns false'. Refute it at one input. -/
def fnRunningEndCountsDownWrong : ChangeSpec := { name := "fnRunningEndCountsDown", fn := fun _ => fun
  | [d1, d2] => { results := [.lit (.bool false)], args := [d1, d2] }
  | _ => none }
def FnRunningEndCountsDownWrongFalsely : Prop := fnRunningEndCountsDownRow.holds Trym.pinned (OpenSpec.ofChange fnRunningEndCountsDownWrong)

end Rows
end Go.Proofs.Qxb6614545aMods
