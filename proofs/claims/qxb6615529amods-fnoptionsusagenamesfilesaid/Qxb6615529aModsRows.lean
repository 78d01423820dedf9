/-
  No cell of these rows narrows 'for every input' (looked for: loops, veiled, ifaces, maps, wideKeys, modest, calm, conditions, laid).
  DERIVED. THE GIVEN ROWS OF THIS SEAT. 1 by the template 'for every input the law returns true; each argument reads behind the call as it read before'; 0 by the template 'total and deterministic' (their statements: Qxb6615529aModsTotals.lean).
  GIVEN WITH THE SEED: the statements are not yours to turn. If you find one false, say at which input.
  Laid BY PROGRAM, IN A SANDBOX (cutbox-rows.mjs): the forced cells as the released guide's own fill.sh prints them over the translation 7bca33efbd6a3094… (all of the seat's roots in one cut). By AI agents, Wed Nov 11 2026. No macro, syntax, notation, axiom, sorry.
-/
import Derived.Test.Qxb6615529aModsChecked
import GoSem.Claim
import GoSem.ClaimJoined
import GoSem.ClaimMapViews
import Derived.JoinedTies
import Derived.KernelRfl
namespace Go.Proofs.Qxb6615529aMods
/- THE CELL 'sum', in the pinned program and in every row, IS THE sha256 OF THE DUMP (.gsa) THAT Qxb6615529aModsProg.lean LOADS. Nothing in Lean hashes anything: it is a label: what it is worth is what the hold of that sum in a sandbox is worth. -/
noncomputable def Trym.pinned : Pinned := { name := "qxb6615529amods", sum := "7bca33efbd6a3094913fbdf161a393f0f60e731a5ca245d866c27852ef883498", checked := Trym.checked }
namespace Rows
def none {H : Type} : Left H := { results := [], args := [] }

/-- 'zzlaws_sim_b1.FnOptionsUsageNamesFILE': WHATEVER THE INPUT: true; the input reads as it did. -/
def fnOptionsUsageNamesFILESpec : ChangeSpec := { name := "fnOptionsUsageNamesFILE", fn := fun _ => fun
  | [] => { results := [.lit (.bool true)], args := [] }
  | _ => none }
def fnOptionsUsageNamesFILERow : OpenClaim := { program := "qxb6615529amods", sum := "7bca33efbd6a3094913fbdf161a393f0f60e731a5ca245d866c27852ef883498", func := "example.com/playhead/playhead/zzlaws_sim_b1.FnOptionsUsageNamesFILE", spec := "fnOptionsUsageNamesFILE", make := .lifted ["publicsums"], apart := false }
def FnOptionsUsageNamesFILESaid : Prop := fnOptionsUsageNamesFILERow.holds Trym.pinned (OpenSpec.ofChange fnOptionsUsageNamesFILESpec)

/-- ITS FALSE NEIGHBOUR: 'it returns false'. Refute it at one input. -/
def fnOptionsUsageNamesFILEWrong : ChangeSpec := { name := "fnOptionsUsageNamesFILE", fn := fun _ => fun
  | [] => { results := [.lit (.bool false)], args := [] }
  | _ => none }
def FnOptionsUsageNamesFILEWrongFalsely : Prop := fnOptionsUsageNamesFILERow.holds Trym.pinned (OpenSpec.ofChange fnOptionsUsageNamesFILEWrong)

end Rows
end Go.Proofs.Qxb6615529aMods
