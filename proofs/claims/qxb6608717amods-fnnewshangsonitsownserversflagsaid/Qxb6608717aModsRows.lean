/-
  No cell of these rows narrows 'for every input' (looked for: loops, veiled, ifaces, maps, wideKeys, modest, calm, conditions, laid).
  DERIVED. THE GIVEN ROWS OF THIS SEAT. 4 by the template 'for every input the law returns true; each argument reads behind the call as it read before'; 0 by the template 'total and deterministic' (their statements: Qxb6608717aModsTotals.lean).
  GIVEN WITH THE SEED: the statements are not yours to turn. If you find one false, say at which input.
  Laid BY PROGRAM, IN A SANDBOX (cutbox-rows.mjs): the forced cells as the released guide's own fill.sh prints them over the translation 7f097cfa639bd46d… (all of the seat's roots in one cut). By AI agents, Wed Nov 11 2026. No macro, syntax, notation, axiom, sorry.
-/
import Derived.Test.Qxb6608717aModsChecked
import GoSem.Claim
import GoSem.ClaimJoined
import GoSem.ClaimMapViews
import Derived.JoinedTies
import Derived.KernelRfl
namespace Go.Proofs.Qxb6608717aMods
/- THE CELL 'sum', in the pinned program and in every row, IS THE sha256 OF THE DUMP (.gsa) THAT Qxb6608717aModsProg.lean LOADS. Nothing in Lean hashes anything: it is a label: what it is worth is what the hold of that sum in a sandbox is worth. -/
noncomputable def Trym.pinned : Pinned := { name := "qxb6608717amods", sum := "7f097cfa639bd46d6f74820fb7d2c0c13f5ca391d7f67f5a6947caac557e3f55", checked := Trym.checked }
namespace Rows
def none {H : Type} : Left H := { results := [], args := [] }

/-- 'zzlaws_root_b1.FnKeepExpiryInjectiveTwiceTheSet': WHATEVER THE INPUT: true; the input reads as it did. -/
def fnKeepExpiryInjectiveTwiceTheSetSpec : ChangeSpec := { name := "fnKeepExpiryInjectiveTwiceTheSet", fn := fun _ => fun
  | [d1, d2] => { results := [.lit (.bool true)], args := [d1, d2] }
  | _ => none }
def fnKeepExpiryInjectiveTwiceTheSetRow : OpenClaim := { program := "qxb6608717amods", sum := "7f097cfa639bd46d6f74820fb7d2c0c13f5ca391d7f67f5a6947caac557e3f55", func := "example.com/lease/lease/zzlaws_root_b1.FnKeepExpiryInjectiveTwiceTheSet", spec := "fnKeepExpiryInjectiveTwiceTheSet", make := .lifted ["publicsums"], apart := false }
def FnKeepExpiryInjectiveTwiceTheSetSaid : Prop := fnKeepExpiryInjectiveTwiceTheSetRow.holds Trym.pinned (OpenSpec.ofChange fnKeepExpiryInjectiveTwiceTheSetSpec)

/-- ITS FALSE NEIGHBOUR: 'it returns false'. Refute it at one input. -/
def fnKeepExpiryInjectiveTwiceTheSetWrong : ChangeSpec := { name := "fnKeepExpiryInjectiveTwiceTheSet", fn := fun _ => fun
  | [d1, d2] => { results := [.lit (.bool false)], args := [d1, d2] }
  | _ => none }
def FnKeepExpiryInjectiveTwiceTheSetWrongFalsely : Prop := fnKeepExpiryInjectiveTwiceTheSetRow.holds Trym.pinned (OpenSpec.ofChange fnKeepExpiryInjectiveTwiceTheSetWrong)

/-- 'zzlaws_root_b1.FnScoreMemberEndsWithKeepExpiry': WHATEVER THE INPUT: true; the input reads as it did. -/
def fnScoreMemberEndsWithKeepExpirySpec : ChangeSpec := { name := "fnScoreMemberEndsWithKeepExpiry", fn := fun _ => fun
  | [d1, d2, d3] => { results := [.lit (.bool true)], args := [d1, d2, d3] }
  | _ => none }
def fnScoreMemberEndsWithKeepExpiryRow : OpenClaim := { program := "qxb6608717amods", sum := "7f097cfa639bd46d6f74820fb7d2c0c13f5ca391d7f67f5a6947caac557e3f55", func := "example.com/lease/lease/zzlaws_root_b1.FnScoreMemberEndsWithKeepExpiry", spec := "fnScoreMemberEndsWithKeepExpiry", make := .lifted ["publicsums"], apart := false }
def FnScoreMemberEndsWithKeepExpirySaid : Prop := fnScoreMemberEndsWithKeepExpiryRow.holds Trym.pinned (OpenSpec.ofChange fnScoreMemberEndsWithKeepExpirySpec)

/-- ITS FALSE NEIGHBOUR: 'it returns false'. Refute it at one input. -/
def fnScoreMemberEndsWithKeepExpiryWrong : ChangeSpec := { name := "fnScoreMemberEndsWithKeepExpiry", fn := fun _ => fun
  | [d1, d2, d3] => { results := [.lit (.bool false)], args := [d1, d2, d3] }
  | _ => none }
def FnScoreMemberEndsWithKeepExpiryWrongFalsely : Prop := fnScoreMemberEndsWithKeepExpiryRow.holds Trym.pinned (OpenSpec.ofChange fnScoreMemberEndsWithKeepExpiryWrong)

/-- 'zzlaws_root_b1.FnScoreMemberEachPartCounts': WHATEVER THE INPUT: true; the input reads as it did. -/
def fnScoreMemberEachPartCountsSpec : ChangeSpec := { name := "fnScoreMemberEachPartCounts", fn := fun _ => fun
  | [d1, d2, d3, d4, d5, d6] => { results := [.lit (.bool true)], args := [d1, d2, d3, d4, d5, d6] }
  | _ => none }
def fnScoreMemberEachPartCountsRow : OpenClaim := { program := "qxb6608717amods", sum := "7f097cfa639bd46d6f74820fb7d2c0c13f5ca391d7f67f5a6947caac557e3f55", func := "example.com/lease/lease/zzlaws_root_b1.FnScoreMemberEachPartCounts", spec := "fnScoreMemberEachPartCounts", make := .lifted ["publicsums"], apart := false }
def FnScoreMemberEachPartCountsSaid : Prop := fnScoreMemberEachPartCountsRow.holds Trym.pinned (OpenSpec.ofChange fnScoreMemberEachPartCountsSpec)

/-- ITS FALSE NEIGHBOUR: 'it returns false'. Refute it at one input. -/
def fnScoreMemberEachPartCountsWrong : ChangeSpec := { name := "fnScoreMemberEachPartCounts", fn := fun _ => fun
  | [d1, d2, d3, d4, d5, d6] => { results := [.lit (.bool false)], args := [d1, d2, d3, d4, d5, d6] }
  | _ => none }
def FnScoreMemberEachPartCountsWrongFalsely : Prop := fnScoreMemberEachPartCountsRow.holds Trym.pinned (OpenSpec.ofChange fnScoreMemberEachPartCountsWrong)

/-- 'zzlaws_root_b1.FnNewsHangsOnItsOwnServersFlag': WHATEVER THE INPUT: true; the input reads as it did. -/
def fnNewsHangsOnItsOwnServersFlagSpec : ChangeSpec := { name := "fnNewsHangsOnItsOwnServersFlag", fn := fun _ => fun
  | [d1, d2, d3, d4, d5, d6] => { results := [.lit (.bool true)], args := [d1, d2, d3, d4, d5, d6] }
  | _ => none }
def fnNewsHangsOnItsOwnServersFlagRow : OpenClaim := { program := "qxb6608717amods", sum := "7f097cfa639bd46d6f74820fb7d2c0c13f5ca391d7f67f5a6947caac557e3f55", func := "example.com/lease/lease/zzlaws_root_b1.FnNewsHangsOnItsOwnServersFlag", spec := "fnNewsHangsOnItsOwnServersFlag", make := .lifted ["publicsums"], apart := false }
def FnNewsHangsOnItsOwnServersFlagSaid : Prop := fnNewsHangsOnItsOwnServersFlagRow.holds Trym.pinned (OpenSpec.ofChange fnNewsHangsOnItsOwnServersFlagSpec)

/-- ITS FALSE NEIGHBOUR: 'it returns false'. Refute it at one input. -/
def fnNewsHangsOnItsOwnServersFlagWrong : ChangeSpec := { name := "fnNewsHangsOnItsOwnServersFlag", fn := fun _ => fun
  | [d1, d2, d3, d4, d5, d6] => { results := [.lit (.bool false)], args := [d1, d2, d3, d4, d5, d6] }
  | _ => none }
def FnNewsHangsOnItsOwnServersFlagWrongFalsely : Prop := fnNewsHangsOnItsOwnServersFlagRow.holds Trym.pinned (OpenSpec.ofChange fnNewsHangsOnItsOwnServersFlagWrong)

end Rows
end Go.Proofs.Qxb6608717aMods
