/-
  No cell of these rows narrows 'for every input' (looked for: loops, veiled, ifaces, maps, wideKeys, modest, calm, conditions, laid).
  DERIVED. THE GIVEN ROWS OF THIS SEAT. 2 by the template 'for every input the law returns true; each argument reads behind the call as it read before'; 0 by the template 'total and deterministic' (their statements: Qxb6605911aModsTotals.lean).
  GIVEN WITH THE SEED: the statements are not yours to turn. If you find one false, say at which input.
  Laid BY PROGRAM, IN A SANDBOX (cutbox-rows.mjs): the forced cells as the released guide's own fill.sh prints them over the translation de9ba60495b0bdd6… (all of the seat's roots in one cut). By AI agents, Wed Nov 11 2026. No macro, syntax, notation, axiom, sorry.
-/
import Derived.Test.Qxb6605911aModsChecked
import GoSem.Claim
import GoSem.ClaimJoined
import GoSem.ClaimMapViews
import Derived.JoinedTies
import Derived.KernelRfl
namespace Go.Proofs.Qxb6605911aMods
/- THE CELL 'sum', in the pinned program and in every row, IS THE sha256 OF THE DUMP (.gsa) THAT Qxb6605911aModsProg.lean LOADS. Nothing in Lean hashes anything: it is a label: what it is worth is what the hold of that sum in a sandbox is worth. -/
noncomputable def Trym.pinned : Pinned := { name := "qxb6605911amods", sum := "de9ba60495b0bdd606efe24836910e61aa613014ae2fe9a49f3097ceeab5d1ea", checked := Trym.checked }
namespace Rows
def none {H : Type} : Left H := { results := [], args := [] }

/-- 'zzlaws_internal_discovery_b1.FnHeldGivingRemovesExactlyThatKey': WHATEVER THE INPUT: true; the input reads as it did. -/
def fnHeldGivingRemovesExactlyThatKeySpec : ChangeSpec := { name := "fnHeldGivingRemovesExactlyThatKey", fn := fun _ => fun
  | [d1, d2] => { results := [.lit (.bool true)], args := [d1, d2] }
  | _ => none }
def fnHeldGivingRemovesExactlyThatKeyRow : OpenClaim := { program := "qxb6605911amods", sum := "de9ba60495b0bdd606efe24836910e61aa613014ae2fe9a49f3097ceeab5d1ea", func := "example.com/beaconry/beaconry/zzlaws_internal_discovery_b1.FnHeldGivingRemovesExactlyThatKey", spec := "fnHeldGivingRemovesExactlyThatKey", make := .lifted ["publicsums"], apart := false }
def FnHeldGivingRemovesExactlyThatKeySaid : Prop := fnHeldGivingRemovesExactlyThatKeyRow.holds Trym.pinned (OpenSpec.ofChange fnHeldGivingRemovesExactlyThatKeySpec)

/-- ITS FALSE NEIGHBOUR: 'it returns false'. Refute it at one input. -/
def fnHeldGivingRemovesExactlyThatKeyWrong : ChangeSpec := { name := "fnHeldGivingRemovesExactlyThatKey", fn := fun _ => fun
  | [d1, d2] => { results := [.lit (.bool false)], args := [d1, d2] }
  | _ => none }
def FnHeldGivingRemovesExactlyThatKeyWrongFalsely : Prop := fnHeldGivingRemovesExactlyThatKeyRow.holds Trym.pinned (OpenSpec.ofChange fnHeldGivingRemovesExactlyThatKeyWrong)

/-- 'zzlaws_internal_discovery_b1.FnDelegatesNSAddedSOAAddedOrderFree': WHATEVER THE INPUT: true; the input reads as it did. -/
def fnDelegatesNSAddedSOAAddedOrderFreeSpec : ChangeSpec := { name := "fnDelegatesNSAddedSOAAddedOrderFree", fn := fun _ => fun
  | [d] => { results := [.lit (.bool true)], args := [d] }
  | _ => none }
def fnDelegatesNSAddedSOAAddedOrderFreeRow : OpenClaim := { program := "qxb6605911amods", sum := "de9ba60495b0bdd606efe24836910e61aa613014ae2fe9a49f3097ceeab5d1ea", func := "example.com/beaconry/beaconry/zzlaws_internal_discovery_b1.FnDelegatesNSAddedSOAAddedOrderFree", spec := "fnDelegatesNSAddedSOAAddedOrderFree", make := .lifted ["publicsums"], apart := false }
def FnDelegatesNSAddedSOAAddedOrderFreeSaid : Prop := fnDelegatesNSAddedSOAAddedOrderFreeRow.holds Trym.pinned (OpenSpec.ofChange fnDelegatesNSAddedSOAAddedOrderFreeSpec)

/-- ITS FALSE NEIGHBOUR: 'it returns false'. Refute it at one input. -/
def fnDelegatesNSAddedSOAAddedOrderFreeWrong : ChangeSpec := { name := "fnDelegatesNSAddedSOAAddedOrderFree", fn := fun _ => fun
  | [d] => { results := [.lit (.bool false)], args := [d] }
  | _ => none }
def FnDelegatesNSAddedSOAAddedOrderFreeWrongFalsely : Prop := fnDelegatesNSAddedSOAAddedOrderFreeRow.holds Trym.pinned (OpenSpec.ofChange fnDelegatesNSAddedSOAAddedOrderFreeWrong)

end Rows
end Go.Proofs.Qxb6605911aMods
