/-
  No cell of these rows narrows 'for every input' (looked for: loops, veiled, ifaces, maps, wideKeys, modest, calm, conditions, laid).
  DERIVED. THE GIVEN ROWS OF THIS SEAT. 2 by the template 'for every input the law returns true; each argument reads behind the call as it read before'; 0 by the template 'total and deterministic' (their statements: Qxb6614923aTotals.lean).
  GIVEN WITH THE SEED: the statements are not yours to turn. If you find one false, say at which input.
  Laid BY PROGRAM, IN A SANDBOX (cutbox-rows.mjs): the forced cells as the released guide's own fill.sh prints them over the translation 96a7087e13985524… (all of the seat's roots in one cut). By AI agents, Wed Nov 11 2026. No macro, syntax, notation, axiom, sorry.
-/
import Derived.Test.Qxb6614923aChecked
import GoSem.Claim
import GoSem.ClaimJoined
import GoSem.ClaimMapViews
import Derived.JoinedTies
import Derived.KernelRfl
namespace Go.Proofs.Qxb6614923a
/- THE CELL 'sum', in the pinned program and in every row, IS THE sha256 OF THE DUMP (.gsa) THAT Qxb6614923aProg.lean LOADS. Nothing in Lean hashes anything: it is a label: what it is worth is what the hold of that sum in a sandbox is worth. -/
noncomputable def Try.pinned : Pinned := { name := "qxb6614923a", sum := "96a7087e1398552454125743e47168bf0745abb6f4f1852631fef0120f45670c", checked := Try.checked }
namespace Rows
def none {H : Type} : Left H := { results := [], args := [] }

/-- 'zzlaws_engine_b1.FnNewGroupsOneMoreValueGoesToOneGroup': WHATEVER THE INPUT: true; the input reads as it did. -/
def fnNewGroupsOneMoreValueGoesToOneGroupSpec : ChangeSpec := { name := "fnNewGroupsOneMoreValueGoesToOneGroup", fn := fun _ => fun
  | [d] => { results := [.lit (.bool true)], args := [d] }
  | _ => none }
def fnNewGroupsOneMoreValueGoesToOneGroupRow : OpenClaim := { program := "qxb6614923a", sum := "96a7087e1398552454125743e47168bf0745abb6f4f1852631fef0120f45670c", func := "example.com/strisk/strisk/zzlaws_engine_b1.FnNewGroupsOneMoreValueGoesToOneGroup", spec := "fnNewGroupsOneMoreValueGoesToOneGroup", apart := false }
def FnNewGroupsOneMoreValueGoesToOneGroupSaid : Prop := fnNewGroupsOneMoreValueGoesToOneGroupRow.holds Try.pinned (OpenSpec.ofChange fnNewGroupsOneMoreValueGoesToOneGroupSpec)

/-- ITS FALSE NEIGHBOUR: 'it returns false'. Refute it at one input. -/
def fnNewGroupsOneMoreValueGoesToOneGroupWrong : ChangeSpec := { name := "fnNewGroupsOneMoreValueGoesToOneGroup", fn := fun _ => fun
  | [d] => { results := [.lit (.bool false)], args := [d] }
  | _ => none }
def FnNewGroupsOneMoreValueGoesToOneGroupWrongFalsely : Prop := fnNewGroupsOneMoreValueGoesToOneGroupRow.holds Try.pinned (OpenSpec.ofChange fnNewGroupsOneMoreValueGoesToOneGroupWrong)

/-- 'zzlaws_engine_b1.FnNewGroupsEveryGroupGainsOne': WHATEVER THE INPUT: true; the input reads as it did. -/
def fnNewGroupsEveryGroupGainsOneSpec : ChangeSpec := { name := "fnNewGroupsEveryGroupGainsOne", fn := fun _ => fun
  | [d] => { results := [.lit (.bool true)], args := [d] }
  | _ => none }
def fnNewGroupsEveryGroupGainsOneRow : OpenClaim := { program := "qxb6614923a", sum := "96a7087e1398552454125743e47168bf0745abb6f4f1852631fef0120f45670c", func := "example.com/strisk/strisk/zzlaws_engine_b1.FnNewGroupsEveryGroupGainsOne", spec := "fnNewGroupsEveryGroupGainsOne", apart := false }
def FnNewGroupsEveryGroupGainsOneSaid : Prop := fnNewGroupsEveryGroupGainsOneRow.holds Try.pinned (OpenSpec.ofChange fnNewGroupsEveryGroupGainsOneSpec)

/-- ITS FALSE NEIGHBOUR: 'it returns false'. Refute it at one input. -/
def fnNewGroupsEveryGroupGainsOneWrong : ChangeSpec := { name := "fnNewGroupsEveryGroupGainsOne", fn := fun _ => fun
  | [d] => { results := [.lit (.bool false)], args := [d] }
  | _ => none }
def FnNewGroupsEveryGroupGainsOneWrongFalsely : Prop := fnNewGroupsEveryGroupGainsOneRow.holds Try.pinned (OpenSpec.ofChange fnNewGroupsEveryGroupGainsOneWrong)

end Rows
end Go.Proofs.Qxb6614923a
