/-
  No cell of these rows narrows 'for every input' (looked for: loops, veiled, ifaces, maps, wideKeys, modest, calm, conditions, laid).
  DERIVED. THE GIVEN ROWS OF THIS SEAT. 2 by the template 'for every input the law returns true; each argument reads behind the call as it read before'; 0 by the template 'total and deterministic' (their statements: Qxb6614768aTotals.lean).
  GIVEN WITH THE SEED: the statements are not yours to turn. If you find one false, say at which input.
  Laid BY PROGRAM, IN A SANDBOX (cutbox-rows.mjs): the forced cells as the released guide's own fill.sh prints them over the translation 80710eb722a7a878… (all of the seat's roots in one cut). By AI agents, Wed Nov 11 2026. No macro, syntax, notation, axiom, sorry.
-/
import Derived.Test.Qxb6614768aChecked
import GoSem.Claim
import GoSem.ClaimJoined
import GoSem.ClaimMapViews
import Derived.JoinedTies
import Derived.KernelRfl
namespace Go.Proofs.Qxb6614768a
/- THE CELL 'sum', in the pinned program and in every row, IS THE sha256 OF THE DUMP (.gsa) THAT Qxb6614768aProg.lean LOADS. Nothing in Lean hashes anything: it is a label: what it is worth is what the hold of that sum in a sandbox is worth. -/
noncomputable def Try.pinned : Pinned := { name := "qxb6614768a", sum := "80710eb722a7a87835ccd454b28285ecc3cccc595fdde78e2e6cc36276b5dd24", checked := Try.checked }
namespace Rows
def none {H : Type} : Left H := { results := [], args := [] }

/-- 'zzlaws_internal_protocol_b1.FnBarrenExact': WHATEVER THE INPUT: true; the input reads as it did. -/
def fnBarrenExactSpec : ChangeSpec := { name := "fnBarrenExact", fn := fun _ => fun
  | [d1, d2, d3, d4, d5, d6] => { results := [.lit (.bool true)], args := [d1, d2, d3, d4, d5, d6] }
  | _ => none }
def fnBarrenExactRow : OpenClaim := { program := "qxb6614768a", sum := "80710eb722a7a87835ccd454b28285ecc3cccc595fdde78e2e6cc36276b5dd24", func := "example.com/stratoring/stratoring/zzlaws_internal_protocol_b1.FnBarrenExact", spec := "fnBarrenExact", apart := false }
def FnBarrenExactSaid : Prop := fnBarrenExactRow.holds Try.pinned (OpenSpec.ofChange fnBarrenExactSpec)

/-- ITS FALSE NEIGHBOUR: 'it returns false'. Refute it at one input. -/
def fnBarrenExactWrong : ChangeSpec := { name := "fnBarrenExact", fn := fun _ => fun
  | [d1, d2, d3, d4, d5, d6] => { results := [.lit (.bool false)], args := [d1, d2, d3, d4, d5, d6] }
  | _ => none }
def FnBarrenExactWrongFalsely : Prop := fnBarrenExactRow.holds Try.pinned (OpenSpec.ofChange fnBarrenExactWrong)

/-- 'zzlaws_internal_protocol_b1.FnBarrenSplitRings': WHATEVER THE INPUT: true; the input reads as it did. -/
def fnBarrenSplitRingsSpec : ChangeSpec := { name := "fnBarrenSplitRings", fn := fun _ => fun
  | [d1, d2, d3, d4, d5, d6, d7] => { results := [.lit (.bool true)], args := [d1, d2, d3, d4, d5, d6, d7] }
  | _ => none }
def fnBarrenSplitRingsRow : OpenClaim := { program := "qxb6614768a", sum := "80710eb722a7a87835ccd454b28285ecc3cccc595fdde78e2e6cc36276b5dd24", func := "example.com/stratoring/stratoring/zzlaws_internal_protocol_b1.FnBarrenSplitRings", spec := "fnBarrenSplitRings", apart := false }
def FnBarrenSplitRingsSaid : Prop := fnBarrenSplitRingsRow.holds Try.pinned (OpenSpec.ofChange fnBarrenSplitRingsSpec)

/-- ITS FALSE NEIGHBOUR: 'it returns false'. Refute it at one input. -/
def fnBarrenSplitRingsWrong : ChangeSpec := { name := "fnBarrenSplitRings", fn := fun _ => fun
  | [d1, d2, d3, d4, d5, d6, d7] => { results := [.lit (.bool false)], args := [d1, d2, d3, d4, d5, d6, d7] }
  | _ => none }
def FnBarrenSplitRingsWrongFalsely : Prop := fnBarrenSplitRingsRow.holds Try.pinned (OpenSpec.ofChange fnBarrenSplitRingsWrong)

end Rows
end Go.Proofs.Qxb6614768a
