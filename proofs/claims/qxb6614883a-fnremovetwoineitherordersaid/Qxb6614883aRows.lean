/-
  No cell of these rows narrows 'for every input' (looked for: loops, veiled, ifaces, maps, wideKeys, modest, calm, conditions, laid).
  DERIVED. THE GIVEN ROWS OF THIS SEAT. 4 by the template 'for every input the law returns true; each argument reads behind the call as it read before'; 0 by the template 'total and deterministic' (their statements: Qxb6614883aTotals.lean).
  GIVEN WITH THE SEED: the statements are not yours to turn. If you find one false, say at which input.
  Laid BY PROGRAM, IN A SANDBOX (cutbox-rows.mjs): the forced cells as the released guide's own fill.sh prints them over the translation 317b10c961e17949… (all of the seat's roots in one cut). By AI agents, Wed Nov 11 2026. No macro, syntax, notation, axiom, sorry.
-/
import Derived.Test.Qxb6614883aChecked
import GoSem.Claim
import GoSem.ClaimJoined
import GoSem.ClaimMapViews
import Derived.JoinedTies
import Derived.KernelRfl
namespace Go.Proofs.Qxb6614883a
/- THE CELL 'sum', in the pinned program and in every row, IS THE sha256 OF THE DUMP (.gsa) THAT Qxb6614883aProg.lean LOADS. Nothing in Lean hashes anything: it is a label: what it is worth is what the hold of that sum in a sandbox is worth. -/
noncomputable def Try.pinned : Pinned := { name := "qxb6614883a", sum := "317b10c961e1794908e369555b4668129620af9f0d184821f6a4aeae9819c281", checked := Try.checked }
namespace Rows
def none {H : Type} : Left H := { results := [], args := [] }

/-- 'zzlaws_root_b1.FnRemoveLeavesTableAsIfNeverInserted': WHATEVER THE INPUT: true; the input reads as it did. -/
def fnRemoveLeavesTableAsIfNeverInsertedSpec : ChangeSpec := { name := "fnRemoveLeavesTableAsIfNeverInserted", fn := fun _ => fun
  | [d1, d2, d3] => { results := [.lit (.bool true)], args := [d1, d2, d3] }
  | _ => none }
def fnRemoveLeavesTableAsIfNeverInsertedRow : OpenClaim := { program := "qxb6614883a", sum := "317b10c961e1794908e369555b4668129620af9f0d184821f6a4aeae9819c281", func := "example.com/sluicegate/sluicegate/zzlaws_root_b1.FnRemoveLeavesTableAsIfNeverInserted", spec := "fnRemoveLeavesTableAsIfNeverInserted", unfollowed := true, recurses := true, apart := false }
def FnRemoveLeavesTableAsIfNeverInsertedSaid : Prop := fnRemoveLeavesTableAsIfNeverInsertedRow.holds Try.pinned (OpenSpec.ofChange fnRemoveLeavesTableAsIfNeverInsertedSpec)

/-- ITS FALSE NEIGHBOUR: 'it returns false'. Refute it at one input. -/
def fnRemoveLeavesTableAsIfNeverInsertedWrong : ChangeSpec := { name := "fnRemoveLeavesTableAsIfNeverInserted", fn := fun _ => fun
  | [d1, d2, d3] => { results := [.lit (.bool false)], args := [d1, d2, d3] }
  | _ => none }
def FnRemoveLeavesTableAsIfNeverInsertedWrongFalsely : Prop := fnRemoveLeavesTableAsIfNeverInsertedRow.holds Try.pinned (OpenSpec.ofChange fnRemoveLeavesTableAsIfNeverInsertedWrong)

/-- 'zzlaws_root_b1.FnRemoveTwoInEitherOrder': WHATEVER THE INPUT: true; the input reads as it did. -/
def fnRemoveTwoInEitherOrderSpec : ChangeSpec := { name := "fnRemoveTwoInEitherOrder", fn := fun _ => fun
  | [d1, d2, d3, d4] => { results := [.lit (.bool true)], args := [d1, d2, d3, d4] }
  | _ => none }
def fnRemoveTwoInEitherOrderRow : OpenClaim := { program := "qxb6614883a", sum := "317b10c961e1794908e369555b4668129620af9f0d184821f6a4aeae9819c281", func := "example.com/sluicegate/sluicegate/zzlaws_root_b1.FnRemoveTwoInEitherOrder", spec := "fnRemoveTwoInEitherOrder", unfollowed := true, recurses := true, apart := false }
def FnRemoveTwoInEitherOrderSaid : Prop := fnRemoveTwoInEitherOrderRow.holds Try.pinned (OpenSpec.ofChange fnRemoveTwoInEitherOrderSpec)

/-- ITS FALSE NEIGHBOUR: 'it returns false'. Refute it at one input. -/
def fnRemoveTwoInEitherOrderWrong : ChangeSpec := { name := "fnRemoveTwoInEitherOrder", fn := fun _ => fun
  | [d1, d2, d3, d4] => { results := [.lit (.bool false)], args := [d1, d2, d3, d4] }
  | _ => none }
def FnRemoveTwoInEitherOrderWrongFalsely : Prop := fnRemoveTwoInEitherOrderRow.holds Try.pinned (OpenSpec.ofChange fnRemoveTwoInEitherOrderWrong)

/-- 'zzlaws_root_b1.FnFixedRemainingCountsDown': WHATEVER THE INPUT: true; the input reads as it did. -/
def fnFixedRemainingCountsDownSpec : ChangeSpec := { name := "fnFixedRemainingCountsDown", fn := fun _ => fun
  | [d1, d2, d3, d4, d5] => { results := [.lit (.bool true)], args := [d1, d2, d3, d4, d5] }
  | _ => none }
def fnFixedRemainingCountsDownRow : OpenClaim := { program := "qxb6614883a", sum := "317b10c961e1794908e369555b4668129620af9f0d184821f6a4aeae9819c281", func := "example.com/sluicegate/sluicegate/zzlaws_root_b1.FnFixedRemainingCountsDown", spec := "fnFixedRemainingCountsDown", apart := false }
def FnFixedRemainingCountsDownSaid : Prop := fnFixedRemainingCountsDownRow.holds Try.pinned (OpenSpec.ofChange fnFixedRemainingCountsDownSpec)

/-- ITS FALSE NEIGHBOUR: 'it returns false'. Refute it at one input. -/
def fnFixedRemainingCountsDownWrong : ChangeSpec := { name := "fnFixedRemainingCountsDown", fn := fun _ => fun
  | [d1, d2, d3, d4, d5] => { results := [.lit (.bool false)], args := [d1, d2, d3, d4, d5] }
  | _ => none }
def FnFixedRemainingCountsDownWrongFalsely : Prop := fnFixedRemainingCountsDownRow.holds Try.pinned (OpenSpec.ofChange fnFixedRemainingCountsDownWrong)

/-- 'zzlaws_root_b1.FnFixedRemainingReadsOnlyQuotaAndUsed': WHATEVER THE INPUT: true; the input reads as it did. -/
def fnFixedRemainingReadsOnlyQuotaAndUsedSpec : ChangeSpec := { name := "fnFixedRemainingReadsOnlyQuotaAndUsed", fn := fun _ => fun
  | [d1, d2, d3, d4, d5, d6, d7, d8] => { results := [.lit (.bool true)], args := [d1, d2, d3, d4, d5, d6, d7, d8] }
  | _ => none }
def fnFixedRemainingReadsOnlyQuotaAndUsedRow : OpenClaim := { program := "qxb6614883a", sum := "317b10c961e1794908e369555b4668129620af9f0d184821f6a4aeae9819c281", func := "example.com/sluicegate/sluicegate/zzlaws_root_b1.FnFixedRemainingReadsOnlyQuotaAndUsed", spec := "fnFixedRemainingReadsOnlyQuotaAndUsed", apart := false }
def FnFixedRemainingReadsOnlyQuotaAndUsedSaid : Prop := fnFixedRemainingReadsOnlyQuotaAndUsedRow.holds Try.pinned (OpenSpec.ofChange fnFixedRemainingReadsOnlyQuotaAndUsedSpec)

/-- ITS FALSE NEIGHBOUR: 'it returns false'. Refute it at one input. -/
def fnFixedRemainingReadsOnlyQuotaAndUsedWrong : ChangeSpec := { name := "fnFixedRemainingReadsOnlyQuotaAndUsed", fn := fun _ => fun
  | [d1, d2, d3, d4, d5, d6, d7, d8] => { results := [.lit (.bool false)], args := [d1, d2, d3, d4, d5, d6, d7, d8] }
  | _ => none }
def FnFixedRemainingReadsOnlyQuotaAndUsedWrongFalsely : Prop := fnFixedRemainingReadsOnlyQuotaAndUsedRow.holds Try.pinned (OpenSpec.ofChange fnFixedRemainingReadsOnlyQuotaAndUsedWrong)

end Rows
end Go.Proofs.Qxb6614883a
