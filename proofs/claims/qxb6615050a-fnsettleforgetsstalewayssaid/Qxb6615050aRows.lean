/-
  No cell of these rows narrows 'for every input' (looked for: loops, veiled, ifaces, maps, wideKeys, modest, calm, conditions, laid).
  DERIVED. THE GIVEN ROWS OF THIS SEAT. 6 by the template 'for every input the law returns true; each argument reads behind the call as it read before'; 0 by the template 'total and deterministic' (their statements: Qxb6615050aTotals.lean).
  GIVEN WITH THE SEED: the statements are not yours to turn. If you find one false, say at which input.
  Laid BY PROGRAM, IN A SANDBOX (cutbox-rows.mjs): the forced cells as the released guide's own fill.sh prints them over the translation bcd30d53c1628981… (all of the seat's roots in one cut). By AI agents, Wed Nov 11 2026. No macro, syntax, notation, axiom, sorry.
-/
import Derived.Test.Qxb6615050aChecked
import GoSem.Claim
import GoSem.ClaimJoined
import GoSem.ClaimMapViews
import Derived.JoinedTies
import Derived.KernelRfl
namespace Go.Proofs.Qxb6615050a
/- THE CELL 'sum', in the pinned program and in every row, IS THE sha256 OF THE DUMP (.gsa) THAT Qxb6615050aProg.lean LOADS. Nothing in Lean hashes anything: it is a label: what it is worth is what the hold of that sum in a sandbox is worth. -/
noncomputable def Try.pinned : Pinned := { name := "qxb6615050a", sum := "bcd30d53c1628981217d09fdc0edd894f54bf5e44f13ea964be56fa337ad5eb5", checked := Try.checked }
namespace Rows
def none {H : Type} : Left H := { results := [], args := [] }

/-- 'zzlaws_root_b1.FnBytesBelowOnlyTheLowestSlashCounts': WHATEVER THE INPUT: true; the input reads as it did. -/
def fnBytesBelowOnlyTheLowestSlashCountsSpec : ChangeSpec := { name := "fnBytesBelowOnlyTheLowestSlashCounts", fn := fun _ => fun
  | [d1, d2] => { results := [.lit (.bool true)], args := [d1, d2] }
  | _ => none }
def fnBytesBelowOnlyTheLowestSlashCountsRow : OpenClaim := { program := "qxb6615050a", sum := "bcd30d53c1628981217d09fdc0edd894f54bf5e44f13ea964be56fa337ad5eb5", func := "example.com/halyard/zzlaws_root_b1.FnBytesBelowOnlyTheLowestSlashCounts", spec := "fnBytesBelowOnlyTheLowestSlashCounts", apart := false }
def FnBytesBelowOnlyTheLowestSlashCountsSaid : Prop := fnBytesBelowOnlyTheLowestSlashCountsRow.holds Try.pinned (OpenSpec.ofChange fnBytesBelowOnlyTheLowestSlashCountsSpec)

/-- ITS FALSE NEIGHBOUR: 'it returns false'. Refute it at one input. -/
def fnBytesBelowOnlyTheLowestSlashCountsWrong : ChangeSpec := { name := "fnBytesBelowOnlyTheLowestSlashCounts", fn := fun _ => fun
  | [d1, d2] => { results := [.lit (.bool false)], args := [d1, d2] }
  | _ => none }
def FnBytesBelowOnlyTheLowestSlashCountsWrongFalsely : Prop := fnBytesBelowOnlyTheLowestSlashCountsRow.holds Try.pinned (OpenSpec.ofChange fnBytesBelowOnlyTheLowestSlashCountsWrong)

/-- 'zzlaws_root_b1.FnBytesBelowOneByteHigherAddsAByte': WHATEVER THE INPUT: true; the input reads as it did. -/
def fnBytesBelowOneByteHigherAddsAByteSpec : ChangeSpec := { name := "fnBytesBelowOneByteHigherAddsAByte", fn := fun _ => fun
  | [d] => { results := [.lit (.bool true)], args := [d] }
  | _ => none }
def fnBytesBelowOneByteHigherAddsAByteRow : OpenClaim := { program := "qxb6615050a", sum := "bcd30d53c1628981217d09fdc0edd894f54bf5e44f13ea964be56fa337ad5eb5", func := "example.com/halyard/zzlaws_root_b1.FnBytesBelowOneByteHigherAddsAByte", spec := "fnBytesBelowOneByteHigherAddsAByte", apart := false }
def FnBytesBelowOneByteHigherAddsAByteSaid : Prop := fnBytesBelowOneByteHigherAddsAByteRow.holds Try.pinned (OpenSpec.ofChange fnBytesBelowOneByteHigherAddsAByteSpec)

/-- ITS FALSE NEIGHBOUR: 'it returns false'. Refute it at one input. -/
def fnBytesBelowOneByteHigherAddsAByteWrong : ChangeSpec := { name := "fnBytesBelowOneByteHigherAddsAByte", fn := fun _ => fun
  | [d] => { results := [.lit (.bool false)], args := [d] }
  | _ => none }
def FnBytesBelowOneByteHigherAddsAByteWrongFalsely : Prop := fnBytesBelowOneByteHigherAddsAByteRow.holds Try.pinned (OpenSpec.ofChange fnBytesBelowOneByteHigherAddsAByteWrong)

/-- 'zzlaws_root_b1.FnSettleForgetsStaleWays': WHATEVER THE INPUT: true; the input reads as it did. -/
def fnSettleForgetsStaleWaysSpec : ChangeSpec := { name := "fnSettleForgetsStaleWays", fn := fun _ => fun
  | [d1, d2, d3, d4] => { results := [.lit (.bool true)], args := [d1, d2, d3, d4] }
  | _ => none }
def fnSettleForgetsStaleWaysRow : OpenClaim := { program := "qxb6615050a", sum := "bcd30d53c1628981217d09fdc0edd894f54bf5e44f13ea964be56fa337ad5eb5", func := "example.com/halyard/zzlaws_root_b1.FnSettleForgetsStaleWays", spec := "fnSettleForgetsStaleWays", apart := false }
def FnSettleForgetsStaleWaysSaid : Prop := fnSettleForgetsStaleWaysRow.holds Try.pinned (OpenSpec.ofChange fnSettleForgetsStaleWaysSpec)

/-- ITS FALSE NEIGHBOUR: 'it returns false'. Refute it at one input. -/
def fnSettleForgetsStaleWaysWrong : ChangeSpec := { name := "fnSettleForgetsStaleWays", fn := fun _ => fun
  | [d1, d2, d3, d4] => { results := [.lit (.bool false)], args := [d1, d2, d3, d4] }
  | _ => none }
def FnSettleForgetsStaleWaysWrongFalsely : Prop := fnSettleForgetsStaleWaysRow.holds Try.pinned (OpenSpec.ofChange fnSettleForgetsStaleWaysWrong)

/-- 'zzlaws_root_b1.FnSettleScriptAgreesWithFreshNode': WHATEVER THE INPUT: true; the input reads as it did. -/
def fnSettleScriptAgreesWithFreshNodeSpec : ChangeSpec := { name := "fnSettleScriptAgreesWithFreshNode", fn := fun _ => fun
  | [d1, d2] => { results := [.lit (.bool true)], args := [d1, d2] }
  | _ => none }
def fnSettleScriptAgreesWithFreshNodeRow : OpenClaim := { program := "qxb6615050a", sum := "bcd30d53c1628981217d09fdc0edd894f54bf5e44f13ea964be56fa337ad5eb5", func := "example.com/halyard/zzlaws_root_b1.FnSettleScriptAgreesWithFreshNode", spec := "fnSettleScriptAgreesWithFreshNode", apart := false }
def FnSettleScriptAgreesWithFreshNodeSaid : Prop := fnSettleScriptAgreesWithFreshNodeRow.holds Try.pinned (OpenSpec.ofChange fnSettleScriptAgreesWithFreshNodeSpec)

/-- ITS FALSE NEIGHBOUR: 'it returns false'. Refute it at one input. -/
def fnSettleScriptAgreesWithFreshNodeWrong : ChangeSpec := { name := "fnSettleScriptAgreesWithFreshNode", fn := fun _ => fun
  | [d1, d2] => { results := [.lit (.bool false)], args := [d1, d2] }
  | _ => none }
def FnSettleScriptAgreesWithFreshNodeWrongFalsely : Prop := fnSettleScriptAgreesWithFreshNodeRow.holds Try.pinned (OpenSpec.ofChange fnSettleScriptAgreesWithFreshNodeWrong)

/-- 'zzlaws_root_b1.FnQuickTreeIsTheMethodsOwnTree': WHATEVER THE INPUT: true; the input reads as it did. -/
def fnQuickTreeIsTheMethodsOwnTreeSpec : ChangeSpec := { name := "fnQuickTreeIsTheMethodsOwnTree", fn := fun _ => fun
  | [d1, d2, d3] => { results := [.lit (.bool true)], args := [d1, d2, d3] }
  | _ => none }
def fnQuickTreeIsTheMethodsOwnTreeRow : OpenClaim := { program := "qxb6615050a", sum := "bcd30d53c1628981217d09fdc0edd894f54bf5e44f13ea964be56fa337ad5eb5", func := "example.com/halyard/zzlaws_root_b1.FnQuickTreeIsTheMethodsOwnTree", spec := "fnQuickTreeIsTheMethodsOwnTree", apart := false }
def FnQuickTreeIsTheMethodsOwnTreeSaid : Prop := fnQuickTreeIsTheMethodsOwnTreeRow.holds Try.pinned (OpenSpec.ofChange fnQuickTreeIsTheMethodsOwnTreeSpec)

/-- ITS FALSE NEIGHBOUR: 'it returns false'. Refute it at one input. -/
def fnQuickTreeIsTheMethodsOwnTreeWrong : ChangeSpec := { name := "fnQuickTreeIsTheMethodsOwnTree", fn := fun _ => fun
  | [d1, d2, d3] => { results := [.lit (.bool false)], args := [d1, d2, d3] }
  | _ => none }
def FnQuickTreeIsTheMethodsOwnTreeWrongFalsely : Prop := fnQuickTreeIsTheMethodsOwnTreeRow.holds Try.pinned (OpenSpec.ofChange fnQuickTreeIsTheMethodsOwnTreeWrong)

/-- 'zzlaws_root_b1.FnQuickTreeSeparatesMethods': WHATEVER THE INPUT: true; the input reads as it did. -/
def fnQuickTreeSeparatesMethodsSpec : ChangeSpec := { name := "fnQuickTreeSeparatesMethods", fn := fun _ => fun
  | [d1, d2, d3] => { results := [.lit (.bool true)], args := [d1, d2, d3] }
  | _ => none }
def fnQuickTreeSeparatesMethodsRow : OpenClaim := { program := "qxb6615050a", sum := "bcd30d53c1628981217d09fdc0edd894f54bf5e44f13ea964be56fa337ad5eb5", func := "example.com/halyard/zzlaws_root_b1.FnQuickTreeSeparatesMethods", spec := "fnQuickTreeSeparatesMethods", apart := false }
def FnQuickTreeSeparatesMethodsSaid : Prop := fnQuickTreeSeparatesMethodsRow.holds Try.pinned (OpenSpec.ofChange fnQuickTreeSeparatesMethodsSpec)

/-- ITS FALSE NEIGHBOUR: 'it returns false'. Refute it at one input. -/
def fnQuickTreeSeparatesMethodsWrong : ChangeSpec := { name := "fnQuickTreeSeparatesMethods", fn := fun _ => fun
  | [d1, d2, d3] => { results := [.lit (.bool false)], args := [d1, d2, d3] }
  | _ => none }
def FnQuickTreeSeparatesMethodsWrongFalsely : Prop := fnQuickTreeSeparatesMethodsRow.holds Try.pinned (OpenSpec.ofChange fnQuickTreeSeparatesMethodsWrong)

end Rows
end Go.Proofs.Qxb6615050a
