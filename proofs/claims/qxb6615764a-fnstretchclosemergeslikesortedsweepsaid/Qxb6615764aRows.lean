/-
  No cell of these rows narrows 'for every input' (looked for: loops, veiled, ifaces, maps, wideKeys, modest, calm, conditions, laid).
  DERIVED. THE GIVEN ROWS OF THIS SEAT. 2 by the template 'for every input the law returns true; each argument reads behind the call as it read before'; 0 by the template 'total and deterministic' (their statements: Qxb6615764aTotals.lean).
  GIVEN WITH THE SEED: the statements are not yours to turn. If you find one false, say at which input.
  Laid BY PROGRAM, IN A SANDBOX (cutbox-rows.mjs): the forced cells as the released guide's own fill.sh prints them over the translation 0a387a6e7dd2808e… (all of the seat's roots in one cut). By AI agents, Wed Nov 11 2026. No macro, syntax, notation, axiom, sorry.
-/
import Derived.Test.Qxb6615764aChecked
import GoSem.Claim
import GoSem.ClaimJoined
import GoSem.ClaimMapViews
import Derived.JoinedTies
import Derived.KernelRfl
namespace Go.Proofs.Qxb6615764a
/- THE CELL 'sum', in the pinned program and in every row, IS THE sha256 OF THE DUMP (.gsa) THAT Qxb6615764aProg.lean LOADS. Nothing in Lean hashes anything: it is a label: what it is worth is what the hold of that sum in a sandbox is worth. -/
noncomputable def Try.pinned : Pinned := { name := "qxb6615764a", sum := "0a387a6e7dd2808e0df057b326c00285d6df58ef0933a2d9b048b0d2de7beb28", checked := Try.checked }
namespace Rows
def none {H : Type} : Left H := { results := [], args := [] }

/-- 'zzlaws_root_b1.FnStretchCloseMergesLikeSortedSweep': WHATEVER THE INPUT: true; the input reads as it did. -/
def fnStretchCloseMergesLikeSortedSweepSpec : ChangeSpec := { name := "fnStretchCloseMergesLikeSortedSweep", fn := fun _ => fun
  | [d] => { results := [.lit (.bool true)], args := [d] }
  | _ => none }
def fnStretchCloseMergesLikeSortedSweepRow : OpenClaim := { program := "qxb6615764a", sum := "0a387a6e7dd2808e0df057b326c00285d6df58ef0933a2d9b048b0d2de7beb28", func := "example.com/ordinal/ordinal/zzlaws_root_b1.FnStretchCloseMergesLikeSortedSweep", spec := "fnStretchCloseMergesLikeSortedSweep", inPlace := ["internal/bytealg.Compare", "slices.overlaps[*example.com/ordinal/ordinal.keyRange]", "slices.overlaps[*example.com/ordinal/ordinal/internal/btree.node[*example.com/ordinal/ordinal.keyRange]]"], unfollowed := true, recurses := true, apart := false }
def FnStretchCloseMergesLikeSortedSweepSaid : Prop := fnStretchCloseMergesLikeSortedSweepRow.holds Try.pinned (OpenSpec.ofChange fnStretchCloseMergesLikeSortedSweepSpec)

/-- ITS FALSE NEIGHBOUR: 'it returns false'. Refute it at one input. -/
def fnStretchCloseMergesLikeSortedSweepWrong : ChangeSpec := { name := "fnStretchCloseMergesLikeSortedSweep", fn := fun _ => fun
  | [d] => { results := [.lit (.bool false)], args := [d] }
  | _ => none }
def FnStretchCloseMergesLikeSortedSweepWrongFalsely : Prop := fnStretchCloseMergesLikeSortedSweepRow.holds Try.pinned (OpenSpec.ofChange fnStretchCloseMergesLikeSortedSweepWrong)

/-- 'zzlaws_root_b1.FnStretchCloseOrderFreeCoversAndSeparates': WHATEVER THE INPUT: true; the input reads as it did. -/
def fnStretchCloseOrderFreeCoversAndSeparatesSpec : ChangeSpec := { name := "fnStretchCloseOrderFreeCoversAndSeparates", fn := fun _ => fun
  | [d] => { results := [.lit (.bool true)], args := [d] }
  | _ => none }
def fnStretchCloseOrderFreeCoversAndSeparatesRow : OpenClaim := { program := "qxb6615764a", sum := "0a387a6e7dd2808e0df057b326c00285d6df58ef0933a2d9b048b0d2de7beb28", func := "example.com/ordinal/ordinal/zzlaws_root_b1.FnStretchCloseOrderFreeCoversAndSeparates", spec := "fnStretchCloseOrderFreeCoversAndSeparates", inPlace := ["internal/bytealg.Compare", "slices.overlaps[*example.com/ordinal/ordinal.keyRange]", "slices.overlaps[*example.com/ordinal/ordinal/internal/btree.node[*example.com/ordinal/ordinal.keyRange]]"], unfollowed := true, recurses := true, apart := false }
def FnStretchCloseOrderFreeCoversAndSeparatesSaid : Prop := fnStretchCloseOrderFreeCoversAndSeparatesRow.holds Try.pinned (OpenSpec.ofChange fnStretchCloseOrderFreeCoversAndSeparatesSpec)

/-- ITS FALSE NEIGHBOUR: 'it returns false'. Refute it at one input. -/
def fnStretchCloseOrderFreeCoversAndSeparatesWrong : ChangeSpec := { name := "fnStretchCloseOrderFreeCoversAndSeparates", fn := fun _ => fun
  | [d] => { results := [.lit (.bool false)], args := [d] }
  | _ => none }
def FnStretchCloseOrderFreeCoversAndSeparatesWrongFalsely : Prop := fnStretchCloseOrderFreeCoversAndSeparatesRow.holds Try.pinned (OpenSpec.ofChange fnStretchCloseOrderFreeCoversAndSeparatesWrong)

end Rows
end Go.Proofs.Qxb6615764a
