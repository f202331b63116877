/-
  NARROWER THAN 'FOR EVERY INPUT', by the rows' own cells (each row's printed sentence says how): FnBootstrapSplitAgrees: laid · FnBootstrapKeepsEarlierEntries: laid.
  DERIVED. THE GIVEN ROWS OF THIS SEAT. 2 by the template 'for every input the law returns true; each argument reads behind the call as it read before'; 0 by the template 'total and deterministic' (their statements: Qxb6608884aDoorTotals.lean).
  GIVEN WITH THE SEED: the statements are not yours to turn. If you find one false, say at which input.
  Laid BY PROGRAM, IN A SANDBOX (cutbox-rows.mjs): the forced cells as the released guide's own fill.sh prints them over the translation 89746ba014e469a4… (all of the seat's roots in one cut). By AI agents, Wed Nov 11 2026. No macro, syntax, notation, axiom, sorry.
-/
import Derived.Test.Qxb6608884aDoorChecked
import GoSem.Claim
import GoSem.ClaimJoined
import GoSem.ClaimMapViews
import Derived.JoinedTies
import Derived.KernelRfl
namespace Go.Proofs.Qxb6608884aDoor
/- THE CELL 'sum', in the pinned program and in every row, IS THE sha256 OF THE DUMP (.gsa) THAT Qxb6608884aDoorProg.lean LOADS. Nothing in Lean hashes anything: it is a label: what it is worth is what the hold of that sum in a sandbox is worth. -/
noncomputable def Tryd.pinned : Pinned := { name := "qxb6608884adoor", sum := "89746ba014e469a4230971e848877ae906fc6fe9eb0498b637dda29a8d8e1fc5", checked := Tryd.checked }
namespace Rows
def none {H : Type} : Left H := { results := [], args := [] }

/- WHAT THE LISTED PACKAGE-LEVEL VARIABLES READ AS WHEN THE CALL BEGINS. Each datum BY PROGRAM (the guide's laid-datum.mjs) off the statement by which the dump's own 'gosem.cut.vars' lays the variable. In a bare row this is a premise. The card (Qxb6608884aDoorCards.lean) ties it to the program's text. -/
def laid_net_netip_z4 {H : Type} : DataW H := .agg [.ptr (.agg [.lit (.bool false), .lit (.string [])])]
def laid_net_netip_z6noz {H : Type} : DataW H := .agg [.ptr (.agg [.lit (.bool true), .lit (.string [])])]

/-- 'zzlaws_root_b1.FnBootstrapSplitAgrees': WHATEVER THE INPUT: true; the input reads as it did. -/
def fnBootstrapSplitAgreesSpec : ChangeSpec := { name := "fnBootstrapSplitAgrees", fn := fun _ => fun
  | [d1, d2, d3, d4] => { results := [.lit (.bool true)], args := [d1, d2, d3, d4] }
  | _ => none }
def fnBootstrapSplitAgreesRow : OpenClaim := { program := "qxb6608884adoor", sum := "89746ba014e469a4230971e848877ae906fc6fe9eb0498b637dda29a8d8e1fc5", func := "example.com/xorbit/xorbit/zzlaws_root_b1.FnBootstrapSplitAgrees", spec := "fnBootstrapSplitAgrees", named := ["net/netip.z6noz", "net/netip.z4", "encoding/binary.BigEndian"], apart := false, laid := [("net/netip.z4", laid_net_netip_z4), ("net/netip.z6noz", laid_net_netip_z6noz)] }
def FnBootstrapSplitAgreesSaid : Prop := fnBootstrapSplitAgreesRow.holds Tryd.pinned (OpenSpec.ofChange fnBootstrapSplitAgreesSpec)

/-- ITS FALSE NEIGHBOUR: 'it returns false'. Refute it at one input. -/
def fnBootstrapSplitAgreesWrong : ChangeSpec := { name := "fnBootstrapSplitAgrees", fn := fun _ => fun
  | [d1, d2, d3, d4] => { results := [.lit (.bool false)], args := [d1, d2, d3, d4] }
  | _ => none }
def FnBootstrapSplitAgreesWrongFalsely : Prop := fnBootstrapSplitAgreesRow.holds Tryd.pinned (OpenSpec.ofChange fnBootstrapSplitAgreesWrong)

/-- 'zzlaws_root_b1.FnBootstrapKeepsEarlierEntries': WHATEVER THE INPUT: true; the input reads as it did. -/
def fnBootstrapKeepsEarlierEntriesSpec : ChangeSpec := { name := "fnBootstrapKeepsEarlierEntries", fn := fun _ => fun
  | [d1, d2, d3, d4] => { results := [.lit (.bool true)], args := [d1, d2, d3, d4] }
  | _ => none }
def fnBootstrapKeepsEarlierEntriesRow : OpenClaim := { program := "qxb6608884adoor", sum := "89746ba014e469a4230971e848877ae906fc6fe9eb0498b637dda29a8d8e1fc5", func := "example.com/xorbit/xorbit/zzlaws_root_b1.FnBootstrapKeepsEarlierEntries", spec := "fnBootstrapKeepsEarlierEntries", named := ["encoding/binary.BigEndian", "net/netip.z6noz", "net/netip.z4"], apart := false, laid := [("net/netip.z4", laid_net_netip_z4), ("net/netip.z6noz", laid_net_netip_z6noz)] }
def FnBootstrapKeepsEarlierEntriesSaid : Prop := fnBootstrapKeepsEarlierEntriesRow.holds Tryd.pinned (OpenSpec.ofChange fnBootstrapKeepsEarlierEntriesSpec)

/-- ITS FALSE NEIGHBOUR: 'it returns false'. Refute it at one input. -/
def fnBootstrapKeepsEarlierEntriesWrong : ChangeSpec := { name := "fnBootstrapKeepsEarlierEntries", fn := fun _ => fun
  | [d1, d2, d3, d4] => { results := [.lit (.bool false)], args := [d1, d2, d3, d4] }
  | _ => none }
def FnBootstrapKeepsEarlierEntriesWrongFalsely : Prop := fnBootstrapKeepsEarlierEntriesRow.holds Tryd.pinned (OpenSpec.ofChange fnBootstrapKeepsEarlierEntriesWrong)

end Rows
end Go.Proofs.Qxb6608884aDoor
