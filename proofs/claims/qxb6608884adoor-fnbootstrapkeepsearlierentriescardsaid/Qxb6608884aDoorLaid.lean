/-
  The two listed variables: what the row's condition gives the walks; the door's own heap meets the condition.
-/
import Derived.Test.Qxb6608884aDoorRows
import Derived.Test.Qxb6608884aDoorOpen
import Derived.ProofKit
import Derived.LaidMore
import Derived.Lay
import Derived.OpenShut
import Derived.Stop.Joined
namespace Go.Proofs.Qxb6608884aDoor
open Go.ChangeShapes Go.WideShapes Go.ChangeAt Go.RowKit
set_option linter.unusedVariables false

theorem own : ownKnob Tryd.prog.godebug = none := by kernel_rfl
theorem laidOut : laidOutB Tryd.prog = true := by kernel_rfl
def laid2 {H : Type} : List (String × DataW H) := [("net/netip.z4", Rows.laid_net_netip_z4), ("net/netip.z6noz", Rows.laid_net_netip_z6noz)]
theorem gz4 : Tryd.prog.globalNamed "net/netip.z4" = some 1 := by kernel_rfl
theorem gz6 : Tryd.prog.globalNamed "net/netip.z6noz" = some 0 := by kernel_rfl
theorem tz4 : (Tryd.prog.globals[1]?).map (·.type) = some 37 := by kernel_rfl
theorem tz6 : (Tryd.prog.globals[0]?).map (·.type) = some 37 := by kernel_rfl
theorem Tryd.cells35 : Tryd.prog.cellsOf 35 = 1 := by kernel_rfl
theorem Tryd.cells37 : Tryd.prog.cellsOf 37 = 1 := by kernel_rfl
def zeroArgs : Array Value := #[.agg (idA fun _ => 0), .int .i64 0, .slice none 0 0, .slice none 0 0]

set_option maxRecDepth 100000 in
/-- A start that meets the condition. -/
theorem door_met (os : Os) (args : Array Value) : laidMetH Tryd.prog laid2 ((World.laidAll Tryd.prog os laid2).forCall (fun _ _ => 0) ⟨#[], args, []⟩).memory := by
  rw [MakeChecks.laidMetH_plain _ _ _ (by kernel_rfl)]; exact laidMet_laidAll _ (by kernel_rfl) (by kernel_rfl)

/-- A handle variable's one cell. -/
theorem handle_cell {H : Type} {enc : TypeId × Value → H} {W : World} {base : Nat} {spare : Nat → Bool} {held : Bool} {fuel : Nat} {cs : List Value} {x : DataW H × List MemPlace} (h : DataW.trod enc Tryd.prog W base spare held fuel 37 cs = some x) : ∃ z, cs = [.pointer z] := by
  obtain ⟨y, n, _, hl, h0⟩ := trod_struct1 Tryd.underlying37 h
  rw [Tryd.cells37] at hl
  simp only [Tryd.cells35, List.drop_zero] at h0
  have e : cs.take 1 = cs := List.take_of_length_le (by omega)
  rw [e] at h0
  rcases DataW.trod_pointer Tryd.underlying35 h0 with ⟨h, _⟩ | ⟨a, _, _, _, _, h, _⟩
  · exact ⟨_, h⟩
  · exact ⟨_, h⟩

theorem of_laid {W : World} (h : laidMetH Tryd.prog laid2 W) : ∃ z6 z4, Glob W z6 z4 := by
  rw [MakeChecks.laidMetH_plain _ _ _ (by kernel_rfl)] at h
  obtain ⟨ps, ⟨g0, t0, cs0, f0, p0, q0, hg0, ht0, hv0, hd0, ⟨g1, t1, cs1, f1, p1, q1, hg1, ht1, hv1, hd1, _, _⟩, _⟩, _, _⟩ := h
  obtain rfl := Option.some.inj (gz4.symm.trans hg0)
  obtain rfl := Option.some.inj (gz6.symm.trans hg1)
  obtain rfl := Option.some.inj (tz4.symm.trans ht0)
  obtain rfl := Option.some.inj (tz6.symm.trans ht1)
  obtain ⟨z4, hz4⟩ := handle_cell hd0
  obtain ⟨z6, hz6⟩ := handle_cell hd1
  have c4 : W.cell? ⟨1, 0, none⟩ = some (.pointer z4) := by
    have := World.var?_cell hg0 hv0 0
    rw [Array.eq_one_of_toList hz4] at this
    simpa using this
  have c6 : W.cell? ⟨0, 0, none⟩ = some (.pointer z6) := by
    have := World.var?_cell hg1 hv1 0
    rw [Array.eq_one_of_toList hz6] at this
    simpa using this
  exact ⟨z6, z4, c6, c4, World.block_lt_of_cell? W _ c4⟩
end Go.Proofs.Qxb6608884aDoor
