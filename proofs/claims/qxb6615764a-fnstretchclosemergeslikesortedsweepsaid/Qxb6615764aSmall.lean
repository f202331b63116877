/-
  The walks of newLeaf (32), New (22), full (39), size (42).
-/
import Derived.Test.Qxb6615764aDel
namespace Go.Proofs.Qxb6615764a
open Go.RowKit
set_option linter.unusedVariables false
set_option linter.unusedSimpArgs false

theorem row_new (w : World) (ty : TypeId) (l : List Value) : RowB (w.alloc (.cells l.toArray ty)) w.heap.size ty l := heap_alloc_new _ _
theorem row_newA (w : World) (ty : TypeId) (l : Array Value) : RowB (w.alloc (.cells l ty)) w.heap.size ty l.toList := by
  have : l.toList.toArray = l := Array.toArray_toList
  unfold RowB; rw [this]; exact heap_alloc_new _ _

def nilA (n : Nat) : Array Value := madeCells #[.pointer none] n
theorem nilA_len (n : Nat) : (nilA n).toList.length = n := by simp [nilA, size_madeCells]
@[go_sem] theorem make59_0_64 (w : World) : (Instr.makeSlice 59 (.int .i64 0) (.int .i64 64)).run Try.prog w = .ok (.slice (some ⟨w.heap.size, 0, none⟩) 0 64) (w.alloc (.cells (nilA 64) 46)) := by
  obtain ⟨i0, hi, hz0, hz1, hz2⟩ := info_parts Try.info46
  have := run_makeSlice (P := Try.prog) w 59 46 i0 (.pointer none) Try.underlying59 hi hz0 .i64 .i64 0 64 (by omega) (by omega) (by rw [hz1]; decide) (by rw [hz2]; decide) (by decide)
  rw [hz1] at this
  exact this
@[go_sem] theorem make59_32_64 (w : World) : (Instr.makeSlice 59 (.int .i64 32) (.int .i64 64)).run Try.prog w = .ok (.slice (some ⟨w.heap.size, 0, none⟩) 32 64) (w.alloc (.cells (nilA 64) 46)) := by
  obtain ⟨i0, hi, hz0, hz1, hz2⟩ := info_parts Try.info46
  have := run_makeSlice (P := Try.prog) w 59 46 i0 (.pointer none) Try.underlying59 hi hz0 .i64 .i64 32 64 (by omega) (by omega) (by rw [hz1]; decide) (by rw [hz2]; decide) (by decide)
  rw [hz1] at this
  exact this
@[go_sem] theorem make59_0_63 (w : World) : (Instr.makeSlice 59 (.int .i64 0) (.int .i64 63)).run Try.prog w = .ok (.slice (some ⟨w.heap.size, 0, none⟩) 0 63) (w.alloc (.cells (nilA 63) 46)) := by
  obtain ⟨i0, hi, hz0, hz1, hz2⟩ := info_parts Try.info46
  have := run_makeSlice (P := Try.prog) w 59 46 i0 (.pointer none) Try.underlying59 hi hz0 .i64 .i64 0 63 (by omega) (by omega) (by rw [hz1]; decide) (by rw [hz2]; decide) (by decide)
  rw [hz1] at this
  exact this
@[go_sem] theorem make60_0_64 (w : World) : (Instr.makeSlice 60 (.int .i64 0) (.int .i64 64)).run Try.prog w = .ok (.slice (some ⟨w.heap.size, 0, none⟩) 0 64) (w.alloc (.cells (nilA 64) 55)) := by
  obtain ⟨i0, hi, hz0, hz1, hz2⟩ := info_parts Try.info55
  have := run_makeSlice (P := Try.prog) w 60 55 i0 (.pointer none) Try.underlying60 hi hz0 .i64 .i64 0 64 (by omega) (by omega) (by rw [hz1]; decide) (by rw [hz2]; decide) (by decide)
  rw [hz1] at this
  exact this

set_option maxHeartbeats 1000000 in
/-- newLeaf(0). -/
theorem leaf0_any (w : World) : Calls Try.prog 32 #[.int .i64 0] w fun e w' => (∃ nb ib, e = .returned (.pointer (some ⟨nb, 0, none⟩)) ∧ w.heap.size ≤ nb ∧ w.heap.size ≤ ib ∧ nb ≠ ib ∧ RowB w' nb 62 [.slice (some ⟨ib, 0, none⟩) 0 64, .slice none 0 0] ∧ ∃ rest, RowB w' ib 46 rest ∧ rest.length = 64) ∧ Kep (fun _ => False) w w' := by
  go_enter Try.func32, Try.ntmps32
  go_wp2
  go_ret
  refine ⟨⟨w.heap.size + 1, w.heap.size, by simp, by omega, by omega, by omega, ?_, (nilA 64).toList, ?_, nilA_len 64⟩, ((Kep.refl _ _).alloc _).alloc _⟩
  · have := row_new (w.alloc (.cells (nilA 64) 46)) 62 [.slice (some ⟨w.heap.size, 0, none⟩) 0 64, .slice none 0 0]
    simpa using this
  · exact (row_newA w 46 (nilA 64)).kep ((Kep.refl (fun _ => False) _).alloc _) (fun h => h)

/-- full. -/
theorem full_any {w : World} {tv : Value} {nb : Nat} {ia ca : Option Addr} {n c m d : Nat} (hN : RowB w nb 62 [.slice ia n c, .slice ca m d]) :
    Calls Try.prog 39 #[tv, .pointer (some ⟨nb, 0, none⟩)] w fun e w' => e = .returned (.bool (decide ((n : Int) = 64) || decide ((m : Int) = 64))) ∧ w' = w := by
  have n0 := hN.cell 0
  have n1 := hN.cell 1
  simp only [List.getElem?_cons_zero, List.getElem?_cons_succ] at n0 n1
  clear hN
  by_cases h : (n : Int) = 64
  · go_enter Try.func39, Try.ntmps39
    go_wp2
    go_ret
    exact ⟨by simp [h], rfl⟩
  · have h' : ((n : Int) == 64) = false := by simpa using h
    go_enter Try.func39, Try.ntmps39
    go_wp2
    go_ret
    exact ⟨by by_cases hm : (m : Int) = 64 <;> simp [h, h', hm], rfl⟩
/-- size. -/
theorem size_leaf {w : World} {nb : Nat} {ia : Option Addr} {n c : Nat} (hN : RowB w nb 62 [.slice ia n c, .slice none 0 0]) :
    Calls Try.prog 42 #[.pointer (some ⟨nb, 0, none⟩)] w fun e w' => e = .returned (.int .i64 (n : Int)) ∧ w' = w := by
  have n0 := hN.cell 0
  have n1 := hN.cell 1
  simp only [List.getElem?_cons_zero, List.getElem?_cons_succ] at n0 n1
  clear hN
  go_enter Try.func42, Try.ntmps42
  go_wp2
  go_ret
  exact ⟨rfl, rfl⟩
theorem size_inner {w : World} {nb : Nat} {ia : Option Addr} {ca : Addr} {n c m d : Nat} (hN : RowB w nb 62 [.slice ia n c, .slice (some ca) m d]) :
    Calls Try.prog 42 #[.pointer (some ⟨nb, 0, none⟩)] w fun e w' => e = .returned (.int .i64 (m : Int)) ∧ w' = w := by
  have n0 := hN.cell 0
  have n1 := hN.cell 1
  simp only [List.getElem?_cons_zero, List.getElem?_cons_succ] at n0 n1
  clear hN
  go_enter Try.func42, Try.ntmps42
  go_wp2
  go_ret
  exact ⟨rfl, rfl⟩
end Go.Proofs.Qxb6615764a
