/-
  The walk of addrOf (10).
-/
import Derived.Test.Qxb6608884aDoorAddr2
namespace Go.Proofs.Qxb6608884aDoor
open Go.RowKit
set_option linter.unusedVariables false

set_option maxHeartbeats 1000000 in
theorem addrOf_any (d : AddrD) (z6 z4 : Option Addr) (w : World) (hz6 : w.cell? ⟨0, 0, none⟩ = some (.pointer z6)) (hz4 : w.cell? ⟨1, 0, none⟩ = some (.pointer z4)) (hs : 1 < w.heap.size) :
    Calls Tryd.prog 10 #[.agg d.cells] w fun e w' => e = .returned (.agg (d.ap z6 z4)) ∧ Below w.heap.size w w' := by
  have hs0 : 0 < w.heap.size := by omega
  have hs1 : 1 < w.heap.size := by omega
  obtain ⟨ip, v6, port⟩ := d
  cases v6
  · simp only [AddrD.cells, AddrD.ap, AddrD.hi, AddrD.lo, AddrD.z]
    go_enter Tryd.func10, Tryd.ntmps10
    go_wp2_with fail
    refine (zz4_any (ip 0) (ip 1) (ip 2) (ip 3) port z4 _ (by simp [go_sem, hz4, hs1, hs0]) (by simp <;> omega)).mono ?_
    rintro e w2 ⟨rfl, hb⟩
    have c0 : w2.cell? ⟨w.heap.size + 1, 0, none⟩ = some (.int .u64 0) := (hb.cell (p := ⟨w.heap.size + 1, 0, none⟩) (by simp)).trans (by simp [go_sem])
    have c1 : w2.cell? ⟨w.heap.size + 1, 1, none⟩ = some (.int .u64 0) := (hb.cell (p := ⟨w.heap.size + 1, 1, none⟩) (by simp)).trans (by simp [go_sem])
    have c2 : w2.cell? ⟨w.heap.size + 1, 2, none⟩ = some (.pointer none) := (hb.cell (p := ⟨w.heap.size + 1, 2, none⟩) (by simp)).trans (by simp [go_sem])
    have c3 : w2.cell? ⟨w.heap.size + 1, 3, none⟩ = some (.int .u16 0) := (hb.cell (p := ⟨w.heap.size + 1, 3, none⟩) (by simp)).trans (by simp [go_sem])
    have fz : ∀ i, w2.frozen? ⟨w.heap.size + 1, i, none⟩ = false := fun i => (hb.frozen (p := ⟨w.heap.size + 1, i, none⟩) (by simp)).trans (by simp [go_sem])
    have hsz : w.heap.size + 1 < w2.heap.size := by have := hb.size; simp at this; omega
    have HB : Hid (Below w.heap.size w w2) := (((Below.refl _ _).alloc (Nat.le_refl _) _).alloc (by simp) _).trans (hb.mono (by simp <;> omega))
    clear hb
    go_wp2_with fail
    refine bodyPost_ret (v := .agg #[.int .u64 0, .int .u64 (lo4 (ip 0) (ip 1) (ip 2) (ip 3)), .pointer z4, .int .u16 port]) ?_ rfl ⟨rfl, ?_⟩
    · simp [results, Tryd.results10, go_sem, c0, c1, c2, c3]
    · exact ((((HB.out.setCell (by simp) _).setCell (by simp) _).setCell (by simp) _).setCell (by simp) _)
  · simp only [AddrD.cells, AddrD.ap, AddrD.hi, AddrD.lo, AddrD.z]
    go_enter Tryd.func10, Tryd.ntmps10
    go_wp2_with fail
    refine (zz16_any (ip 0) (ip 1) (ip 2) (ip 3) (ip 4) (ip 5) (ip 6) (ip 7) (ip 8) (ip 9) (ip 10) (ip 11) (ip 12) (ip 13) (ip 14) (ip 15) port z6 _ (by simp [go_sem, hz6, hs0]) (by simp <;> omega)).mono ?_
    rintro e w2 ⟨rfl, hb⟩
    have c0 : w2.cell? ⟨w.heap.size + 1, 0, none⟩ = some (.int .u64 0) := (hb.cell (p := ⟨w.heap.size + 1, 0, none⟩) (by simp)).trans (by simp [go_sem])
    have c1 : w2.cell? ⟨w.heap.size + 1, 1, none⟩ = some (.int .u64 0) := (hb.cell (p := ⟨w.heap.size + 1, 1, none⟩) (by simp)).trans (by simp [go_sem])
    have c2 : w2.cell? ⟨w.heap.size + 1, 2, none⟩ = some (.pointer none) := (hb.cell (p := ⟨w.heap.size + 1, 2, none⟩) (by simp)).trans (by simp [go_sem])
    have c3 : w2.cell? ⟨w.heap.size + 1, 3, none⟩ = some (.int .u16 0) := (hb.cell (p := ⟨w.heap.size + 1, 3, none⟩) (by simp)).trans (by simp [go_sem])
    have fz : ∀ i, w2.frozen? ⟨w.heap.size + 1, i, none⟩ = false := fun i => (hb.frozen (p := ⟨w.heap.size + 1, i, none⟩) (by simp)).trans (by simp [go_sem])
    have hsz : w.heap.size + 1 < w2.heap.size := by have := hb.size; simp at this; omega
    have HB : Hid (Below w.heap.size w w2) := (((Below.refl _ _).alloc (Nat.le_refl _) _).alloc (by simp) _).trans (hb.mono (by simp <;> omega))
    clear hb
    go_wp2_with fail
    refine bodyPost_ret (v := .agg #[.int .u64 (be64 (ip 0) (ip 1) (ip 2) (ip 3) (ip 4) (ip 5) (ip 6) (ip 7)), .int .u64 (be64 (ip 8) (ip 9) (ip 10) (ip 11) (ip 12) (ip 13) (ip 14) (ip 15)), .pointer z6, .int .u16 port]) ?_ rfl ⟨rfl, ?_⟩
    · simp [results, Tryd.results10, go_sem, c0, c1, c2, c3]
    · exact ((((HB.out.setCell (by simp) _).setCell (by simp) _).setCell (by simp) _).setCell (by simp) _)
end Go.Proofs.Qxb6608884aDoor
