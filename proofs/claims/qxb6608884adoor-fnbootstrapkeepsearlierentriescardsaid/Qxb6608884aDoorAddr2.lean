/-
  The walks of ZZaddr4 (17), ZZaddr16 (16), addrOf (10).
-/
import Derived.Test.Qxb6608884aDoorAddr
namespace Go.Proofs.Qxb6608884aDoor
open Go.RowKit
set_option linter.unusedVariables false

set_option maxHeartbeats 1000000 in
theorem zz4_any (x0 x1 x2 x3 p : Int) (z : Option Addr) (w : World) (hz : w.cell? ⟨1, 0, none⟩ = some (.pointer z)) (hs : 1 < w.heap.size) :
    Calls Tryd.prog 17 #[.agg #[.int .u8 x0, .int .u8 x1, .int .u8 x2, .int .u8 x3], .int .u16 p] w fun e w' => e = .returned (.agg #[.int .u64 0, .int .u64 (lo4 x0 x1 x2 x3), .pointer z, .int .u16 p]) ∧ Below w.heap.size w w' := by
  have hs0 : 0 < w.heap.size := by omega
  have hs1 : 1 < w.heap.size := by omega
  go_enter Tryd.func17, Tryd.ntmps17
  go_wp2_with fail
  refine (from4_any x0 x1 x2 x3 z _ (by simp [go_sem, hz, hs1, hs0]) (by simp <;> omega)).mono ?_
  rintro e w1 ⟨rfl, hb1⟩
  have HB1 : Hid (Below _ _ w1) := hb1
  clear hb1
  go_wp2_with fail
  refine (portFrom_any 0 (lo4 x0 x1 x2 x3) z p _).mono ?_
  rintro e w2 ⟨rfl, hb2⟩
  have hb := HB1.out.trans (hb2.mono HB1.out.size)
  have c0 : w2.cell? ⟨w.heap.size + 1, 0, none⟩ = some (.int .u64 0) := (hb.cell (p := ⟨w.heap.size + 1, 0, none⟩) (by simp)).trans (by simp [go_sem])
  have c1 : w2.cell? ⟨w.heap.size + 1, 1, none⟩ = some (.int .u64 0) := (hb.cell (p := ⟨w.heap.size + 1, 1, none⟩) (by simp)).trans (by simp [go_sem])
  have c2 : w2.cell? ⟨w.heap.size + 1, 2, none⟩ = some (.pointer none) := (hb.cell (p := ⟨w.heap.size + 1, 2, none⟩) (by simp)).trans (by simp [go_sem])
  have c3 : w2.cell? ⟨w.heap.size + 1, 3, none⟩ = some (.int .u16 0) := (hb.cell (p := ⟨w.heap.size + 1, 3, none⟩) (by simp)).trans (by simp [go_sem])
  have fz : ∀ i, w2.frozen? ⟨w.heap.size + 1, i, none⟩ = false := fun i => (hb.frozen (p := ⟨w.heap.size + 1, i, none⟩) (by simp)).trans (by simp [go_sem])
  have hsz : w.heap.size + 1 < w2.heap.size := by have := hb.size; simp at this; omega
  have HB : Hid (Below w.heap.size w w2) := (((Below.refl _ _).alloc (Nat.le_refl _) _).alloc (by simp) _).trans (hb.mono (by simp <;> omega))
  clear hb hb2 HB1
  go_wp2_with fail
  refine bodyPost_ret (v := .agg #[.int .u64 0, .int .u64 (lo4 x0 x1 x2 x3), .pointer z, .int .u16 p]) ?_ rfl ⟨rfl, ?_⟩
  · simp [results, Tryd.results17, go_sem, c0, c1, c2, c3]
  · exact ((((HB.out.setCell (by simp) _).setCell (by simp) _).setCell (by simp) _).setCell (by simp) _)
set_option maxHeartbeats 1000000 in
theorem zz16_any (x0 x1 x2 x3 x4 x5 x6 x7 y0 y1 y2 y3 y4 y5 y6 y7 p : Int) (z : Option Addr) (w : World) (hz : w.cell? ⟨0, 0, none⟩ = some (.pointer z)) (hs : 1 < w.heap.size) :
    Calls Tryd.prog 16 #[.agg #[.int .u8 x0, .int .u8 x1, .int .u8 x2, .int .u8 x3, .int .u8 x4, .int .u8 x5, .int .u8 x6, .int .u8 x7, .int .u8 y0, .int .u8 y1, .int .u8 y2, .int .u8 y3, .int .u8 y4, .int .u8 y5, .int .u8 y6, .int .u8 y7], .int .u16 p] w fun e w' => e = .returned (.agg #[.int .u64 (be64 x0 x1 x2 x3 x4 x5 x6 x7), .int .u64 (be64 y0 y1 y2 y3 y4 y5 y6 y7), .pointer z, .int .u16 p]) ∧ Below w.heap.size w w' := by
  have hs0 : 0 < w.heap.size := by omega
  have hs1 : 1 < w.heap.size := by omega
  go_enter Tryd.func16, Tryd.ntmps16
  go_wp2_with fail
  refine (from16_any x0 x1 x2 x3 x4 x5 x6 x7 y0 y1 y2 y3 y4 y5 y6 y7 z _ (by simp [go_sem, hz, hs0]) (by simp <;> omega)).mono ?_
  rintro e w1 ⟨rfl, hb1⟩
  have HB1 : Hid (Below _ _ w1) := hb1
  clear hb1
  go_wp2_with fail
  refine (portFrom_any (be64 x0 x1 x2 x3 x4 x5 x6 x7) (be64 y0 y1 y2 y3 y4 y5 y6 y7) z p _).mono ?_
  rintro e w2 ⟨rfl, hb2⟩
  have hb := HB1.out.trans (hb2.mono HB1.out.size)
  have c0 : w2.cell? ⟨w.heap.size + 1, 0, none⟩ = some (.int .u64 0) := (hb.cell (p := ⟨w.heap.size + 1, 0, none⟩) (by simp)).trans (by simp [go_sem])
  have c1 : w2.cell? ⟨w.heap.size + 1, 1, none⟩ = some (.int .u64 0) := (hb.cell (p := ⟨w.heap.size + 1, 1, none⟩) (by simp)).trans (by simp [go_sem])
  have c2 : w2.cell? ⟨w.heap.size + 1, 2, none⟩ = some (.pointer none) := (hb.cell (p := ⟨w.heap.size + 1, 2, none⟩) (by simp)).trans (by simp [go_sem])
  have c3 : w2.cell? ⟨w.heap.size + 1, 3, none⟩ = some (.int .u16 0) := (hb.cell (p := ⟨w.heap.size + 1, 3, none⟩) (by simp)).trans (by simp [go_sem])
  have fz : ∀ i, w2.frozen? ⟨w.heap.size + 1, i, none⟩ = false := fun i => (hb.frozen (p := ⟨w.heap.size + 1, i, none⟩) (by simp)).trans (by simp [go_sem])
  have hsz : w.heap.size + 1 < w2.heap.size := by have := hb.size; simp at this; omega
  have HB : Hid (Below w.heap.size w w2) := (((Below.refl _ _).alloc (Nat.le_refl _) _).alloc (by simp) _).trans (hb.mono (by simp <;> omega))
  clear hb hb2 HB1
  go_wp2_with fail
  refine bodyPost_ret (v := .agg #[.int .u64 (be64 x0 x1 x2 x3 x4 x5 x6 x7), .int .u64 (be64 y0 y1 y2 y3 y4 y5 y6 y7), .pointer z, .int .u16 p]) ?_ rfl ⟨rfl, ?_⟩
  · simp [results, Tryd.results16, go_sem, c0, c1, c2, c3]
  · exact ((((HB.out.setCell (by simp) _).setCell (by simp) _).setCell (by simp) _).setCell (by simp) _)

/-- An address as a law hands it in. -/
structure AddrD where
  ip : Nat → Int
  v6 : Bool
  port : Int
def AddrD.cells (d : AddrD) : Array Value := #[.int .u8 (d.ip 0), .int .u8 (d.ip 1), .int .u8 (d.ip 2), .int .u8 (d.ip 3), .int .u8 (d.ip 4), .int .u8 (d.ip 5), .int .u8 (d.ip 6), .int .u8 (d.ip 7), .int .u8 (d.ip 8), .int .u8 (d.ip 9), .int .u8 (d.ip 10), .int .u8 (d.ip 11), .int .u8 (d.ip 12), .int .u8 (d.ip 13), .int .u8 (d.ip 14), .int .u8 (d.ip 15), .bool d.v6, .int .u16 d.port]
def AddrD.hi (d : AddrD) : Int := if d.v6 then be64 (d.ip 0) (d.ip 1) (d.ip 2) (d.ip 3) (d.ip 4) (d.ip 5) (d.ip 6) (d.ip 7) else 0
def AddrD.lo (d : AddrD) : Int := if d.v6 then be64 (d.ip 8) (d.ip 9) (d.ip 10) (d.ip 11) (d.ip 12) (d.ip 13) (d.ip 14) (d.ip 15) else lo4 (d.ip 0) (d.ip 1) (d.ip 2) (d.ip 3)
def AddrD.z (d : AddrD) (z6 z4 : Option Addr) : Option Addr := if d.v6 then z6 else z4
/-- The netip.AddrPort that addrOf makes of it. -/
def AddrD.ap (d : AddrD) (z6 z4 : Option Addr) : Array Value := #[.int .u64 d.hi, .int .u64 d.lo, .pointer (d.z z6 z4), .int .u16 d.port]

end Go.Proofs.Qxb6608884aDoor
