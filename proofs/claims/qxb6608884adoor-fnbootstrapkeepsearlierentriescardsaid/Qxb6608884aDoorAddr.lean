/-
  The walks of netip.AddrFrom4 (21), AddrFrom16 (20), AddrPortFrom (19), ZZaddr4 (17), ZZaddr16 (16).
-/
import Derived.Test.Qxb6608884aDoorBE
import Derived.Deep.RegionHeld3
import Derived.Laws.ResultCell
import Derived.Deep.DrawnRows
import Derived.Deep.RegionWith
namespace Go.Proofs.Qxb6608884aDoor
open Go.RowKit
set_option linter.unusedVariables false
attribute [local go_sem ↓] Go.wp_at_zero Go.wp_at_succ

/-- What AddrFrom4 makes of four bytes. -/
def lo4 (x0 x1 x2 x3 : Int) : Int :=
  bits BinOp.or IntKind.u64 (bits BinOp.or IntKind.u64 (bits BinOp.or IntKind.u64 (bits BinOp.or IntKind.u64 281470681743360 (IntKind.u64.wrap (IntKind.u64.wrap x0 * 16777216)))
    (IntKind.u64.wrap (IntKind.u64.wrap x1 * 65536))) (IntKind.u64.wrap (IntKind.u64.wrap x2 * 256))) (IntKind.u64.wrap x3)

set_option maxHeartbeats 400000 in
theorem from4_any (x0 x1 x2 x3 : Int) (z : Option Addr) (w : World) (hz : w.cell? ⟨1, 0, none⟩ = some (.pointer z)) (hs : 1 < w.heap.size) :
    Calls Tryd.prog 21 #[.agg #[.int .u8 x0, .int .u8 x1, .int .u8 x2, .int .u8 x3]] w fun e w' => e = .returned (.agg #[.int .u64 0, .int .u64 (lo4 x0 x1 x2 x3), .pointer z]) ∧ Below w.heap.size w w' := by
  have hs0 : 0 < w.heap.size := by omega
  have hs1 : 1 < w.heap.size := by omega
  go_enter Tryd.func21, Tryd.ntmps21
  go_wp2
  refine bodyPost_ret (v := .agg #[.int .u64 0, .int .u64 (lo4 x0 x1 x2 x3), .pointer z]) ?_ rfl ⟨rfl, ?_⟩
  · simp [results, Tryd.results21, go_sem, lo4]
  · exact ((Below.refl _ _).alloc (Nat.le_refl _) _).alloc (by simp) _

theorem portFrom_any (h l : Int) (z : Option Addr) (p : Int) (w : World) :
    Calls Tryd.prog 19 #[.agg #[.int .u64 h, .int .u64 l, .pointer z], .int .u16 p] w fun e w' => e = .returned (.agg #[.int .u64 h, .int .u64 l, .pointer z, .int .u16 p]) ∧ Below w.heap.size w w' := by
  go_enter Tryd.func19, Tryd.ntmps19
  go_wp2
  refine bodyPost_ret (v := .agg #[.int .u64 h, .int .u64 l, .pointer z, .int .u16 p]) ?_ rfl ⟨rfl, ?_⟩
  · simp [results, Tryd.results19, go_sem]
  · exact ((Below.refl _ _).alloc (Nat.le_refl _) _).alloc (by simp) _

theorem bdrew {B : Nat} {a w : World} (h : Below B a w) (k : Nat) : Below B a (w.drewN k) := ⟨h.os, h.tape, h.output, h.size, h.block⟩

set_option maxHeartbeats 1000000 in
theorem from16_any (x0 x1 x2 x3 x4 x5 x6 x7 y0 y1 y2 y3 y4 y5 y6 y7 : Int) (z : Option Addr) (w : World) (hz : w.cell? ⟨0, 0, none⟩ = some (.pointer z)) (hs : 1 < w.heap.size) :
    Calls Tryd.prog 20 #[.agg #[.int .u8 x0, .int .u8 x1, .int .u8 x2, .int .u8 x3, .int .u8 x4, .int .u8 x5, .int .u8 x6, .int .u8 x7, .int .u8 y0, .int .u8 y1, .int .u8 y2, .int .u8 y3, .int .u8 y4, .int .u8 y5, .int .u8 y6, .int .u8 y7]] w fun e w' =>
      e = .returned (.agg #[.int .u64 (be64 x0 x1 x2 x3 x4 x5 x6 x7), .int .u64 (be64 y0 y1 y2 y3 y4 y5 y6 y7), .pointer z]) ∧ Below w.heap.size w w' := by
  have hs0 : 0 < w.heap.size := by omega
  have tok1 : True := trivial
  go_enter Tryd.func20, Tryd.ntmps20
  go_wp2
  go_region_held3 (fun w' => w'.cell? ⟨0, 0, none⟩ = some (.pointer z)) (go_keep)
    (first
      | (go_at_call 23; have _t := tok1; apply Calls.mono (be64_any w.heap.size 0 8 16 x0 x1 x2 x3 x4 x5 x6 x7 _ (by omega) (by simp [go_sem]) (by simp [go_sem]) (by simp [go_sem]) (by simp [go_sem]) (by simp [go_sem]) (by simp [go_sem]) (by simp [go_sem]) (by simp [go_sem])); rintro e w' ⟨rfl, k, rfl⟩; clear tok1 _t)
      | (go_at_call 23; apply Calls.mono (be64_any w.heap.size 8 8 8 y0 y1 y2 y3 y4 y5 y6 y7 _ (by omega) (by simp [go_sem]) (by simp [go_sem]) (by simp [go_sem]) (by simp [go_sem]) (by simp [go_sem]) (by simp [go_sem]) (by simp [go_sem]) (by simp [go_sem])); rintro e w' ⟨rfl, k2, rfl⟩))
  go_wp2
  refine bodyPost_ret (v := .agg #[.int .u64 (be64 x0 x1 x2 x3 x4 x5 x6 x7), .int .u64 (be64 y0 y1 y2 y3 y4 y5 y6 y7), .pointer z]) ?_ rfl ⟨rfl, ?_⟩
  · simp [results, Tryd.results20, go_sem]
  · exact (((bdrew (((Below.refl _ _).alloc (Nat.le_refl _) _).alloc (by simp) _) _).setCell (by simp) _).setCell (by simp) _).setCell (by simp) _
end Go.Proofs.Qxb6608884aDoor
