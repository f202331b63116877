/-
  '==' and '!=' on xorbit.ID and netip.AddrPort at equal values.
-/
import Derived.Test.Qxb6608884aDoorNew
import Derived.Laws.StructEq
import Derived.LaidEql
namespace Go.Proofs.Qxb6608884aDoor
open Go.RowKit
theorem stood42 : Tryd.prog.stoodInHeld 42 = false := by kernel_rfl
theorem stood39 : Tryd.prog.stoodInHeld 39 = false := by kernel_rfl
theorem stood34 : Tryd.prog.stoodInHeld 34 = false := by kernel_rfl
theorem stood37 : Tryd.prog.stoodInHeld 37 = false := by kernel_rfl
theorem neq29 (w : World) : (binOp .neq 29 (.agg (idA fun _ => 0)) (.agg (idA fun _ => 0))).run Tryd.prog w = .ok (.bool false) w := by kernel_rfl
theorem part42a (h l : Int) (z : Option Addr) (p : Int) (w : World) : (part 39 #[.int .u64 h, .int .u64 l, .pointer z, .int .u16 p] 0).run Tryd.prog w = .ok (.agg #[.int .u64 h, .int .u64 l, .pointer z]) w := by kernel_rfl
theorem part42b (h l : Int) (z : Option Addr) (p : Int) (w : World) : (part 40 #[.int .u64 h, .int .u64 l, .pointer z, .int .u16 p] 3).run Tryd.prog w = .ok (.int .u16 p) w := by kernel_rfl
theorem part39a (h l : Int) (z : Option Addr) (w : World) : (part 34 #[.int .u64 h, .int .u64 l, .pointer z] 0).run Tryd.prog w = .ok (.agg #[.int .u64 h, .int .u64 l]) w := by kernel_rfl
theorem part39b (h l : Int) (z : Option Addr) (w : World) : (part 37 #[.int .u64 h, .int .u64 l, .pointer z] 2).run Tryd.prog w = .ok (.agg #[.pointer z]) w := by kernel_rfl
theorem part34a (h l : Int) (w : World) : (part 32 #[.int .u64 h, .int .u64 l] 0).run Tryd.prog w = .ok (.int .u64 h) w := by kernel_rfl
theorem part34b (h l : Int) (w : World) : (part 32 #[.int .u64 h, .int .u64 l] 1).run Tryd.prog w = .ok (.int .u64 l) w := by kernel_rfl
theorem part37a (z : Option Addr) (w : World) : (part 35 #[.pointer z] 0).run Tryd.prog w = .ok (.pointer z) w := by kernel_rfl
theorem eq35 (d : Nat) (z : Option Addr) (w : World) : (Op.equalIn (d + 1) 35 (.pointer z) (.pointer z)).run Tryd.prog w = .ok true w := by
  cases z with
  | none => simp [Op.equalIn, run_underlying Tryd.underlying35]
  | some a =>
    have h96 : (sizeOf 96).run Tryd.prog w = .ok 2 w := by kernel_rfl
    simp [Op.equalIn, run_underlying Tryd.underlying35, h96, run_sameAddr_same]
theorem eq32 (d : Nat) (a : Int) (w : World) : (Op.equalIn (d + 1) 32 (.int .u64 a) (.int .u64 a)).run Tryd.prog w = .ok true w := by
  simp [run_equalIn_int w d 32 .u64 .u64 a a Tryd.underlying32]
theorem eq40 (d : Nat) (a : Int) (w : World) : (Op.equalIn (d + 1) 40 (.int .u16 a) (.int .u16 a)).run Tryd.prog w = .ok true w := by
  simp [run_equalIn_int w d 40 .u16 .u16 a a Tryd.underlying40]
theorem eq34 (d : Nat) (h l : Int) (w : World) : (Op.equalIn (d + 2) 34 (.agg #[.int .u64 h, .int .u64 l]) (.agg #[.int .u64 h, .int .u64 l])).run Tryd.prog w = .ok true w := by
  rw [run_equalIn_struct w (d + 1) 34 _ _ (by simp [Program.fieldsOf, Tryd.underlying34]) stood34]
  simp [Program.fieldsOf, Tryd.underlying34, Op.eqFields, part34a, part34b, eq32]
theorem eq37 (d : Nat) (z : Option Addr) (w : World) : (Op.equalIn (d + 2) 37 (.agg #[.pointer z]) (.agg #[.pointer z])).run Tryd.prog w = .ok true w := by
  rw [run_equalIn_struct w (d + 1) 37 _ _ (by simp [Program.fieldsOf, Tryd.underlying37]) stood37]
  simp [Program.fieldsOf, Tryd.underlying37, Op.eqFields, part37a, eq35]
theorem eq39 (d : Nat) (h l : Int) (z : Option Addr) (w : World) : (Op.equalIn (d + 3) 39 (.agg #[.int .u64 h, .int .u64 l, .pointer z]) (.agg #[.int .u64 h, .int .u64 l, .pointer z])).run Tryd.prog w = .ok true w := by
  rw [run_equalIn_struct w (d + 2) 39 _ _ (by simp [Program.fieldsOf, Tryd.underlying39]) stood39]
  simp [Program.fieldsOf, Tryd.underlying39, Op.eqFields, part39a, part39b, eq34, eq37]
theorem eq42 (d : Nat) (h l : Int) (z : Option Addr) (p : Int) (w : World) : (Op.equalIn (d + 4) 42 (.agg #[.int .u64 h, .int .u64 l, .pointer z, .int .u16 p]) (.agg #[.int .u64 h, .int .u64 l, .pointer z, .int .u16 p])).run Tryd.prog w = .ok true w := by
  rw [run_equalIn_struct w (d + 3) 42 _ _ (by simp [Program.fieldsOf, Tryd.underlying42]) stood42]
  simp [Program.fieldsOf, Tryd.underlying42, Op.eqFields, part42a, part42b, eq39, eq40]
theorem neq42 (h l : Int) (z : Option Addr) (p : Int) (w : World) : (binOp .neq 42 (.agg #[.int .u64 h, .int .u64 l, .pointer z, .int .u16 p]) (.agg #[.int .u64 h, .int .u64 l, .pointer z, .int .u16 p])).run Tryd.prog w = .ok (.bool false) w := by
  rw [run_neq_struct, eq42 9996]; rfl
end Go.Proofs.Qxb6608884aDoor
