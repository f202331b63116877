/-
  The walks of BEUint64 (23), (bigEndian).Uint64 (24), (bigEndian).Uint32 (25): they read eight (four) bytes in an open order and answer a number that hangs on those bytes alone.
-/
import Derived.Test.Qxb6608884aDoorProg
import Derived.WalkKit
import Derived.BigQuiet
import Derived.Deep.QuietTactic
namespace Go.Proofs.Qxb6608884aDoor
open Go.RowKit
set_option linter.unusedVariables false

theorem ret_int {k : IntKind} {a b : Int} (h : a = b) : Ending.returned (.int k a) = .returned (.int k b) := by rw [h]

/-- What BEUint64 answers at eight bytes, in the walk's own spelling. -/
def be64 (x0 x1 x2 x3 x4 x5 x6 x7 : Int) : Int :=
  bits BinOp.or IntKind.u64 (bits BinOp.or IntKind.u64 (bits BinOp.or IntKind.u64 (bits BinOp.or IntKind.u64 (bits BinOp.or IntKind.u64 (bits BinOp.or IntKind.u64 (bits BinOp.or IntKind.u64 (IntKind.u64.wrap x7)
    (IntKind.u64.wrap (IntKind.u64.wrap x6 * 256))) (IntKind.u64.wrap (IntKind.u64.wrap x5 * 65536))) (IntKind.u64.wrap (IntKind.u64.wrap x4 * 16777216))) (IntKind.u64.wrap (IntKind.u64.wrap x3 * 4294967296)))
    (IntKind.u64.wrap (IntKind.u64.wrap x2 * 1099511627776))) (IntKind.u64.wrap (IntKind.u64.wrap x1 * 281474976710656))) (IntKind.u64.wrap (IntKind.u64.wrap x0 * 72057594037927936))

theorem below_drewN (w : World) (k : Nat) : Below w.heap.size w (w.drewN k) := ⟨rfl, rfl, rfl, Nat.le_refl _, fun _ _ => rfl⟩

set_option maxHeartbeats 1000000 in
theorem be64_any (b off n c : Nat) (x0 x1 x2 x3 x4 x5 x6 x7 : Int) (w : World) (hn : 8 ≤ n)
    (h0 : w.cell? ⟨b, off, none⟩ = some (.int .u8 x0)) (h1 : w.cell? ⟨b, off + 1, none⟩ = some (.int .u8 x1)) (h2 : w.cell? ⟨b, off + 2, none⟩ = some (.int .u8 x2)) (h3 : w.cell? ⟨b, off + 3, none⟩ = some (.int .u8 x3))
    (h4 : w.cell? ⟨b, off + 4, none⟩ = some (.int .u8 x4)) (h5 : w.cell? ⟨b, off + 5, none⟩ = some (.int .u8 x5)) (h6 : w.cell? ⟨b, off + 6, none⟩ = some (.int .u8 x6)) (h7 : w.cell? ⟨b, off + 7, none⟩ = some (.int .u8 x7)) :
    Calls Tryd.prog 23 #[.slice (some ⟨b, off, none⟩) n c] w fun e w' => e = .returned (.int .u64 (be64 x0 x1 x2 x3 x4 x5 x6 x7)) ∧ ∃ k, w' = w.drewN k := by
  have hn' : (8 : Int) ≤ (n : Int) := by omega
  go_enter Tryd.func23, Tryd.ntmps23
  go_wp2
  go_quiet (fail)
  go_wp2
  go_ret
  exact ⟨ret_int rfl, _, rfl⟩

set_option maxHeartbeats 1000000 in
theorem uint64_one (b off n c : Nat) (x0 x1 x2 x3 x4 x5 x6 x7 : Int) (w : World) (hn : 8 ≤ n)
    (h0 : w.cell? ⟨b, off, none⟩ = some (.int .u8 x0)) (h1 : w.cell? ⟨b, off + 1, none⟩ = some (.int .u8 x1)) (h2 : w.cell? ⟨b, off + 2, none⟩ = some (.int .u8 x2)) (h3 : w.cell? ⟨b, off + 3, none⟩ = some (.int .u8 x3))
    (h4 : w.cell? ⟨b, off + 4, none⟩ = some (.int .u8 x4)) (h5 : w.cell? ⟨b, off + 5, none⟩ = some (.int .u8 x5)) (h6 : w.cell? ⟨b, off + 6, none⟩ = some (.int .u8 x6)) (h7 : w.cell? ⟨b, off + 7, none⟩ = some (.int .u8 x7)) (hb : b < w.heap.size) :
    Calls Tryd.prog 24 #[.agg #[], .slice (some ⟨b, off, none⟩) n c] w fun e w' => (∃ y, e = .returned (.int .u64 y)) ∧ Below w.heap.size w w' := by
  have hn' : (8 : Int) ≤ (n : Int) := by omega
  go_enter Tryd.func24, Tryd.ntmps24
  go_wp2
  go_quiet (fail)
  go_wp2
  go_ret
  exact ⟨⟨_, rfl⟩, (Below.refl _ _ |>.alloc (Nat.le_refl _) _).trans ((below_drewN _ _).mono (by simp))⟩

set_option maxHeartbeats 1000000 in
theorem uint32_one (b off n c : Nat) (x0 x1 x2 x3 : Int) (w : World) (hn : 4 ≤ n)
    (h0 : w.cell? ⟨b, off, none⟩ = some (.int .u8 x0)) (h1 : w.cell? ⟨b, off + 1, none⟩ = some (.int .u8 x1)) (h2 : w.cell? ⟨b, off + 2, none⟩ = some (.int .u8 x2)) (h3 : w.cell? ⟨b, off + 3, none⟩ = some (.int .u8 x3)) (hb : b < w.heap.size) :
    Calls Tryd.prog 25 #[.agg #[], .slice (some ⟨b, off, none⟩) n c] w fun e w' => (∃ y, e = .returned (.int .u32 y)) ∧ Below w.heap.size w w' := by
  have hn' : (4 : Int) ≤ (n : Int) := by omega
  go_enter Tryd.func25, Tryd.ntmps25
  go_wp2
  go_quiet (fail)
  go_wp2
  go_ret
  exact ⟨⟨_, rfl⟩, (Below.refl _ _ |>.alloc (Nat.le_refl _) _).trans ((below_drewN _ _).mono (by simp))⟩

/-- Eight (four) bytes lie at ⟨b, off⟩. -/
def Bytes (w : World) (b off n : Nat) : Prop := b < w.heap.size ∧ ∀ i, i < n → ∃ x, w.cell? ⟨b, off + i, none⟩ = some (.int .u8 x)

theorem uint64_any {w : World} {b off n c : Nat} (hn : 8 ≤ n) (h : Bytes w b off 8) :
    Calls Tryd.prog 24 #[.agg #[], .slice (some ⟨b, off, none⟩) n c] w fun e w' => (∃ y, e = .returned (.int .u64 y)) ∧ Below w.heap.size w w' := by
  obtain ⟨hb, h⟩ := h
  obtain ⟨x0, h0⟩ := h 0 (by omega)
  obtain ⟨x1, h1⟩ := h 1 (by omega)
  obtain ⟨x2, h2⟩ := h 2 (by omega)
  obtain ⟨x3, h3⟩ := h 3 (by omega)
  obtain ⟨x4, h4⟩ := h 4 (by omega)
  obtain ⟨x5, h5⟩ := h 5 (by omega)
  obtain ⟨x6, h6⟩ := h 6 (by omega)
  obtain ⟨x7, h7⟩ := h 7 (by omega)
  exact uint64_one b off n c x0 x1 x2 x3 x4 x5 x6 x7 w hn h0 h1 h2 h3 h4 h5 h6 h7 hb
theorem uint32_any {w : World} {b off n c : Nat} (hn : 4 ≤ n) (h : Bytes w b off 4) :
    Calls Tryd.prog 25 #[.agg #[], .slice (some ⟨b, off, none⟩) n c] w fun e w' => (∃ y, e = .returned (.int .u32 y)) ∧ Below w.heap.size w w' := by
  obtain ⟨hb, h⟩ := h
  obtain ⟨x0, h0⟩ := h 0 (by omega)
  obtain ⟨x1, h1⟩ := h 1 (by omega)
  obtain ⟨x2, h2⟩ := h 2 (by omega)
  obtain ⟨x3, h3⟩ := h 3 (by omega)
  exact uint32_one b off n c x0 x1 x2 x3 w hn h0 h1 h2 h3 hb
end Go.Proofs.Qxb6608884aDoor
