/-
  Keys: rows of bytes in Go's order; a []byte in memory; what a call leaves as it was.
-/
import Derived.Test.Qxb6615764aProg
import Derived.WalkKit
import Derived.Below
import Derived.Lib.Bytealg
import Derived.Laws.Externs
import Derived.BigQuiet
import Derived.WalkSpells
import Derived.Deep.QuietTactic
namespace Go.Proofs.Qxb6615764a
open Go.RowKit
set_option linter.unusedVariables false

abbrev Key := List UInt8

theorem cmp_lt : ∀ a b : Key, Lib.compareBytes a b = if a < b then -1 else if b < a then 1 else 0
  | [], [] => by simp [Lib.compareBytes]
  | [], _ :: _ => by simp [Lib.compareBytes]
  | _ :: _, [] => by simp [Lib.compareBytes]
  | a :: l, b :: m => by
    unfold Lib.compareBytes
    rw [cmp_lt l m]
    simp only [List.cons_lt_cons_iff]
    grind
/-- What Go's comparisons answer. -/
def cmpK (a b : Key) : Int := Lib.compareBytes a b
theorem cmpK_neg {a b : Key} : cmpK a b < 0 ↔ a < b := by unfold cmpK; rw [cmp_lt]; grind
theorem cmpK_pos {a b : Key} : 0 < cmpK a b ↔ b < a := by unfold cmpK; rw [cmp_lt]; grind
theorem cmpK_zero {a b : Key} : cmpK a b = 0 ↔ a = b := by unfold cmpK; rw [cmp_lt]; grind
theorem cmpK_le {a b : Key} : cmpK a b ≤ 0 ↔ a ≤ b := by unfold cmpK; rw [cmp_lt]; grind
theorem cmpK_ge {a b : Key} : 0 ≤ cmpK a b ↔ b ≤ a := by unfold cmpK; rw [cmp_lt]; grind
theorem cmpK_cases (a b : Key) : cmpK a b = -1 ∨ cmpK a b = 0 ∨ cmpK a b = 1 := by unfold cmpK; rw [cmp_lt]; grind

/-- A []byte in memory. -/
def Bs (w : World) (v : Value) (k : Key) : Prop :=
  ∃ a c, v = .slice a k.length c ∧ (a = none → c = 0) ∧ (k ≠ [] → ∃ b o, a = some ⟨b, o, none⟩ ∧ ∀ j x, k[j]? = some x → w.cell? ⟨b, o + j, none⟩ = some (.int .u8 x.toNat))
/-- An upper bound: nil means none. -/
def Bnd (w : World) (v : Value) (u : Option Key) : Prop :=
  match u with
  | none => v = .slice none 0 0
  | some k => Bs w v k ∧ ∃ a n c, v = .slice (some a) n c

/-- The block that a slice leads into. -/
def blockOf : Value → Option Nat | .slice (some a) _ _ => some a.block | _ => none

theorem Bs.same {w w' : World} {v : Value} {k : Key} (h : Bs w v k) (hb : ∀ b, blockOf v = some b → w'.heap[b]? = w.heap[b]?) : Bs w' v k := by
  obtain ⟨a, c, rfl, hn, hc⟩ := h
  refine ⟨a, c, rfl, hn, fun hk => ?_⟩
  obtain ⟨b, o, rfl, hj⟩ := hc hk
  exact ⟨b, o, rfl, fun j x hx => (World.cell?_of_block (a := ⟨b, o + j, none⟩) (hb b rfl)).trans (hj j x hx)⟩
theorem Bnd.same {w w' : World} {v : Value} {u : Option Key} (h : Bnd w v u) (hb : ∀ b, blockOf v = some b → w'.heap[b]? = w.heap[b]?) : Bnd w' v u := by
  cases u with
  | none => exact h
  | some k => exact ⟨h.1.same hb, h.2⟩

/-- What a call may have turned: the blocks of M alone; the rest is as it was. -/
structure Kep (M : Nat → Prop) (w w' : World) : Prop where
  os : w'.os = w.os
  tape : w'.tape = w.tape
  output : w'.output = w.output
  size : w.heap.size ≤ w'.heap.size
  block : ∀ k, k < w.heap.size → ¬ M k → w'.heap[k]? = w.heap[k]?

theorem Kep.refl (M : Nat → Prop) (w : World) : Kep M w w := ⟨rfl, rfl, rfl, Nat.le_refl _, fun _ _ _ => rfl⟩
theorem Kep.trans {M N : Nat → Prop} {a b c : World} (h : Kep M a b) (k : Kep N b c) (hN : ∀ i, i < a.heap.size → N i → M i) : Kep M a c :=
  ⟨k.os.trans h.os, k.tape.trans h.tape, k.output.trans h.output, Nat.le_trans h.size k.size, fun i hi hm => (k.block i (Nat.lt_of_lt_of_le hi h.size) (fun hn => hm (hN i hi hn))).trans (h.block i hi hm)⟩
theorem Kep.mono {M N : Nat → Prop} {a b : World} (h : Kep M a b) (hN : ∀ i, i < a.heap.size → M i → N i) : Kep N a b := ⟨h.os, h.tape, h.output, h.size, fun i hi hm => h.block i hi (fun x => hm (hN i hi x))⟩
theorem Kep.drew {M : Nat → Prop} {a b : World} (h : Kep M a b) : Kep M a b.drew := ⟨h.os, h.tape, h.output, h.size, h.block⟩
theorem Kep.drewN {M : Nat → Prop} {a b : World} (h : Kep M a b) (n : Nat) : Kep M a (b.drewN n) := ⟨h.os, h.tape, h.output, h.size, h.block⟩
theorem Kep.alloc {M : Nat → Prop} {a b : World} (h : Kep M a b) (o : Obj) : Kep M a (b.alloc o) :=
  h.trans (N := fun _ => False) ⟨rfl, rfl, rfl, by simp, fun k hk _ => Below.heap_alloc _ _ _ hk⟩ (fun _ _ hf => hf.elim)
theorem Kep.setCell {M : Nat → Prop} {a b : World} (h : Kep M a b) (p : Addr) (v : Value) (hp : p.block < a.heap.size → M p.block) : Kep M a (b.setCell p v) :=
  h.trans (N := fun k => k = p.block) ⟨rfl, rfl, rfl, by simp [World.setCell], fun k hk hn => Below.heap_setCell _ _ _ _ hn⟩ (fun i hi he => by subst he; exact hp hi)
theorem Kep.below {M : Nat → Prop} {a b : World} (h : Kep M a b) {B : Nat} (hB : B ≤ a.heap.size) (hM : ∀ k, M k → B ≤ k) : Below B a b :=
  ⟨h.os, h.tape, h.output, h.size, fun k hk => h.block k (Nat.lt_of_lt_of_le hk hB) (fun hm => by have := hM k hm; omega)⟩
theorem Below.kep {a b : World} (h : Below a.heap.size a b) : Kep (fun _ => False) a b := ⟨h.os, h.tape, h.output, h.size, fun k hk _ => h.block k hk⟩

theorem lt_of_some {w : World} {b : Nat} {o : Obj} (h : w.heap[b]? = some o) : b < w.heap.size := (Array.getElem?_eq_some_iff.1 h).1
theorem Kep.cell {M : Nat → Prop} {a b : World} (h : Kep M a b) {p : Addr} (hp : p.block < a.heap.size) (hm : ¬ M p.block) : b.cell? p = a.cell? p := World.cell?_of_block (h.block _ hp hm)
theorem Bs.lt {w : World} {v : Value} {k : Key} (h : Bs w v k) (hk : k ≠ []) : ∀ b, blockOf v = some b → b < w.heap.size := by
  obtain ⟨a, c, rfl, hn, hc⟩ := h
  obtain ⟨b, o, rfl, hj⟩ := hc hk
  intro b' hb
  simp only [blockOf, Option.some.injEq] at hb; subst hb
  cases k with
  | nil => exact absurd rfl hk
  | cons x k => exact World.block_lt_of_cell? w _ (hj 0 x rfl)
@[go_sem] theorem eql28 (w : World) (a : Option Addr) (n c : Nat) : (binOp .eql 28 (.slice a n c) (.slice none 0 0)).run Try.prog w = .ok (.bool a.isNone) w := Lib.run_eql_slice_nil w 28 _ a n c 0 0 Try.underlying28
@[go_sem] theorem neq28 (w : World) (a : Option Addr) (n c : Nat) : (binOp .neq 28 (.slice a n c) (.slice none 0 0)).run Try.prog w = .ok (.bool (!a.isNone)) w := run_neq_slice_nil_any w 28 _ a n c 0 0 Try.underlying28
@[go_sem] theorem eql60 (w : World) (a : Option Addr) (n c : Nat) : (binOp .eql 60 (.slice a n c) (.slice none 0 0)).run Try.prog w = .ok (.bool a.isNone) w := Lib.run_eql_slice_nil w 60 _ a n c 0 0 Try.underlying60
@[go_sem] theorem neq60 (w : World) (a : Option Addr) (n c : Nat) : (binOp .neq 60 (.slice a n c) (.slice none 0 0)).run Try.prog w = .ok (.bool (!a.isNone)) w := run_neq_slice_nil_any w 60 _ a n c 0 0 Try.underlying60
end Go.Proofs.Qxb6615764a
