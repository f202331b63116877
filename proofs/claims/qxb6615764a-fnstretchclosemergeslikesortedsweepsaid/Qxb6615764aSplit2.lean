/-
  The walk of split (40) at an inner child.
-/
import Derived.Test.Qxb6615764aApp
namespace Go.Proofs.Qxb6615764a
open Go.RowKit Go.Lib
set_option linter.unusedVariables false
set_option linter.unusedSimpArgs false

/-- An inner node's three blocks. -/
structure NodeR (w : World) (nb ib cb ns nk : Nat) (S K : List Value) : Prop where
  node : RowB w nb 62 [.slice (some ⟨ib, 0, none⟩) ns 63, .slice (some ⟨cb, 0, none⟩) nk 64]
  row : RowB w ib 46 S
  kid : RowB w cb 55 K
theorem NodeR.kep {w w' : World} {M : Nat → Prop} {nb ib cb ns nk : Nat} {S K : List Value} (h : NodeR w nb ib cb ns nk S K) (k : Kep M w w') (h1 : ¬ M nb) (h2 : ¬ M ib) (h3 : ¬ M cb) : NodeR w' nb ib cb ns nk S K :=
  ⟨h.node.kep k h1, h.row.kep k h2, h.kid.kep k h3⟩
theorem NodeR.lt {w : World} {nb ib cb ns nk : Nat} {S K : List Value} (h : NodeR w nb ib cb ns nk S K) : nb < w.heap.size ∧ ib < w.heap.size ∧ cb < w.heap.size := ⟨h.node.lt, h.row.lt, h.kid.lt⟩
theorem NodeR.c0 {w : World} {nb ib cb ns nk : Nat} {S K : List Value} (h : NodeR w nb ib cb ns nk S K) : w.cell? ⟨nb, 0, none⟩ = some (.slice (some ⟨ib, 0, none⟩) ns 63) := by rw [h.node.cell]; rfl
theorem NodeR.c1 {w : World} {nb ib cb ns nk : Nat} {S K : List Value} (h : NodeR w nb ib cb ns nk S K) : w.cell? ⟨nb, 1, none⟩ = some (.slice (some ⟨cb, 0, none⟩) nk 64) := by rw [h.node.cell]; rfl
theorem NodeR.set0 {w : World} {nb ib cb ns nk : Nat} {S K : List Value} (h : NodeR w nb ib cb ns nk S K) (n : Nat) : NodeR (w.setCell ⟨nb, 0, none⟩ (.slice (some ⟨ib, 0, none⟩) n 63)) nb ib cb n nk S K := by
  have k : Kep (fun k => k = nb) w (w.setCell ⟨nb, 0, none⟩ (.slice (some ⟨ib, 0, none⟩) n 63)) := (Kep.refl _ _).setCell _ _ (fun _ => rfl)
  exact ⟨h.node.set (P := []) rfl rfl, h.row.kep k (Ne.symm (row_ne h.node h.row (by decide))), h.kid.kep k (Ne.symm (row_ne h.node h.kid (by decide)))⟩
theorem NodeR.set1 {w : World} {nb ib cb ns nk : Nat} {S K : List Value} (h : NodeR w nb ib cb ns nk S K) (n : Nat) : NodeR (w.setCell ⟨nb, 1, none⟩ (.slice (some ⟨cb, 0, none⟩) n 64)) nb ib cb ns n S K := by
  have k : Kep (fun k => k = nb) w (w.setCell ⟨nb, 1, none⟩ (.slice (some ⟨cb, 0, none⟩) n 64)) := (Kep.refl _ _).setCell _ _ (fun _ => rfl)
  exact ⟨h.node.set (P := [.slice (some ⟨ib, 0, none⟩) ns 63]) rfl rfl, h.row.kep k (Ne.symm (row_ne h.node h.row (by decide))), h.kid.kep k (Ne.symm (row_ne h.node h.kid (by decide)))⟩
theorem kep_set (w : World) (b o : Nat) (v : Value) : Kep (fun k => k = b) w (w.setCell ⟨b, o, none⟩ v) := (Kep.refl _ _).setCell _ _ (fun _ => rfl)
end Go.Proofs.Qxb6615764a
