/-
  Rows of pointers in memory, and what package slices does to them in place: Insert (41, 43), Delete (37, 44).
-/
import Derived.Test.Qxb6615764aCmp
import Derived.Shelf.Spec.SlicesInsert
namespace Go.Proofs.Qxb6615764a
open Go.RowKit
set_option linter.unusedVariables false
set_option linter.unusedSimpArgs false

/-- The block b is a row of plain memory that holds these cells. -/
def RowB (w : World) (b : Nat) (ty : TypeId) (cur : List Value) : Prop := w.heap[b]? = some (.cells cur.toArray ty (0, 0))
theorem RowB.lt {w : World} {b : Nat} {ty : TypeId} {cur : List Value} (h : RowB w b ty cur) : b < w.heap.size := lt_of_some h
theorem RowB.cell {w : World} {b : Nat} {ty : TypeId} {cur : List Value} (h : RowB w b ty cur) (j : Nat) : w.cell? ⟨b, j, none⟩ = cur[j]? := by
  unfold RowB at h
  simp [World.cell?, h]
theorem RowB.frozen {w : World} {b : Nat} {ty : TypeId} {cur : List Value} (h : RowB w b ty cur) (j : Nat) : w.frozen? ⟨b, j, none⟩ = false := by
  unfold RowB at h
  simp [World.frozen?, h]
theorem RowB.shape {w : World} {b : Nat} {ty : TypeId} {cur : List Value} (h : RowB w b ty cur) : w.shape? b = some (ty, cur.length) := by
  unfold RowB at h
  simp [World.shape?, h]
theorem RowB.kep {w w' : World} {M : Nat → Prop} {b : Nat} {ty : TypeId} {cur : List Value} (h : RowB w b ty cur) (k : Kep M w w') (hb : ¬ M b) : RowB w' b ty cur := by
  unfold RowB; rw [k.block b h.lt hb]; exact h
theorem RowB.drew {w : World} {b : Nat} {ty : TypeId} {cur : List Value} (h : RowB w b ty cur) : RowB w.drew b ty cur := h

theorem RowB.setCells {b : Nat} {ty : TypeId} : ∀ (vs : List Value) (o : Nat) (w : World) (cur : List Value), RowB w b ty cur → o + vs.length ≤ cur.length → RowB (w.setCells b o vs) b ty (cur.take o ++ vs ++ cur.drop (o + vs.length))
  | [], o, w, cur, h, _ => by simpa [World.setCells] using h
  | v :: vs, o, w, cur, h, ho => by
    simp only [List.length_cons] at ho
    have h1 : RowB (w.setCell ⟨b, o, none⟩ v) b ty (cur.set o v) := by
      unfold RowB at h ⊢
      simp only [World.setCell, Array.getElem?_modify, if_true, h]
      simp
    have := RowB.setCells vs (o + 1) _ _ h1 (by simp; omega)
    simp only [World.setCells]
    have e : (cur.set o v).take (o + 1) ++ vs ++ (cur.set o v).drop (o + 1 + vs.length) = cur.take o ++ (v :: vs) ++ cur.drop (o + (v :: vs).length) := by
      rw [List.drop_set_of_lt (by omega), List.take_set, List.set_eq_take_append_cons_drop]
      have hl : o < (cur.take (o + 1)).length := by simp; omega
      rw [if_pos hl]
      simp [List.take_take, List.length_cons, Nat.add_assoc, Nat.add_comm 1]
    rw [e] at this
    exact this
/-- Cells in the midst of a row. -/
theorem RowB.setMid {w : World} {b : Nat} {ty : TypeId} {L P Q S : List Value} {o : Nat} (h : RowB w b ty L) (hL : L = P ++ Q ++ S) (ho : o = P.length) (vs : List Value) (hv : vs.length = Q.length) : RowB (w.setCells b o vs) b ty (P ++ vs ++ S) := by
  subst hL ho
  have := RowB.setCells vs P.length w _ h (by simp [hv])
  have e : (P ++ Q ++ S).take P.length ++ vs ++ (P ++ Q ++ S).drop (P.length + vs.length) = P ++ vs ++ S := by
    rw [List.append_assoc P, List.take_left, hv, ← List.drop_drop, List.drop_left, List.drop_left]
  rwa [e] at this
theorem Kep.setCells {M : Nat → Prop} {a : World} {b : Nat} (hb : b < a.heap.size → M b) : ∀ (vs : List Value) (o : Nat) {w : World}, Kep M a w → Kep M a (w.setCells b o vs)
  | [], _, _, h => h
  | v :: vs, o, w, h => Kep.setCells hb vs (o + 1) (h.setCell ⟨b, o, none⟩ v hb)
end Go.Proofs.Qxb6615764a
