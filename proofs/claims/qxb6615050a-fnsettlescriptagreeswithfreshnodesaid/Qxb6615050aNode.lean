/-
  A node in memory: one block of eight cells. What a store into it does; what stores elsewhere leave of it. No walk here.
-/
import Derived.WalkKit
namespace Go.Proofs.Qxb6615050a
open Go.RowKit

theorem lt_of_some {w : World} {b : Nat} {o : Obj} (h : w.heap[b]? = some o) : b < w.heap.size := (Array.getElem?_eq_some_iff.1 h).1

theorem heap_setCell_at {w : World} {b : Nat} {c : Array Value} {t : TypeId} {m : Nat × Nat} (h : w.heap[b]? = some (.cells c t m)) (i : Nat) (u : Value) :
    (w.setCell ⟨b, i, none⟩ u).heap[b]? = some (.cells (c.setIfInBounds i u) t m) := by
  have hlt := lt_of_some h
  have h' : w.heap[b] = .cells c t m := by simpa [Array.getElem?_eq_getElem hlt] using h
  show (w.heap.modify b _)[b]? = _
  rw [Array.getElem?_eq_getElem (by simpa using hlt), Array.getElem_modify_self, h']
  simp

/-- The block of a node: its ways x, its parameter p, the table, the literals' nodes v, the route, the rest q, slash, text. -/
def NodeAt (w : World) (b : Nat) (x : Int) (p : Option Addr) (v : Value) (q : Option Addr) : Prop :=
  ∃ t r s y, w.heap[b]? = some (.cells #[.int .u8 x, .pointer p, t, v, r, .pointer q, s, y] 51 (0, 0))

theorem NodeAt.lt {w b x p v q} (h : NodeAt w b x p v q) : b < w.heap.size := by obtain ⟨_, _, _, _, h⟩ := h; exact lt_of_some h
theorem NodeAt.c0 {w b x p v q} (h : NodeAt w b x p v q) : w.cell? ⟨b, 0, none⟩ = some (.int .u8 x) := by obtain ⟨_, _, _, _, h⟩ := h; simp [World.cell?, h]
theorem NodeAt.c1 {w b x p v q} (h : NodeAt w b x p v q) : w.cell? ⟨b, 1, none⟩ = some (.pointer p) := by obtain ⟨_, _, _, _, h⟩ := h; simp [World.cell?, h]
theorem NodeAt.c3 {w b x p v q} (h : NodeAt w b x p v q) : w.cell? ⟨b, 3, none⟩ = some v := by obtain ⟨_, _, _, _, h⟩ := h; simp [World.cell?, h]
theorem NodeAt.c5 {w b x p v q} (h : NodeAt w b x p v q) : w.cell? ⟨b, 5, none⟩ = some (.pointer q) := by obtain ⟨_, _, _, _, h⟩ := h; simp [World.cell?, h]
theorem NodeAt.fr {w b x p v q} (h : NodeAt w b x p v q) (i : Nat) : w.frozen? ⟨b, i, none⟩ = false := by obtain ⟨_, _, _, _, h⟩ := h; simp [World.frozen?, h]
theorem NodeAt.same {w w' : World} {b x p v q} (h : NodeAt w b x p v q) (e : w'.heap[b]? = w.heap[b]?) : NodeAt w' b x p v q := by
  obtain ⟨t, r, s, y, h⟩ := h; exact ⟨t, r, s, y, by rw [e]; exact h⟩
theorem NodeAt.set0 {w b x p v q} (h : NodeAt w b x p v q) (x' : Int) : NodeAt (w.setCell ⟨b, 0, none⟩ (.int .u8 x')) b x' p v q := by
  obtain ⟨t, r, s, y, h⟩ := h; exact ⟨t, r, s, y, by rw [heap_setCell_at h]; rfl⟩
theorem NodeAt.set1 {w b x p v q} (h : NodeAt w b x p v q) (p' : Option Addr) : NodeAt (w.setCell ⟨b, 1, none⟩ (.pointer p')) b x p' v q := by
  obtain ⟨t, r, s, y, h⟩ := h; exact ⟨t, r, s, y, by rw [heap_setCell_at h]; rfl⟩
theorem NodeAt.set3 {w b x p v q} (h : NodeAt w b x p v q) (v' : Value) : NodeAt (w.setCell ⟨b, 3, none⟩ v') b x p v' q := by
  obtain ⟨t, r, s, y, h⟩ := h; exact ⟨t, r, s, y, by rw [heap_setCell_at h]; rfl⟩
theorem NodeAt.set5 {w b x p v q} (h : NodeAt w b x p v q) (q' : Option Addr) : NodeAt (w.setCell ⟨b, 5, none⟩ (.pointer q')) b x p v q' := by
  obtain ⟨t, r, s, y, h⟩ := h; exact ⟨t, r, s, y, by rw [heap_setCell_at h]; rfl⟩
theorem NodeAt.alloc {w b x p v q} (h : NodeAt w b x p v q) (o : Obj) : NodeAt (w.alloc o) b x p v q := h.same (Below.heap_alloc _ _ _ h.lt)
theorem NodeAt.below {w w' : World} {b x p v q} (h : NodeAt w b x p v q) {B : Nat} (k : Below B w w') (hb : b < B) : NodeAt w' b x p v q := h.same (k.block b hb)

/-- Only block b has turned. -/
structure Only (b : Nat) (w w' : World) : Prop where
  os : w'.os = w.os
  tape : w'.tape = w.tape
  output : w'.output = w.output
  size : w'.heap.size = w.heap.size
  block : ∀ k, k ≠ b → w'.heap[k]? = w.heap[k]?
theorem Only.refl (b : Nat) (w : World) : Only b w w := ⟨rfl, rfl, rfl, rfl, fun _ _ => rfl⟩
theorem Only.trans {b : Nat} {u v w : World} (h : Only b u v) (k : Only b v w) : Only b u w :=
  ⟨k.os.trans h.os, k.tape.trans h.tape, k.output.trans h.output, k.size.trans h.size, fun i hi => (k.block i hi).trans (h.block i hi)⟩
theorem Only.set {b : Nat} {u w : World} (h : Only b u w) (i : Nat) (x : Value) : Only b u (w.setCell ⟨b, i, none⟩ x) :=
  h.trans ⟨rfl, rfl, rfl, by simp, fun k hk => Below.heap_setCell _ _ _ _ hk⟩
theorem Only.below {b B : Nat} {w w' : World} (h : Only b w w') (hB : B ≤ b) : Below B w w' :=
  ⟨h.os, h.tape, h.output, by rw [h.size]; exact Nat.le_refl _, fun k hk => h.block k (by omega)⟩
theorem NodeAt.only {w w' : World} {b d x p v q} (h : NodeAt w b x p v q) (k : Only d w w') (hb : b ≠ d) : NodeAt w' b x p v q := h.same (k.block b hb)
theorem ownsRow_only {w w' : World} {b : Nat} {e : TypeId} {size : Nat} {v : Value} {n : Nat} {xs : List Value} (h : w.ownsRow (b + 1) e size v n xs) (k : Only b w w') : w'.ownsRow (b + 1) e size v n xs := by
  obtain ⟨h1, h2⟩ := h
  refine ⟨h1, ?_⟩
  rcases h2 with h2 | ⟨g, cap, cur, hv, hg, hh, r⟩
  · exact Or.inl h2
  · exact Or.inr ⟨g, cap, cur, hv, hg, by rw [k.block g (by omega)]; exact hh, r⟩

/-- What settle leaves. -/
def wv (rest param : Bool) (n : Nat) : Int := if rest then 0 else (if 0 < n then 1 else 0) + (if param then 2 else 0)
end Go.Proofs.Qxb6615050a
