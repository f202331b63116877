/-
  The lookup's bootstrap entries in memory. No walk here.
-/
import Derived.Test.Qxb6608884aDoorNew
import Derived.Deep.AppendLies
namespace Go.Proofs.Qxb6608884aDoor
open Go.RowKit
set_option linter.unusedVariables false

/-- A contact with the zero ID, as cells. -/
def conA (h l : Int) (z : Option Addr) (p : Int) : Array Value := #[.int .u8 0, .int .u8 0, .int .u8 0, .int .u8 0, .int .u8 0, .int .u8 0, .int .u8 0, .int .u8 0, .int .u8 0, .int .u8 0, .int .u8 0, .int .u8 0, .int .u8 0, .int .u8 0, .int .u8 0, .int .u8 0, .int .u8 0, .int .u8 0, .int .u8 0, .int .u8 0, .int .u64 h, .int .u64 l, .pointer z, .int .u16 p]
/-- A fresh bootstrap entry, as cells. -/
def entA (h l : Int) (z : Option Addr) (p : Int) : Array Value := #[.int .u8 0, .int .u8 0, .int .u8 0, .int .u8 0, .int .u8 0, .int .u8 0, .int .u8 0, .int .u8 0, .int .u8 0, .int .u8 0, .int .u8 0, .int .u8 0, .int .u8 0, .int .u8 0, .int .u8 0, .int .u8 0, .int .u8 0, .int .u8 0, .int .u8 0, .int .u8 0, .int .u64 h, .int .u64 l, .pointer z, .int .u16 p,
  .int .u64 0, .int .u64 0, .int .u32 0, .int .i64 0, .int .u8 0, .int .u8 0, .int .u8 0, .int .u8 0, .int .u8 0, .int .u8 0, .int .u8 0, .int .u8 0, .int .u8 0, .int .u8 0, .int .u8 0, .int .u8 0, .int .u8 0, .int .u8 0, .int .u8 0, .int .u8 0, .int .u8 0, .int .u8 0, .int .u8 0, .int .u8 0, .int .u64 0, .int .u64 0, .int .u32 0, .bool false, .bool false, .int .i64 0]
def AddrD.ent (d : AddrD) (z6 z4 : Option Addr) : Array Value := entA d.hi d.lo (d.z z6 z4) d.port
def AddrD.con (d : AddrD) (z6 z4 : Option Addr) : Array Value := conA d.hi d.lo (d.z z6 z4) d.port

theorem lt_of_some {w : World} {b : Nat} {o : Obj} (h : w.heap[b]? = some o) : b < w.heap.size := (Array.getElem?_eq_some_iff.1 h).1
theorem heap_setCell_at {w : World} {b : Nat} {c : Array Value} {t : TypeId} {m : Nat × Nat} (h : w.heap[b]? = some (.cells c t m)) (i : Nat) (u : Value) :
    (w.setCell ⟨b, i, none⟩ u).heap[b]? = some (.cells (c.setIfInBounds i u) t m) := by
  have hlt := lt_of_some h
  have h' : w.heap[b] = .cells c t m := by simpa [Array.getElem?_eq_getElem hlt] using h
  show (w.heap.modify b _)[b]? = _
  rw [Array.getElem?_eq_getElem (by simpa using hlt), Array.getElem_modify_self, h']
  simp

theorem LookAt.c27 {w : World} {b : Nat} {v : Value} (h : LookAt w b v) : w.cell? ⟨b, 27, none⟩ = some v := by
  obtain ⟨L, h1, h2, h3⟩ := h; simp [World.cell?, h3, h2]
theorem LookAt.fr {w : World} {b : Nat} {v : Value} (h : LookAt w b v) (i : Nat) : w.frozen? ⟨b, i, none⟩ = false := by
  obtain ⟨L, h1, h2, h3⟩ := h; simp [World.frozen?, h3]
theorem LookAt.lt {w : World} {b : Nat} {v : Value} (h : LookAt w b v) : b < w.heap.size := by obtain ⟨L, h1, h2, h3⟩ := h; exact lt_of_some h3
theorem LookAt.same {w w' : World} {b : Nat} {v : Value} (h : LookAt w b v) (e : w'.heap[b]? = w.heap[b]?) : LookAt w' b v := by
  obtain ⟨L, h1, h2, h3⟩ := h; exact ⟨L, h1, h2, by rw [e]; exact h3⟩
theorem LookAt.set {w : World} {b : Nat} {v : Value} (h : LookAt w b v) (v' : Value) : LookAt (w.setCell ⟨b, 27, none⟩ v') b v' := by
  obtain ⟨L, h1, h2, h3⟩ := h; exact ⟨L.setIfInBounds 27 v', by simpa using h1, by simp [h1], heap_setCell_at h3 27 v'⟩

/-- Nothing that was there has turned but block b and the block 'row'. -/
structure KeptBut2 (b : Nat) (row : Option Nat) (w w' : World) : Prop where
  os : w'.os = w.os
  tape : w'.tape = w.tape
  output : w'.output = w.output
  size : w.heap.size ≤ w'.heap.size
  block : ∀ k, k < w.heap.size → k ≠ b → some k ≠ row → w'.heap[k]? = w.heap[k]?
theorem KeptBut2.refl (b : Nat) (row : Option Nat) (w : World) : KeptBut2 b row w w := ⟨rfl, rfl, rfl, Nat.le_refl _, fun _ _ _ _ => rfl⟩
theorem KeptBut2.below {b : Nat} {row : Option Nat} {w w1 w2 : World} (h : KeptBut2 b row w w1) (k : Below w1.heap.size w1 w2) : KeptBut2 b row w w2 :=
  ⟨k.os.trans h.os, k.tape.trans h.tape, k.output.trans h.output, Nat.le_trans h.size k.size, fun i hi h1 h2 => (k.block i (Nat.lt_of_lt_of_le hi h.size)).trans (h.block i hi h1 h2)⟩
theorem KeptBut2.grown {b : Nat} {row : Option Nat} {w w1 w2 : World} {r : Option Nat} (h : KeptBut2 b row w w1) (k : w1.grownBy w2 r) (hr : r = row ∨ ∀ g, r = some g → w.heap.size ≤ g) : KeptBut2 b row w w2 :=
  ⟨k.os.trans h.os, k.tape.trans h.tape, k.output.trans h.output, Nat.le_trans h.size k.size, fun i hi h1 h2 => (k.block i (Nat.lt_of_lt_of_le hi h.size) (by
    rcases hr with rfl | hr
    · exact h2
    · intro e; have := hr i e.symm; omega)).trans (h.block i hi h1 h2)⟩
theorem KeptBut2.set {b : Nat} {row : Option Nat} {w w1 : World} (h : KeptBut2 b row w w1) (i : Nat) (v : Value) : KeptBut2 b row w (w1.setCell ⟨b, i, none⟩ v) :=
  ⟨h.os, h.tape, h.output, by simpa using h.size, fun k hk h1 h2 => (Below.heap_setCell _ _ _ _ h1).trans (h.block k hk h1 h2)⟩

/-- The blocks of entries and addresses are neither the lookup's nor the row's: their cells' types part. -/
theorem ne_of_type {w : World} {k b : Nat} {C L : Array Value} {t u : TypeId} {m m' : Nat × Nat} (h : w.heap[k]? = some (.cells C t m)) (h' : w.heap[b]? = some (.cells L u m')) (ht : t ≠ u) : k ≠ b := by
  intro e; subst e; rw [h] at h'; injection h' with e; injection e with _ e2; exact ht e2
theorem ne_own {w : World} {k : Nat} {C : Array Value} {t : TypeId} {m : Nat × Nat} {base : Nat} {e : TypeId} {size : Nat} {v : Value} {n : Nat} {xs : List Value} (h : w.heap[k]? = some (.cells C t m)) (ho : w.ownsRow base e size v n xs) (ht : t ≠ e) : some k ≠ v.ownBlock := by
  rcases ho.2 with ⟨rfl, _⟩ | ⟨g, cap, cur, rfl, _, hg, _⟩
  · simp [Value.ownBlock]
  · simp only [Value.ownBlock]
    intro e'; injection e' with e'
    exact ne_of_type h hg ht e'
theorem LookAt.ne_own {w : World} {b : Nat} {v v' : Value} {base size n : Nat} {xs : List Value} (h : LookAt w b v) (ho : w.ownsRow base 52 size v' n xs) : some b ≠ v'.ownBlock := by
  obtain ⟨L, _, _, h3⟩ := h; exact Qxb6608884aDoor.ne_own h3 ho (by decide)

/-- The lookup at b holds m bootstrap entries: pointers ps, to fresh entries of the addresses D. -/
structure Boot (w : World) (b : Nat) (v : Value) (m : Nat) (D : Nat → AddrD) (z6 z4 : Option Addr) (ps : List Value) : Prop where
  look : LookAt w b v
  own : w.ownsRow 0 52 1 v m ps
  ent : ∀ i, i < m → ∃ e, ps[i]? = some (.pointer (some ⟨e, 0, none⟩)) ∧ w.heap[e]? = some (.cells ((D i).ent z6 z4) 68 (0, 0))
theorem Boot.len {w : World} {b : Nat} {v : Value} {m : Nat} {D : Nat → AddrD} {z6 z4 : Option Addr} {ps : List Value} (h : Boot w b v m D z6 z4 ps) : ps.length = m := by have := h.own.1; omega
theorem ownsRow_same {w w' : World} {base : Nat} {e : TypeId} {size : Nat} {v : Value} {n : Nat} {xs : List Value} (h : w.ownsRow base e size v n xs) (k : ∀ g, v.ownBlock = some g → w'.heap[g]? = w.heap[g]?) : w'.ownsRow base e size v n xs := by
  refine ⟨h.1, ?_⟩
  rcases h.2 with hn | ⟨g, cap, cur, rfl, hb, hgg, rest⟩
  · exact .inl hn
  · exact .inr ⟨g, cap, cur, rfl, hb, by rw [k g rfl]; exact hgg, rest⟩
theorem Boot.below {w w' : World} {b : Nat} {v : Value} {m : Nat} {D : Nat → AddrD} {z6 z4 : Option Addr} {ps : List Value} (h : Boot w b v m D z6 z4 ps) (k : Below w.heap.size w w') : Boot w' b v m D z6 z4 ps :=
  ⟨h.look.same (k.block b h.look.lt), ownsRow_below h.own k, fun i hi => by obtain ⟨e, h1, h2⟩ := h.ent i hi; exact ⟨e, h1, by rw [k.block e (lt_of_some h2)]; exact h2⟩⟩
/-- Another lookup's bootstrap leaves this one's entries. -/
theorem Boot.kept {w w' : World} {b : Nat} {v : Value} {m : Nat} {D : Nat → AddrD} {z6 z4 : Option Addr} {ps : List Value} (h : Boot w b v m D z6 z4 ps) {c : Nat} {row : Option Nat} (k : KeptBut2 c row w w') (hc : ∃ v', LookAt w c v' ∧ row = v'.ownBlock ∧ ∃ m' ps', w.ownsRow 0 52 1 v' m' ps') (hbc : b ≠ c) (hrow : row = none ∨ v.ownBlock ≠ row) : Boot w' b v m D z6 z4 ps := by
  obtain ⟨v', hl, rfl, m', ps', ho⟩ := hc
  obtain ⟨L, _, _, h3⟩ := hl
  refine ⟨h.look.same (k.block b h.look.lt hbc (h.look.ne_own ho)), ownsRow_same h.own (fun g hg => ?_), fun i hi => ?_⟩
  · have hlt := (h.own.lt g hg).2
    refine k.block g hlt ?_ ?_
    · intro e; subst e
      rcases h.own.2 with ⟨rfl, _⟩ | ⟨g', cap, cur, rfl, _, hg', _⟩
      · simp [Value.ownBlock] at hg
      · simp only [Value.ownBlock, Option.some.injEq] at hg; subst hg
        exact ne_of_type hg' h3 (by decide) rfl
    · rw [← hg]
      rcases hrow with hr | hr
      · rw [hr, hg]; simp
      · exact hr
  · obtain ⟨e, h1, h2⟩ := h.ent i hi
    exact ⟨e, h1, by rw [k.block e (lt_of_some h2) (ne_of_type h2 h3 (by decide)) (Qxb6608884aDoor.ne_own h2 ho (by decide))]; exact h2⟩

/-- An AddrPort row that addrsOf made. -/
theorem aps_length (z6 z4 : Option Addr) (D : Nat → AddrD) (n : Nat) : (aps z6 z4 D n).length = n * 4 := by
  induction n with
  | zero => rfl
  | succ n ih => rw [aps_succ, List.length_append, ih]; simp; omega
theorem aps_at (z6 z4 : Option Addr) (D : Nat → AddrD) (n k : Nat) (hk : k < n) : ∀ j, j < 4 → (aps z6 z4 D n)[k * 4 + j]? = [Value.int .u64 (D k).hi, .int .u64 (D k).lo, .pointer ((D k).z z6 z4), .int .u16 (D k).port][j]? := by
  intro j hj
  induction n with
  | zero => omega
  | succ n ih =>
    rw [aps_succ]
    by_cases h : k < n
    · rw [List.getElem?_append_left (by rw [aps_length]; omega)]; exact ih h
    · have : k = n := by omega
      subst this
      rw [List.getElem?_append_right (by rw [aps_length]; omega), aps_length]
      congr 1; omega
theorem owns_range {w : World} {base : Nat} {g n cap : Nat} {z6 z4 : Option Addr} {D : Nat → AddrD} (h : w.ownsRow base 42 4 (.slice (some ⟨g, 0, none⟩) n cap) n (aps z6 z4 D n)) (k : Nat) (hk : k < n) :
    w.rangeAt g (k * 4) [Value.int .u64 (D k).hi, .int .u64 (D k).lo, .pointer ((D k).z z6 z4), .int .u16 (D k).port] := by
  intro j v hv
  have hj : j < 4 := by
    rcases Nat.lt_or_ge j 4 with h | h
    · exact h
    · rw [List.getElem?_eq_none (by simpa using h)] at hv; cases hv
  rw [h.cellAt (k * 4 + j) (by omega), aps_at z6 z4 D n k hk j hj]; exact hv
end Go.Proofs.Qxb6608884aDoor
