/-
  The walk of distance (18).
-/
import Derived.Test.Qxb6608884aDoorDist
namespace Go.Proofs.Qxb6608884aDoor
open Go.RowKit
set_option linter.unusedVariables false
attribute [local go_sem ↓] Go.wp_at_zero Go.wp_at_succ

/-- Twenty bytes. -/
def IsID (T : List Value) : Prop := T.length = 20 ∧ ∀ i, i < 20 → ∃ x, T[i]? = some (.int .u8 x)
theorem IsID.one {T : List Value} (h : IsID T) : ∀ v ∈ T, v.oneCell' = true := by
  intro v hv
  obtain ⟨i, hi, rfl⟩ := List.getElem_of_mem hv
  obtain ⟨x, hx⟩ := h.2 i (by rw [← h.1]; exact hi)
  rw [List.getElem?_eq_getElem hi] at hx
  simp only [Option.some.injEq] at hx
  rw [hx]; rfl

theorem Tryd.size29 : (Tryd.prog.info? 29).map (·.size) = some 20 := by kernel_rfl

structure DT (w : World) (T : List Value) (w' : World) : Prop where
  r : w'.rangeAt w.heap.size 0 T
  s : Bytes w' (w.heap.size + 1) 0 20
  bel : Below w.heap.size w w'
  size : w.heap.size + 2 < w'.heap.size
  c0 : (w'.cell? ⟨w.heap.size + 2, 0, none⟩).isSome = true
  c1 : (w'.cell? ⟨w.heap.size + 2, 1, none⟩).isSome = true
  c2 : (w'.cell? ⟨w.heap.size + 2, 2, none⟩).isSome = true
  fr : ∀ i, w'.frozen? ⟨w.heap.size + 2, i, none⟩ = false
theorem DT.drew {w : World} {T : List Value} {w' : World} (h : DT w T w') : DT w T w'.drew :=
  ⟨h.r, h.s, h.bel.drew, h.size, h.c0, h.c1, h.c2, h.fr⟩
theorem DT.call {w : World} {T : List Value} {w1 w2 : World} (h : DT w T w1) (k : Below w1.heap.size w1 w2) : DT w T w2 := by
  have hs := h.size
  refine ⟨rangeAt_below h.r k (by omega), h.s.below k h.s.1, h.bel.trans (k.mono (by omega)), Nat.lt_of_lt_of_le hs k.size, ?_, ?_, ?_, fun i => ?_⟩
  · rw [k.cell (p := ⟨w.heap.size + 2, 0, none⟩) (by simp; omega)]; exact h.c0
  · rw [k.cell (p := ⟨w.heap.size + 2, 1, none⟩) (by simp; omega)]; exact h.c1
  · rw [k.cell (p := ⟨w.heap.size + 2, 2, none⟩) (by simp; omega)]; exact h.c2
  · rw [k.frozen (p := ⟨w.heap.size + 2, i, none⟩) (by simp; omega)]; exact h.fr i
theorem rangeAt_set {w : World} {b o : Nat} {cs : List Value} (h : w.rangeAt b o cs) (g i : Nat) (v : Value) (hg : b ≠ g) : (w.setCell ⟨g, i, none⟩ v).rangeAt b o cs := fun j u hu => by
  rw [World.cell?_setCell_other w ⟨g, i, none⟩ ⟨b, o + j, none⟩ v (by intro e; injection e with e1; exact hg e1.symm)]; exact h j u hu
theorem DT.store {w : World} {T : List Value} {w' : World} (h : DT w T w') (i : Nat) (v : Value) : DT w T (w'.setCell ⟨w.heap.size + 2, i, none⟩ v) :=
  ⟨rangeAt_set h.r _ _ _ (by omega), h.s.set _ _ _ (by omega), h.bel.setCell (by simp) _, by simpa using h.size, isSome_set h.c0, isSome_set h.c1, isSome_set h.c2, fun j => by simpa using h.fr j⟩
theorem rangeAt_new (w : World) (T : List Value) (t : TypeId) : (w.alloc (.cells T.toArray t)).rangeAt w.heap.size 0 T := fun j v hv => by
  rw [Nat.zero_add, World.cell?_alloc_at _ _ _ _ rfl]; simpa using hv

set_option maxRecDepth 100000 in
set_option maxHeartbeats 1000000 in
theorem dist_any (T U : List Value) (w : World) (hT : IsID T) (hU : IsID U) :
    Calls Tryd.prog 18 #[.agg T.toArray, .agg U.toArray] w fun e w' => (∃ h m l, e = .returned (.agg #[.int .u64 h, .int .u64 m, .int .u32 l])) ∧ Below w.heap.size w w' := by
  have HD : Hid (DT w T (((w.alloc (.cells T.toArray 29)).alloc (.cells U.toArray 29)).alloc (.cells #[.int .u64 0, .int .u64 0, .int .u32 0] 56))) := by
    refine ⟨?_, ⟨by simp, fun i hi => ?_⟩, ?_, by simp, by simp [go_sem], by simp [go_sem], by simp [go_sem], fun i => by simp [go_sem]⟩
    · exact (World.rangeAt_alloc (World.rangeAt_alloc (rangeAt_new w T 29) _) _)
    · obtain ⟨x, hx⟩ := hU.2 i hi
      exact ⟨x, by simp [go_sem, hx]⟩
    · exact (((Below.refl _ _).alloc (Nat.le_refl _) _).alloc (by simp) _).alloc (by simp; omega) _
  have hu := Tryd.underlying29
  have hi : (Tryd.prog.info? 29).map (·.size) = some T.length := by rw [hT.1]; exact Tryd.size29
  have hl : T.length = 20 := hT.1
  have h1 := hT.one
  have HT : Hid (IsID T) := hT
  clear hT hU
  go_enter Tryd.func18, Tryd.ntmps18
  go_wp2
  have hD := HD.out
  go_region_held3 (fun w' => w'.rangeAt w.heap.size 0 T ∧ DT w T w') (first | exact ⟨(DT.drew ‹_›).r, DT.drew ‹_›⟩ | exact ⟨(‹DT w T _›).r, ‹DT w T _›⟩ | exact ⟨((((DT.store ‹_› 0 _).store 1 _).store 2 _)).r, ((DT.store ‹_› 0 _).store 1 _).store 2 _⟩)
    ((go_at_call 22; refine Calls.mono (distTo_any _ _ _ _ ?_ ?_ ?_) ?_; (simpa using hl); (simpa using HT.out.2); exact DT.s (T := T) (w := w) (And.right (by assumption)); rintro e w' ⟨⟨y1, y2, y3, rfl⟩, hb⟩; have hD' := DT.call (T := T) (w := w) (And.right (by assumption)) hb; clear hb; obtain ⟨v0, k0⟩ := Option.isSome_iff_exists.1 hD'.c0; obtain ⟨v1, k1⟩ := Option.isSome_iff_exists.1 hD'.c1; obtain ⟨v2, k2⟩ := Option.isSome_iff_exists.1 hD'.c2; have f0 := hD'.fr 0; have f1 := hD'.fr 1; have f2 := hD'.fr 2))
  go_wp2
  rename_i hH
  refine bodyPost_ret (v := .agg #[.int .u64 y1, .int .u64 y2, .int .u32 y3]) ?_ rfl ⟨⟨_, _, _, rfl⟩, hH.2.bel⟩
  simp [results, Tryd.results18, go_sem, k0, k1, k2]
end Go.Proofs.Qxb6608884aDoor
