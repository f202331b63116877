/-
  The walks of distanceTo (22), distance (18): they return, whatever the bytes; nothing that was there has turned.
-/
import Derived.Test.Qxb6608884aDoorAddrs
import Derived.Deep.RegionHeld3
import Derived.Deep.DrawnRows
namespace Go.Proofs.Qxb6608884aDoor
open Go.RowKit
set_option linter.unusedVariables false
attribute [local go_sem ↓] Go.wp_at_zero Go.wp_at_succ

theorem Bytes.sub {w : World} {b off n : Nat} (h : Bytes w b off n) (o m : Nat) (hm : o + m ≤ n) : Bytes w b (off + o) m :=
  ⟨h.1, fun i hi => by obtain ⟨x, hx⟩ := h.2 (o + i) (by omega); exact ⟨x, by rw [Nat.add_assoc]; exact hx⟩⟩
theorem Bytes.below {w w' : World} {B b off n : Nat} (h : Bytes w b off n) (k : Below B w w') (hb : b < B) : Bytes w' b off n :=
  ⟨Nat.lt_of_lt_of_le h.1 k.size, fun i hi => by obtain ⟨x, hx⟩ := h.2 i hi; exact ⟨x, (k.cell (p := ⟨b, off + i, none⟩) hb).trans hx⟩⟩

/-- What stays while distanceTo reckons: the two rows of bytes; the result's cells. -/
structure DS (w : World) (b off : Nat) (w' : World) : Prop where
  t : Bytes w' w.heap.size 0 20
  s : Bytes w' b off 20
  bel : Below w.heap.size w w'
  size : w.heap.size + 2 < w'.heap.size
  c0 : (w'.cell? ⟨w.heap.size + 1, 0, none⟩).isSome = true
  c1 : (w'.cell? ⟨w.heap.size + 1, 1, none⟩).isSome = true
  c2 : (w'.cell? ⟨w.heap.size + 1, 2, none⟩).isSome = true
  fr : ∀ i, w'.frozen? ⟨w.heap.size + 1, i, none⟩ = false
theorem DS.drew {w : World} {b off : Nat} {w' : World} (h : DS w b off w') : DS w b off w'.drew :=
  ⟨h.t, h.s, h.bel.drew, h.size, h.c0, h.c1, h.c2, h.fr⟩
theorem DS.call {w : World} {b off : Nat} {w1 w2 : World} (h : DS w b off w1) (k : Below w1.heap.size w1 w2) : DS w b off w2 := by
  have hs := h.size
  refine ⟨h.t.below k h.t.1, h.s.below k h.s.1, h.bel.trans (k.mono (by omega)), Nat.lt_of_lt_of_le hs k.size, ?_, ?_, ?_, fun i => ?_⟩
  · rw [k.cell (p := ⟨w.heap.size + 1, 0, none⟩) (by simp; omega)]; exact h.c0
  · rw [k.cell (p := ⟨w.heap.size + 1, 1, none⟩) (by simp; omega)]; exact h.c1
  · rw [k.cell (p := ⟨w.heap.size + 1, 2, none⟩) (by simp; omega)]; exact h.c2
  · rw [k.frozen (p := ⟨w.heap.size + 1, i, none⟩) (by simp; omega)]; exact h.fr i

theorem isSome_set {w : World} {a p : Addr} {v : Value} (h : (w.cell? p).isSome = true) : ((w.setCell a v).cell? p).isSome = true := by
  by_cases e : a = p
  · subst e
    obtain ⟨u, hu⟩ := Option.isSome_iff_exists.1 h
    rw [World.cell?_setCell_same w a _ hu]; rfl
  · rw [World.cell?_setCell_other w a _ _ e]; exact h
theorem Bytes.set {w : World} {b off n : Nat} (h : Bytes w b off n) (g i : Nat) (v : Value) (hg : b ≠ g) : Bytes (w.setCell ⟨g, i, none⟩ v) b off n :=
  ⟨by simpa using h.1, fun j hj => by obtain ⟨x, hx⟩ := h.2 j hj; exact ⟨x, by rw [World.cell?_setCell_other w ⟨g, i, none⟩ ⟨b, off + j, none⟩ v (by intro e; injection e with e1; exact hg e1.symm)]; exact hx⟩⟩
theorem DS.store {w : World} {b off : Nat} {w' : World} (h : DS w b off w') (hb : b < w.heap.size) (i : Nat) (v : Value) : DS w b off (w'.setCell ⟨w.heap.size + 1, i, none⟩ v) :=
  ⟨h.t.set _ _ _ (by omega), h.s.set _ _ _ (by omega), h.bel.setCell (by simp) _, by simpa using h.size, isSome_set h.c0, isSome_set h.c1, isSome_set h.c2, fun j => by simpa using h.fr j⟩

set_option maxHeartbeats 2000000 in
theorem distTo_any (T : Array Value) (b off : Nat) (w : World) (hT : T.size = 20) (hTb : ∀ i, i < 20 → ∃ x, T[i]? = some (.int .u8 x)) (hs : Bytes w b off 20) :
    Calls Tryd.prog 22 #[.agg T, .slice (some ⟨b, off, none⟩) 20 20] w fun e w' => (∃ h m l, e = .returned (.agg #[.int .u64 h, .int .u64 m, .int .u32 l])) ∧ Below w.heap.size w w' := by
  have hbw := hs.1
  have HD : Hid (DS w b off (((w.alloc (.cells T 29)).alloc (.cells #[.int .u64 0, .int .u64 0, .int .u32 0] 56)).alloc (.cells #[] 77))) := by
    refine ⟨⟨by simp; omega, fun i hi => ?_⟩, ?_, ?_, by simp, by simp [go_sem], by simp [go_sem], by simp [go_sem], fun i => by simp [go_sem]⟩
    · obtain ⟨x, hx⟩ := hTb i hi
      exact ⟨x, by simp [go_sem, hx]⟩
    · exact ((hs.below ((Below.refl _ _).alloc (Nat.le_refl _) _) hbw).below ((Below.refl _ _).alloc (Nat.le_refl _) _) (by simp; omega)).below ((Below.refl _ _).alloc (Nat.le_refl _) _) (by simp; omega)
    · exact (((Below.refl _ _).alloc (Nat.le_refl _) _).alloc (by simp) _).alloc (by simp; omega) _
  clear hTb hs
  go_enter Tryd.func22, Tryd.ntmps22
  go_wp2
  have hD := HD.out
  go_region_held3 (fun w' => DS w b off w') (first | exact DS.drew ‹_› | exact ‹DS w b off _› | exact ((DS.store ‹_› hbw 0 _).store hbw 1 _).store hbw 2 _)
    (first
      | (go_at_call 24; refine Calls.mono (uint64_any ?_ ?_) ?_; (omega); (first | exact (DS.t ‹_›).sub 0 8 (by omega) | exact (DS.s ‹_›).sub 0 8 (by omega) | exact (DS.t ‹_›).sub 8 8 (by omega) | exact (DS.s ‹_›).sub 8 8 (by omega)); rintro e w' ⟨⟨y, rfl⟩, hb⟩; have hD' := DS.call ‹_› hb; clear hb)
      | (go_at_call 25; refine Calls.mono (uint32_any ?_ ?_) ?_; (omega); (first | exact (DS.t ‹_›).sub 16 4 (by omega) | exact (DS.s ‹_›).sub 16 4 (by omega)); rintro e w' ⟨⟨y, rfl⟩, hb⟩; have hD' := DS.call ‹_› hb; clear hb; obtain ⟨v0, k0⟩ := Option.isSome_iff_exists.1 hD'.c0; obtain ⟨v1, k1⟩ := Option.isSome_iff_exists.1 hD'.c1; obtain ⟨v2, k2⟩ := Option.isSome_iff_exists.1 hD'.c2; have f0 := hD'.fr 0; have f1 := hD'.fr 1; have f2 := hD'.fr 2))
  go_wp2
  rename_i w1 y1 d1 w2 y2 d2 w3 y3 d3 w4 y4 d4 w5 y5 d5 v0a k0a v1a k1a v2a k2a f0a f1a f2a hH
  refine bodyPost_ret (v := .agg #[.int .u64 (bits BinOp.xor IntKind.u64 y1 y2), .int .u64 (bits BinOp.xor IntKind.u64 y3 y4), .int .u32 (bits BinOp.xor IntKind.u32 y5 y)]) ?_ rfl ⟨⟨_, _, _, rfl⟩, hH.bel⟩
  simp [results, Tryd.results22, go_sem, k0, k1, k2]
end Go.Proofs.Qxb6608884aDoor
