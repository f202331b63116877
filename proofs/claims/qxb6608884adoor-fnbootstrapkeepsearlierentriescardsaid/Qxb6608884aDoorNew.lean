/-
  The walks of newLookup (14), ZZnewLookup (7).
-/
import Derived.Test.Qxb6608884aDoorDist2
namespace Go.Proofs.Qxb6608884aDoor
open Go.RowKit
set_option linter.unusedVariables false
set_option linter.unusedSimpArgs false
attribute [local go_sem ↓] Go.wp_at_zero Go.wp_at_succ

/-- Twenty bytes as an array's cells. -/
def idA (t : Nat → Int) : Array Value := #[.int .u8 (t 0), .int .u8 (t 1), .int .u8 (t 2), .int .u8 (t 3), .int .u8 (t 4), .int .u8 (t 5), .int .u8 (t 6), .int .u8 (t 7), .int .u8 (t 8), .int .u8 (t 9), .int .u8 (t 10), .int .u8 (t 11), .int .u8 (t 12), .int .u8 (t 13), .int .u8 (t 14), .int .u8 (t 15), .int .u8 (t 16), .int .u8 (t 17), .int .u8 (t 18), .int .u8 (t 19)]
theorem idA_is (t : Nat → Int) : IsID (idA t).toList := ⟨rfl, fun i hi => ⟨t i, by
  match i, hi with
  | 0, _ => rfl
  | 1, _ => rfl
  | 2, _ => rfl
  | 3, _ => rfl
  | 4, _ => rfl
  | 5, _ => rfl
  | 6, _ => rfl
  | 7, _ => rfl
  | 8, _ => rfl
  | 9, _ => rfl
  | 10, _ => rfl
  | 11, _ => rfl
  | 12, _ => rfl
  | 13, _ => rfl
  | 14, _ => rfl
  | 15, _ => rfl
  | 16, _ => rfl
  | 17, _ => rfl
  | 18, _ => rfl
  | 19, _ => rfl
  | i + 20, hi => exact absurd hi (by omega)⟩⟩

theorem dist_id (t u : Nat → Int) (w : World) :
    Calls Tryd.prog 18 #[.agg (idA t), .agg (idA u)] w fun e w' => (∃ h m l, e = .returned (.agg #[.int .u64 h, .int .u64 m, .int .u32 l])) ∧ Below w.heap.size w w' := by
  have := dist_any (idA t).toList (idA u).toList w (idA_is t) (idA_is u)
  rwa [Array.toArray_toList, Array.toArray_toList] at this

/-- A fresh lookup's cells. -/
def lookA (t : Nat → Int) (k h m l : Int) : Array Value := #[.int .u8 (t 0), .int .u8 (t 1), .int .u8 (t 2), .int .u8 (t 3), .int .u8 (t 4), .int .u8 (t 5), .int .u8 (t 6), .int .u8 (t 7), .int .u8 (t 8), .int .u8 (t 9), .int .u8 (t 10), .int .u8 (t 11), .int .u8 (t 12), .int .u8 (t 13), .int .u8 (t 14), .int .u8 (t 15), .int .u8 (t 16), .int .u8 (t 17), .int .u8 (t 18), .int .u8 (t 19), .int .i64 k, .int .u64 h, .int .u64 m, .int .u32 l, .slice none 0 0, .pointer none, .pointer none, .slice none 0 0, .nilIface, .int .i64 0, .int .i64 0, .bool false, .slice none 0 0, .bool false]
theorem build62 (t : Nat → Int) (k h m l : Int) (w : World) : (Instr.build 62 #[(0, .agg (idA t)), (1, .int .i64 k), (2, .agg #[.int .u64 h, .int .u64 m, .int .u32 l])]).run Tryd.prog w = .ok (.agg (lookA t k h m l)) w := by kernel_rfl
theorem build29 (w : World) : (Instr.build 29 #[]).run Tryd.prog w = .ok (.agg (idA fun _ => 0)) w := by kernel_rfl

/-- The lookup's block: its boot entries in cell 27. -/
def LookAt (w : World) (b : Nat) (v : Value) : Prop := ∃ L : Array Value, L.size = 34 ∧ L[27]? = some v ∧ w.heap[b]? = some (.cells L 62 (0, 0))

set_option maxRecDepth 100000 in
set_option maxHeartbeats 1000000 in
theorem new_any (t : Nat → Int) (k : Int) (w : World) :
    Calls Tryd.prog 14 #[.agg (idA t), .int .i64 k] w fun e w' => (∃ b, e = .returned (.pointer (some ⟨b, 0, none⟩)) ∧ w.heap.size ≤ b ∧ LookAt w' b (.slice none 0 0)) ∧ Below w.heap.size w w' := by
  have b62 := build62 t k
  have b29 := build29
  have hi : (Tryd.prog.info? 29).map (·.size) = some (idA t).toList.length := Tryd.size29
  have hr : (w.alloc (.cells (idA t) 29)).rangeAt w.heap.size 0 (idA t).toList := by
    have := rangeAt_new w (idA t).toList 29
    rwa [Array.toArray_toList] at this
  have HI : Hid ((Tryd.prog.info? 29).map (·.size) = some (idA t).toList.length) := hi
  clear hi
  go_enter Tryd.func14, Tryd.ntmps14
  go_wp2
  refine wp_region_noPanic ?_
  refine wp_region_held_drew (S := fun w' => w'.rangeAt w.heap.size 0 (idA t).toList) (by kernel_rfl) ((World.rangeAt_drew _ _ _ _).2 hr) (fun hHeld => ?_)
  refine wpAnyH_take (i := 0) (v := _) rfl (by kernel_rfl) (by kernel_rfl) (by kernel_rfl) (fun _ _ _ h => h) (yieldsIf_load_mid (by rfl) _ _ rfl _ _ rfl (idA t).toList _ (fun w' h => h) Tryd.underlying29 rfl HI.out) (by assumption) ?_
  simp only [Act.put, List.setIfInBounds_toArray, List.set_cons_zero, List.set_cons_succ, Array.toArray_toList]
  refine wpAnyH_take (i := 2) (v := _) rfl (by kernel_rfl) (by kernel_rfl) (by kernel_rfl) (fun _ _ _ h => h) (yieldsIf_load_mid (by rfl) _ _ rfl _ _ rfl (idA t).toList _ (fun w' h => h) Tryd.underlying29 rfl HI.out) (by assumption) ?_
  simp only [Act.put, List.setIfInBounds_toArray, List.set_cons_zero, List.set_cons_succ, Array.toArray_toList]
  refine wpAnyH_take (i := 1) (v := .int .i64 k) rfl (by kernel_rfl) (by kernel_rfl) (by kernel_rfl) (fun _ _ _ h => h) (Or.inl ⟨by rfl, fun w' hSw => by go_simp⟩) (by assumption) ?_
  try simp only [Act.put, List.getElem_toArray, List.getElem_cons_succ, List.getElem_cons_zero, List.setIfInBounds_toArray, List.set_cons_zero, List.set_cons_succ]
  refine wpAnyH_take (i := 3) (v := .agg (idA fun _ => 0)) rfl (by kernel_rfl) (by kernel_rfl) (by kernel_rfl) (fun _ _ _ h => h) (Or.inl ⟨by rfl, fun w' hSw => by go_simp; rfl⟩) (by assumption) ?_
  try simp only [Act.put, List.getElem_toArray, List.getElem_cons_succ, List.getElem_cons_zero, List.setIfInBounds_toArray, List.set_cons_zero, List.set_cons_succ]
  refine wpAnyH_ready (rs := [4]) (by kernel_rfl) (by simp) ?_
  refine AllReadyH.cons rfl (fun K hK => ?_) AllReadyH.nil
  go_simp
  refine (dist_id t (fun _ => 0) _).mono ?_
  rintro e w1 ⟨⟨y1, y2, y3, rfl⟩, hb⟩
  have hr1 := rangeAt_below ((World.rangeAt_drew _ _ _ _).2 hr) hb (by simp)
  refine hK.out _ _ hr1 (fun hHeld => ?_)
  clear hK
  try simp only [Act.put, List.getElem_toArray, List.getElem_cons_succ, List.getElem_cons_zero, List.setIfInBounds_toArray, List.set_cons_zero, List.set_cons_succ]
  refine wpAnyH_take (i := 5) (v := .agg (lookA t k y1 y2 y3)) rfl (by kernel_rfl) (by kernel_rfl) (by kernel_rfl) (fun _ _ _ h => h) (Or.inl ⟨by rfl, fun w' hSw => by kernel_rfl⟩) (by assumption) ?_
  try simp only [Act.put, List.getElem_toArray, List.getElem_cons_succ, List.getElem_cons_zero, List.setIfInBounds_toArray, List.set_cons_zero, List.set_cons_succ]
  refine wpAnyH_ready (rs := [6]) (by kernel_rfl) (by simp) ?_
  refine AllReadyH.cons rfl (fun K hK => ?_) AllReadyH.nil
  go_simp
  refine hK.out _ _ (World.rangeAt_alloc hr1 _) (fun hHeld => ?_)
  clear hK
  try simp only [Act.put, List.getElem_toArray, List.getElem_cons_succ, List.getElem_cons_zero, List.setIfInBounds_toArray, List.set_cons_zero, List.set_cons_succ]
  refine wpAnyH_take (i := 7) (v := .pointer (some ⟨w1.heap.size, 0, none⟩)) rfl (by kernel_rfl) (by kernel_rfl) (by kernel_rfl) (fun _ _ _ h => h) (Or.inl ⟨by rfl, fun w' hSw => by kernel_rfl⟩) (by assumption) ?_
  try simp only [Act.put, List.getElem_toArray, List.getElem_cons_succ, List.getElem_cons_zero, List.setIfInBounds_toArray, List.set_cons_zero, List.set_cons_succ]
  refine wpAnyH_done (by kernel_rfl) ?_ _
  refine NoPanic.normal ?_
  have hs1 : w.heap.size + 1 ≤ w1.heap.size := by have := hb.size; simpa using this
  have HB : Hid (Below w.heap.size w w1) := ((Below.refl _ _).alloc (Nat.le_refl _) _).drew.trans (hb.mono (by simp))
  clear hb
  go_wp2
  go_ret
  exact ⟨⟨w1.heap.size, rfl, by omega, lookA t k y1 y2 y3, rfl, rfl, heap_alloc_new _ _⟩, HB.out.alloc (by omega) _⟩

theorem zznew_any (t : Nat → Int) (k : Int) (w : World) :
    Calls Tryd.prog 7 #[.agg (idA t), .int .i64 k] w fun e w' => (∃ b, e = .returned (.pointer (some ⟨b, 0, none⟩)) ∧ w.heap.size ≤ b ∧ LookAt w' b (.slice none 0 0)) ∧ Below w.heap.size w w' := by
  have hg : (w.alloc (.cells (idA t) 29)).heap[w.heap.size]? = some (.cells (idA t) 29 (0, 0)) := heap_alloc_new _ _
  have HG : Hid ((w.alloc (.cells (idA t) 29)).heap[w.heap.size]? = some (.cells (idA t) 29 (0, 0))) := hg
  clear hg
  go_enter Tryd.func7, Tryd.ntmps7
  go_wp2_with (refine wpList_load_row rfl 29 (.tmp 2) rfl w.heap.size rfl 29 (idA t) (0, 0) _ HG.out Tryd.underlying29 rfl Tryd.size29 ?_)
  refine (new_any t k _).mono ?_
  rintro e w1 ⟨⟨b, rfl, hb, hL⟩, hbel⟩
  have HR : Hid (w.heap.size ≤ b ∧ LookAt w1 b (.slice none 0 0) ∧ Below w.heap.size w w1) := ⟨by simp at hb; omega, hL, ((Below.refl _ _).alloc (Nat.le_refl _) _).trans (hbel.mono (by simp))⟩
  clear hb hL hbel HG
  go_wp2_with fail
  go_ret
  exact ⟨⟨b, rfl, HR.out.1, HR.out.2.1⟩, HR.out.2.2⟩
end Go.Proofs.Qxb6608884aDoor
