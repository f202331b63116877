/-
  The walks of slices.Delete at []*keyRange (37) and []*node (44), one value: in place.
-/
import Derived.Test.Qxb6615764aIns
import Derived.Deep.RegionLaw
import Derived.ArgAppend
import Derived.Deep.RegionHeld3
namespace Go.Proofs.Qxb6615764a
open Go.RowKit Go.Lib
set_option linter.unusedVariables false
set_option linter.unusedSimpArgs false

theorem step_append_runI {P : Program} {ops : Array Oper} {o : Oper} {a : Act} {w : World} {K : Act → World → Prop} {Q : Exit → Act → World → Prop} {E : Prop}
    (hg : o.guard = none) (d x : Operand) (t : TypeId) (hop : o.op = Op.call { callee := Callee.builtin Builtin.append, args := #[d, x], argTypes := #[t, t] })
    (v u : Value) (hd : a.eval d = v) (hx : a.eval x = u) {v' : Value} {w' : World} (hr : (Builtin.append_ #[t, t] o.type #[v, u]).run P w = .ok v' w') (hK : K (a.put o.dst v') w') :
    if Region.wanted o (yielded ops a.tmps) = true then Oper.wp P o a w K Q else E := by
  have hw : Region.wanted o (yielded ops a.tmps) = true := by simp [Region.wanted, hg]
  rw [if_pos hw]
  unfold Oper.wp
  simp [execOp, hop, resolve, invoke, builtin, hd, hx, hr, Result.andThen]
  exact hK
theorem wpList_append_runI {P : Program} (w : World) {ops : Array Oper} {rest : List Oper} {o : Oper} {a : Act} {Q : Exit → Act → World → Prop} (hgd : o.guard = none) (d s : Operand) (t : TypeId)
    (hop : o.op = .call { callee := .builtin .append, args := #[d, s], argTypes := #[t, t] }) (v u : Value) (hd : a.eval d = v) (hs : a.eval s = u) {v' : Value} {w' : World}
    (hr : (Builtin.append_ #[t, t] o.type #[v, u]).run P w = .ok v' w') (h : wpList P ops Q rest (a.put o.dst v') w') : wpList P ops Q (o :: rest) a w :=
  wpList_plain hgd fun _ hK => by
    unfold Oper.wp
    simp [execOp, hop, resolve, invoke, builtin, hd, hs, hr, Result.andThen]
    exact hK _ _ h
theorem wpList_clear_runI {P : Program} (w : World) {ops : Array Oper} {rest : List Oper} {o : Oper} {a : Act} {Q : Exit → Act → World → Prop} (hgd : o.guard = none) (d : Operand) (t : TypeId)
    (hop : o.op = .call { callee := .builtin .clear, args := #[d], argTypes := #[t] }) (v : Value) (hd : a.eval d = v) {v' : Value} {w' : World}
    (hr : (Builtin.clear_ #[t] o.type #[v]).run P w = .ok v' w') (h : wpList P ops Q rest (a.put o.dst v') w') : wpList P ops Q (o :: rest) a w :=
  wpList_plain hgd fun _ hK => by
    unfold Oper.wp
    simp [execOp, hop, resolve, invoke, builtin, hd, hr, Result.andThen]
    exact hK _ _ h

set_option maxHeartbeats 4000000 in
set_option maxRecDepth 100000 in
/-- slices.Delete, one value, not the last. -/
theorem delete37_mid {w : World} {b i n c : Nat} {A B rest : List Value} {x y : Value} (hB : RowB w b 46 (A ++ x :: (y :: B) ++ rest)) (hi : i = A.length) (hn : n = A.length + 1 + (B.length + 1)) (hc : c = n + rest.length) (hcm : c ≤ 1000) (h1 : ∀ u ∈ y :: B, u.oneCell' = true) :
    Calls Try.prog 37 #[.slice (some ⟨b, 0, none⟩) n c, .int .i64 (i : Int), .int .i64 ((i : Int) + 1)] w fun e w' =>
      e = .returned (.slice (some ⟨b, 0, none⟩) (n - 1) c) ∧ RowB w' b 46 (A ++ (y :: B) ++ .pointer none :: rest) ∧ Kep (fun k => k = b) w w' := by
  obtain ⟨z, B', hz⟩ : ∃ z B', x :: y :: B = B' ++ [z] := ⟨(x :: y :: B).getLast (by simp), (x :: y :: B).dropLast, (List.dropLast_concat_getLast (by simp)).symm⟩
  have hzl : B'.length = B.length + 1 := by have := congrArg List.length hz; simp at this; omega
  have hB1 : RowB (w.drew.setCells b i (y :: B)) b 46 (A ++ (y :: B) ++ (z :: rest)) := hB.drew.setMid (P := A) (Q := B') (S := z :: rest) (by rw [show A ++ x :: (y :: B) ++ rest = A ++ (x :: y :: B) ++ rest by simp, hz]; simp) hi _ (by simp [hzl])
  have hK1 : Kep (fun k => k = b) w (w.drew.setCells b i (y :: B)) := Kep.setCells (M := fun k => k = b) (fun _ => rfl) _ _ (Kep.refl _ _).drew
  have hbl : (y :: B).length = n - (i + 1) := by simp; omega
  have hcl : (A ++ x :: (y :: B) ++ rest).length = c := by simp; omega
  obtain ⟨i0, hi0, hz0, hz1, hz2⟩ := info_parts Try.info46
  have hap : ∀ ty sc, (Builtin.append_ #[59, 59] ty #[.slice (some ⟨b, 0, none⟩) i c, .slice (some ⟨b, i + 1, none⟩) (n - (i + 1)) sc]).run Try.prog w.drew = .ok (.slice (some ⟨b, 0, none⟩) (i + (n - (i + 1))) c) (w.drew.setCells b i (y :: B)) := fun ty sc => by
    have := run_append_room_cells (P := Try.prog) w.drew 59 ty 46 i0 Try.underlying59 hi0 b 0 i c ⟨b, i + 1, none⟩ (n - (i + 1)) sc (y :: B) (by rw [hz1, hbl]; omega)
      (fun j u hj => by
        rw [Addr.add_lit, hB.drew.cell, show A ++ x :: (y :: B) ++ rest = (A ++ [x]) ++ ((y :: B) ++ rest) by simp, List.getElem?_append_right (by simp; omega), show i + 1 + j - (A ++ [x]).length = j by simp; omega, List.getElem?_append_left (List.getElem?_eq_some_iff.1 hj).1]; exact hj) h1 (by omega)
      (fun j hj => by rw [hz1, hB.drew.cell, List.getElem?_eq_getElem (by rw [hcl]; rw [hbl] at hj; omega)]; rfl) (fun j hj => hB.drew.frozen _)
    rw [hz1, Nat.zero_add, Nat.mul_one] at this
    exact this
  obtain ⟨W1, hW1⟩ : ∃ W1, W1 = w.drew.setCells b i (y :: B) := ⟨_, rfl⟩
  rw [← hW1] at hB1 hK1 hap
  have hl1 : (A ++ (y :: B) ++ (z :: rest)).length = c := by simp; omega
  have hcle : ∀ ty sc, (Builtin.clear_ #[59] ty #[.slice (some ⟨b, n - 1, none⟩) 1 sc]).run Try.prog W1 = .ok (.tuple #[]) (W1.setCells b (n - 1) [.pointer none]) := fun ty sc =>
    Lib.run_clear_slice W1 59 46 ty (.pointer none) Try.underlying59 Try.zv46 rfl rfl b (n - 1) 1 sc (by omega) (fun j hj => by rw [hB1.cell, List.getElem?_eq_getElem (by rw [hl1]; omega)]; rfl) (fun j hj => hB1.frozen _)
  have hfin : RowB (W1.setCells b (n - 1) [.pointer none]) b 46 (A ++ (y :: B) ++ .pointer none :: rest) := by
    have := hB1.setMid (P := A ++ (y :: B)) (Q := [z]) (S := rest) (o := n - 1) (by simp) (by simp; omega) [.pointer none] rfl
    simpa using this
  have hKf : Kep (fun k => k = b) w (W1.setCells b (n - 1) [.pointer none]) := Kep.setCells (M := fun k => k = b) (fun _ => rfl) _ _ hK1
  have HF : Hid (RowB (W1.setCells b (n - 1) [.pointer none]) b 46 (A ++ (y :: B) ++ .pointer none :: rest) ∧ Kep (fun k => k = b) w (W1.setCells b (n - 1) [.pointer none])) := ⟨hfin, hKf⟩
  have h2 : i + 1 < n := by omega
  have h3 : n ≤ c := by omega
  have e1 : i + (n - (i + 1)) = n - 1 := by omega
  rw [e1] at hap
  clear hB hB1 hK1 hfin hKf h1 hcl hl1 hbl hi hn hc hW1 hz hzl hi0 hz0 hz1 hz2 e1
  have hz2 : ¬ ((i : Int) = (i : Int) + 1) := by omega
  have htn : ((i : Int) + 1).toNat = i + 1 := by omega
  have hp1 : (0 : Int) ≤ (i : Int) + 1 := by omega
  have hp2 : (i : Int) + 1 ≤ (n : Int) := by omega
  have hp3 : (i : Int) ≤ (n : Int) := by omega
  have hp4 : (n : Int) ≤ (c : Int) := by omega
  have hp5 : (i : Int) ≤ (c : Int) := by omega
  have hb2 : ¬ (c = i + 1) := by omega
  have hb3 : ¬ (c = n - 1) := by omega
  have hb4 : ((n - 1 : Nat) : Int) ≤ (n : Int) := by omega
  have hb5 : n - (n - 1) = 1 := by omega
  have hb6 : ¬ (n = i) := by omega
  go_enter Try.func37, Try.ntmps37
  go_wp2
  refine wp_region_noPanic ?_
  refine wp_region_held_drew (S := fun _ => True) (by kernel_rfl) trivial (fun hHeld => ?_)
  refine wpAnyH_take (i := 0) (v := .slice (some ⟨b, 0, none⟩) n c) rfl (by kernel_rfl) (by kernel_rfl) (by kernel_rfl) (fun _ _ _ h => h) (Or.inl ⟨by rfl, fun w' hSw => by kernel_rfl⟩) hHeld ?_
  try simp only [Act.put, List.getElem_toArray, List.getElem_cons_succ, List.getElem_cons_zero, List.setIfInBounds_toArray, List.set_cons_zero, List.set_cons_succ]
  refine wpAnyH_take (i := 1) (v := .int .i64 (i : Int)) rfl (by kernel_rfl) (by kernel_rfl) (by kernel_rfl) (fun _ _ _ h => h) (Or.inl ⟨by rfl, fun w' hSw => by kernel_rfl⟩) hHeld ?_
  try simp only [Act.put, List.getElem_toArray, List.getElem_cons_succ, List.getElem_cons_zero, List.setIfInBounds_toArray, List.set_cons_zero, List.set_cons_succ]
  refine wpAnyH_take (i := 2) (v := .slice (some ⟨b, 0, none⟩) i c) rfl (by kernel_rfl) (by kernel_rfl) (by kernel_rfl) (fun _ _ _ h => h) (Or.inl ⟨by rfl, fun w' hSw => by go_simp⟩) hHeld ?_
  try simp only [Act.put, List.getElem_toArray, List.getElem_cons_succ, List.getElem_cons_zero, List.setIfInBounds_toArray, List.set_cons_zero, List.set_cons_succ]
  refine wpAnyH_take (i := 3) (v := .slice (some ⟨b, 0, none⟩) n c) rfl (by kernel_rfl) (by kernel_rfl) (by kernel_rfl) (fun _ _ _ h => h) (Or.inl ⟨by rfl, fun w' hSw => by kernel_rfl⟩) hHeld ?_
  try simp only [Act.put, List.getElem_toArray, List.getElem_cons_succ, List.getElem_cons_zero, List.setIfInBounds_toArray, List.set_cons_zero, List.set_cons_succ]
  refine wpAnyH_take (i := 4) (v := .int .i64 ((i : Int) + 1)) rfl (by kernel_rfl) (by kernel_rfl) (by kernel_rfl) (fun _ _ _ h => h) (Or.inl ⟨by rfl, fun w' hSw => by kernel_rfl⟩) hHeld ?_
  try simp only [Act.put, List.getElem_toArray, List.getElem_cons_succ, List.getElem_cons_zero, List.setIfInBounds_toArray, List.set_cons_zero, List.set_cons_succ]
  refine wpAnyH_take (i := 5) (v := .slice (some ⟨b, i + 1, none⟩) (n - (i + 1)) (c - (i + 1))) rfl (by kernel_rfl) (by kernel_rfl) (by kernel_rfl) (fun _ _ _ h => h) (Or.inl ⟨by rfl, fun w' hSw => by go_simp⟩) hHeld ?_
  try simp only [Act.put, List.getElem_toArray, List.getElem_cons_succ, List.getElem_cons_zero, List.setIfInBounds_toArray, List.set_cons_zero, List.set_cons_succ]
  refine wpAnyH_ready (rs := [6]) (by kernel_rfl) (by simp) ?_
  refine AllReadyH.cons rfl (fun K hK => ?_) AllReadyH.nil
  refine step_append_runI rfl (.tmp 22) (.tmp 25) 59 rfl _ _ rfl rfl (hap _ (c - (i + 1))) ?_
  refine hK.out _ _ trivial (fun hHeld => ?_)
  clear hK
  try simp only [Act.put, List.getElem_toArray, List.getElem_cons_succ, List.getElem_cons_zero, List.setIfInBounds_toArray, List.set_cons_zero, List.set_cons_succ]
  refine wpAnyH_take (i := 7) (v := .slice (some ⟨b, 0, none⟩) (n - 1) c) rfl (by kernel_rfl) (by kernel_rfl) (by kernel_rfl) (fun _ _ _ h => h) (Or.inl ⟨by rfl, fun w' hSw => by kernel_rfl⟩) hHeld ?_
  try simp only [Act.put, List.getElem_toArray, List.getElem_cons_succ, List.getElem_cons_zero, List.setIfInBounds_toArray, List.set_cons_zero, List.set_cons_succ]
  refine wpAnyH_done (by kernel_rfl) ?_ _
  refine NoPanic.normal ?_
  clear hHeld hap
  go_wp2_with (at_builtin; refine wpList_clear_runI _ rfl _ 59 rfl _ rfl (hcle _ _) ?_)
  go_ret
  exact ⟨rfl, HF.out.1, HF.out.2⟩

set_option maxHeartbeats 4000000 in
set_option maxRecDepth 100000 in
/-- slices.Delete, the last value. -/
theorem delete37_end {w : World} {b i c : Nat} {A rest : List Value} {x : Value} (hB : RowB w b 46 (A ++ x :: rest)) (hi : i = A.length) (hc : c = i + 1 + rest.length) (hcm : c ≤ 1000) :
    Calls Try.prog 37 #[.slice (some ⟨b, 0, none⟩) (i + 1) c, .int .i64 (i : Int), .int .i64 ((i : Int) + 1)] w fun e w' =>
      e = .returned (.slice (some ⟨b, 0, none⟩) i c) ∧ RowB w' b 46 (A ++ .pointer none :: rest) ∧ Kep (fun k => k = b) w w' := by
  have hcl : (A ++ x :: rest).length = c := by simp; omega
  obtain ⟨i0, hi0, hz0, hz1, hz2⟩ := info_parts Try.info46
  have hap : ∀ ad ty sc, (Builtin.append_ #[59, 59] ty #[.slice (some ⟨b, 0, none⟩) i c, .slice (some ad) 0 sc]).run Try.prog w.drew = .ok (.slice (some ⟨b, 0, none⟩) i c) w.drew := fun ad ty sc => by
    have := run_append_room_cells (P := Try.prog) w.drew 59 ty 46 i0 Try.underlying59 hi0 b 0 i c ad 0 sc [] (by simp) (fun j u hj => by simp at hj) (fun u hu => by cases hu) (by omega) (fun j hj => by simp at hj) (fun j hj => by simp at hj)
    exact this
  have hcle : ∀ ty sc, (Builtin.clear_ #[59] ty #[.slice (some ⟨b, i, none⟩) 1 sc]).run Try.prog w.drew = .ok (.tuple #[]) (w.drew.setCells b i [.pointer none]) := fun ty sc =>
    Lib.run_clear_slice w.drew 59 46 ty (.pointer none) Try.underlying59 Try.zv46 rfl rfl b i 1 sc (by omega) (fun j hj => by rw [hB.drew.cell, List.getElem?_eq_getElem (by rw [hcl]; omega)]; rfl) (fun j hj => hB.drew.frozen _)
  have hfin : RowB (w.drew.setCells b i [.pointer none]) b 46 (A ++ .pointer none :: rest) := by
    have := hB.drew.setMid (P := A) (Q := [x]) (S := rest) (o := i) (by simp) hi [.pointer none] rfl
    simpa using this
  have hKf : Kep (fun k => k = b) w (w.drew.setCells b i [.pointer none]) := Kep.setCells (M := fun k => k = b) (fun _ => rfl) _ _ (Kep.refl _ _).drew
  have HF : Hid (RowB (w.drew.setCells b i [.pointer none]) b 46 (A ++ .pointer none :: rest) ∧ Kep (fun k => k = b) w (w.drew.setCells b i [.pointer none])) := ⟨hfin, hKf⟩
  have h3 : i + 1 ≤ c := by omega
  clear hB hfin hKf hcl hi hc hi0 hz0 hz1 hz2
  have hz2 : ¬ ((i : Int) = (i : Int) + 1) := by omega
  have htn : ((i : Int) + 1).toNat = i + 1 := by omega
  have hp1 : (0 : Int) ≤ (i : Int) + 1 := by omega
  have hp4 : (i : Int) + 1 ≤ (c : Int) := by omega
  have hp5 : (i : Int) ≤ (c : Int) := by omega
  have hb3 : ¬ (c = i) := by omega
  have hb4 : (i : Int) ≤ (i : Int) + 1 := by omega
  by_cases hcn : c = i + 1
  · subst hcn
    go_enter Try.func37, Try.ntmps37
    go_wp2
    refine wp_region_noPanic ?_
    refine wp_region_held_drew (S := fun _ => True) (by kernel_rfl) trivial (fun hHeld => ?_)
    refine wpAnyH_take (i := 0) (v := .slice (some ⟨b, 0, none⟩) (i + 1) (i + 1)) rfl (by kernel_rfl) (by kernel_rfl) (by kernel_rfl) (fun _ _ _ h => h) (Or.inl ⟨by rfl, fun w' hSw => by kernel_rfl⟩) hHeld ?_
    try simp only [Act.put, List.getElem_toArray, List.getElem_cons_succ, List.getElem_cons_zero, List.setIfInBounds_toArray, List.set_cons_zero, List.set_cons_succ]
    refine wpAnyH_take (i := 1) (v := .int .i64 (i : Int)) rfl (by kernel_rfl) (by kernel_rfl) (by kernel_rfl) (fun _ _ _ h => h) (Or.inl ⟨by rfl, fun w' hSw => by kernel_rfl⟩) hHeld ?_
    try simp only [Act.put, List.getElem_toArray, List.getElem_cons_succ, List.getElem_cons_zero, List.setIfInBounds_toArray, List.set_cons_zero, List.set_cons_succ]
    refine wpAnyH_take (i := 2) (v := .slice (some ⟨b, 0, none⟩) i (i + 1)) rfl (by kernel_rfl) (by kernel_rfl) (by kernel_rfl) (fun _ _ _ h => h) (Or.inl ⟨by rfl, fun w' hSw => by go_simp⟩) hHeld ?_
    try simp only [Act.put, List.getElem_toArray, List.getElem_cons_succ, List.getElem_cons_zero, List.setIfInBounds_toArray, List.set_cons_zero, List.set_cons_succ]
    refine wpAnyH_take (i := 3) (v := .slice (some ⟨b, 0, none⟩) (i + 1) (i + 1)) rfl (by kernel_rfl) (by kernel_rfl) (by kernel_rfl) (fun _ _ _ h => h) (Or.inl ⟨by rfl, fun w' hSw => by kernel_rfl⟩) hHeld ?_
    try simp only [Act.put, List.getElem_toArray, List.getElem_cons_succ, List.getElem_cons_zero, List.setIfInBounds_toArray, List.set_cons_zero, List.set_cons_succ]
    refine wpAnyH_take (i := 4) (v := .int .i64 ((i : Int) + 1)) rfl (by kernel_rfl) (by kernel_rfl) (by kernel_rfl) (fun _ _ _ h => h) (Or.inl ⟨by rfl, fun w' hSw => by kernel_rfl⟩) hHeld ?_
    try simp only [Act.put, List.getElem_toArray, List.getElem_cons_succ, List.getElem_cons_zero, List.setIfInBounds_toArray, List.set_cons_zero, List.set_cons_succ]
    refine wpAnyH_take (i := 5) (v := .slice (some ⟨b, 0, none⟩) 0 0) rfl (by kernel_rfl) (by kernel_rfl) (by kernel_rfl) (fun _ _ _ h => h) (Or.inl ⟨by rfl, fun w' hSw => by go_simp⟩) hHeld ?_
    try simp only [Act.put, List.getElem_toArray, List.getElem_cons_succ, List.getElem_cons_zero, List.setIfInBounds_toArray, List.set_cons_zero, List.set_cons_succ]
    refine wpAnyH_ready (rs := [6]) (by kernel_rfl) (by simp) ?_
    refine AllReadyH.cons rfl (fun K hK => ?_) AllReadyH.nil
    refine step_append_runI rfl (.tmp 22) (.tmp 25) 59 rfl _ _ rfl rfl (hap ⟨b, 0, none⟩ _ 0) ?_
    refine hK.out _ _ trivial (fun hHeld => ?_)
    clear hK
    try simp only [Act.put, List.getElem_toArray, List.getElem_cons_succ, List.getElem_cons_zero, List.setIfInBounds_toArray, List.set_cons_zero, List.set_cons_succ]
    refine wpAnyH_take (i := 7) (v := .slice (some ⟨b, 0, none⟩) i (i + 1)) rfl (by kernel_rfl) (by kernel_rfl) (by kernel_rfl) (fun _ _ _ h => h) (Or.inl ⟨by rfl, fun w' hSw => by kernel_rfl⟩) hHeld ?_
    try simp only [Act.put, List.getElem_toArray, List.getElem_cons_succ, List.getElem_cons_zero, List.setIfInBounds_toArray, List.set_cons_zero, List.set_cons_succ]
    refine wpAnyH_done (by kernel_rfl) ?_ _
    refine NoPanic.normal ?_
    clear hHeld hap
    go_wp2_with (at_builtin; refine wpList_clear_runI _ rfl _ 59 rfl _ rfl (hcle _ _) ?_)
    go_ret
    exact ⟨rfl, HF.out.1, HF.out.2⟩
  · go_enter Try.func37, Try.ntmps37
    go_wp2
    refine wp_region_noPanic ?_
    refine wp_region_held_drew (S := fun _ => True) (by kernel_rfl) trivial (fun hHeld => ?_)
    refine wpAnyH_take (i := 0) (v := .slice (some ⟨b, 0, none⟩) (i + 1) c) rfl (by kernel_rfl) (by kernel_rfl) (by kernel_rfl) (fun _ _ _ h => h) (Or.inl ⟨by rfl, fun w' hSw => by kernel_rfl⟩) hHeld ?_
    try simp only [Act.put, List.getElem_toArray, List.getElem_cons_succ, List.getElem_cons_zero, List.setIfInBounds_toArray, List.set_cons_zero, List.set_cons_succ]
    refine wpAnyH_take (i := 1) (v := .int .i64 (i : Int)) rfl (by kernel_rfl) (by kernel_rfl) (by kernel_rfl) (fun _ _ _ h => h) (Or.inl ⟨by rfl, fun w' hSw => by kernel_rfl⟩) hHeld ?_
    try simp only [Act.put, List.getElem_toArray, List.getElem_cons_succ, List.getElem_cons_zero, List.setIfInBounds_toArray, List.set_cons_zero, List.set_cons_succ]
    refine wpAnyH_take (i := 2) (v := .slice (some ⟨b, 0, none⟩) i c) rfl (by kernel_rfl) (by kernel_rfl) (by kernel_rfl) (fun _ _ _ h => h) (Or.inl ⟨by rfl, fun w' hSw => by go_simp⟩) hHeld ?_
    try simp only [Act.put, List.getElem_toArray, List.getElem_cons_succ, List.getElem_cons_zero, List.setIfInBounds_toArray, List.set_cons_zero, List.set_cons_succ]
    refine wpAnyH_take (i := 3) (v := .slice (some ⟨b, 0, none⟩) (i + 1) c) rfl (by kernel_rfl) (by kernel_rfl) (by kernel_rfl) (fun _ _ _ h => h) (Or.inl ⟨by rfl, fun w' hSw => by kernel_rfl⟩) hHeld ?_
    try simp only [Act.put, List.getElem_toArray, List.getElem_cons_succ, List.getElem_cons_zero, List.setIfInBounds_toArray, List.set_cons_zero, List.set_cons_succ]
    refine wpAnyH_take (i := 4) (v := .int .i64 ((i : Int) + 1)) rfl (by kernel_rfl) (by kernel_rfl) (by kernel_rfl) (fun _ _ _ h => h) (Or.inl ⟨by rfl, fun w' hSw => by kernel_rfl⟩) hHeld ?_
    try simp only [Act.put, List.getElem_toArray, List.getElem_cons_succ, List.getElem_cons_zero, List.setIfInBounds_toArray, List.set_cons_zero, List.set_cons_succ]
    refine wpAnyH_take (i := 5) (v := .slice (some ⟨b, i + 1, none⟩) 0 (c - (i + 1))) rfl (by kernel_rfl) (by kernel_rfl) (by kernel_rfl) (fun _ _ _ h => h) (Or.inl ⟨by rfl, fun w' hSw => by go_simp⟩) hHeld ?_
    try simp only [Act.put, List.getElem_toArray, List.getElem_cons_succ, List.getElem_cons_zero, List.setIfInBounds_toArray, List.set_cons_zero, List.set_cons_succ]
    refine wpAnyH_ready (rs := [6]) (by kernel_rfl) (by simp) ?_
    refine AllReadyH.cons rfl (fun K hK => ?_) AllReadyH.nil
    refine step_append_runI rfl (.tmp 22) (.tmp 25) 59 rfl _ _ rfl rfl (hap ⟨b, i + 1, none⟩ _ (c - (i + 1))) ?_
    refine hK.out _ _ trivial (fun hHeld => ?_)
    clear hK
    try simp only [Act.put, List.getElem_toArray, List.getElem_cons_succ, List.getElem_cons_zero, List.setIfInBounds_toArray, List.set_cons_zero, List.set_cons_succ]
    refine wpAnyH_take (i := 7) (v := .slice (some ⟨b, 0, none⟩) i c) rfl (by kernel_rfl) (by kernel_rfl) (by kernel_rfl) (fun _ _ _ h => h) (Or.inl ⟨by rfl, fun w' hSw => by kernel_rfl⟩) hHeld ?_
    try simp only [Act.put, List.getElem_toArray, List.getElem_cons_succ, List.getElem_cons_zero, List.setIfInBounds_toArray, List.set_cons_zero, List.set_cons_succ]
    refine wpAnyH_done (by kernel_rfl) ?_ _
    refine NoPanic.normal ?_
    clear hHeld hap
    go_wp2_with (at_builtin; refine wpList_clear_runI _ rfl _ 59 rfl _ rfl (hcle _ _) ?_)
    go_ret
    exact ⟨rfl, HF.out.1, HF.out.2⟩

/-- slices.Delete, one value. -/
theorem delete37 {w : World} {b i n c : Nat} {A B rest : List Value} {x : Value} (hB : RowB w b 46 (A ++ x :: B ++ rest)) (hi : i = A.length) (hn : n = A.length + 1 + B.length) (hc : c = n + rest.length) (hcm : c ≤ 1000) (h1 : ∀ u ∈ B, u.oneCell' = true) :
    Calls Try.prog 37 #[.slice (some ⟨b, 0, none⟩) n c, .int .i64 (i : Int), .int .i64 ((i : Int) + 1)] w fun e w' =>
      e = .returned (.slice (some ⟨b, 0, none⟩) (n - 1) c) ∧ RowB w' b 46 (A ++ B ++ .pointer none :: rest) ∧ Kep (fun k => k = b) w w' := by
  cases B with
  | cons y B => exact delete37_mid hB hi hn hc hcm h1
  | nil =>
    have hin : n = i + 1 := by simp at hn; omega
    subst hin
    simp only [List.append_nil, List.cons_append, List.nil_append, List.append_assoc] at hB
    refine (delete37_end hB hi hc hcm).mono fun e w' ⟨h1, h2, h3⟩ => ⟨h1, ?_, h3⟩
    simpa using h2

set_option maxHeartbeats 4000000 in
set_option maxRecDepth 100000 in
/-- slices.Delete, one value, not the last. -/
theorem delete44_mid {w : World} {b i n c : Nat} {A B rest : List Value} {x y : Value} (hB : RowB w b 55 (A ++ x :: (y :: B) ++ rest)) (hi : i = A.length) (hn : n = A.length + 1 + (B.length + 1)) (hc : c = n + rest.length) (hcm : c ≤ 1000) (h1 : ∀ u ∈ y :: B, u.oneCell' = true) :
    Calls Try.prog 44 #[.slice (some ⟨b, 0, none⟩) n c, .int .i64 (i : Int), .int .i64 ((i : Int) + 1)] w fun e w' =>
      e = .returned (.slice (some ⟨b, 0, none⟩) (n - 1) c) ∧ RowB w' b 55 (A ++ (y :: B) ++ .pointer none :: rest) ∧ Kep (fun k => k = b) w w' := by
  obtain ⟨z, B', hz⟩ : ∃ z B', x :: y :: B = B' ++ [z] := ⟨(x :: y :: B).getLast (by simp), (x :: y :: B).dropLast, (List.dropLast_concat_getLast (by simp)).symm⟩
  have hzl : B'.length = B.length + 1 := by have := congrArg List.length hz; simp at this; omega
  have hB1 : RowB (w.drew.setCells b i (y :: B)) b 55 (A ++ (y :: B) ++ (z :: rest)) := hB.drew.setMid (P := A) (Q := B') (S := z :: rest) (by rw [show A ++ x :: (y :: B) ++ rest = A ++ (x :: y :: B) ++ rest by simp, hz]; simp) hi _ (by simp [hzl])
  have hK1 : Kep (fun k => k = b) w (w.drew.setCells b i (y :: B)) := Kep.setCells (M := fun k => k = b) (fun _ => rfl) _ _ (Kep.refl _ _).drew
  have hbl : (y :: B).length = n - (i + 1) := by simp; omega
  have hcl : (A ++ x :: (y :: B) ++ rest).length = c := by simp; omega
  obtain ⟨i0, hi0, hz0, hz1, hz2⟩ := info_parts Try.info55
  have hap : ∀ ty sc, (Builtin.append_ #[60, 60] ty #[.slice (some ⟨b, 0, none⟩) i c, .slice (some ⟨b, i + 1, none⟩) (n - (i + 1)) sc]).run Try.prog w.drew = .ok (.slice (some ⟨b, 0, none⟩) (i + (n - (i + 1))) c) (w.drew.setCells b i (y :: B)) := fun ty sc => by
    have := run_append_room_cells (P := Try.prog) w.drew 60 ty 55 i0 Try.underlying60 hi0 b 0 i c ⟨b, i + 1, none⟩ (n - (i + 1)) sc (y :: B) (by rw [hz1, hbl]; omega)
      (fun j u hj => by
        rw [Addr.add_lit, hB.drew.cell, show A ++ x :: (y :: B) ++ rest = (A ++ [x]) ++ ((y :: B) ++ rest) by simp, List.getElem?_append_right (by simp; omega), show i + 1 + j - (A ++ [x]).length = j by simp; omega, List.getElem?_append_left (List.getElem?_eq_some_iff.1 hj).1]; exact hj) h1 (by omega)
      (fun j hj => by rw [hz1, hB.drew.cell, List.getElem?_eq_getElem (by rw [hcl]; rw [hbl] at hj; omega)]; rfl) (fun j hj => hB.drew.frozen _)
    rw [hz1, Nat.zero_add, Nat.mul_one] at this
    exact this
  obtain ⟨W1, hW1⟩ : ∃ W1, W1 = w.drew.setCells b i (y :: B) := ⟨_, rfl⟩
  rw [← hW1] at hB1 hK1 hap
  have hl1 : (A ++ (y :: B) ++ (z :: rest)).length = c := by simp; omega
  have hcle : ∀ ty sc, (Builtin.clear_ #[60] ty #[.slice (some ⟨b, n - 1, none⟩) 1 sc]).run Try.prog W1 = .ok (.tuple #[]) (W1.setCells b (n - 1) [.pointer none]) := fun ty sc =>
    Lib.run_clear_slice W1 60 55 ty (.pointer none) Try.underlying60 Try.zv55 rfl rfl b (n - 1) 1 sc (by omega) (fun j hj => by rw [hB1.cell, List.getElem?_eq_getElem (by rw [hl1]; omega)]; rfl) (fun j hj => hB1.frozen _)
  have hfin : RowB (W1.setCells b (n - 1) [.pointer none]) b 55 (A ++ (y :: B) ++ .pointer none :: rest) := by
    have := hB1.setMid (P := A ++ (y :: B)) (Q := [z]) (S := rest) (o := n - 1) (by simp) (by simp; omega) [.pointer none] rfl
    simpa using this
  have hKf : Kep (fun k => k = b) w (W1.setCells b (n - 1) [.pointer none]) := Kep.setCells (M := fun k => k = b) (fun _ => rfl) _ _ hK1
  have HF : Hid (RowB (W1.setCells b (n - 1) [.pointer none]) b 55 (A ++ (y :: B) ++ .pointer none :: rest) ∧ Kep (fun k => k = b) w (W1.setCells b (n - 1) [.pointer none])) := ⟨hfin, hKf⟩
  have h2 : i + 1 < n := by omega
  have h3 : n ≤ c := by omega
  have e1 : i + (n - (i + 1)) = n - 1 := by omega
  rw [e1] at hap
  clear hB hB1 hK1 hfin hKf h1 hcl hl1 hbl hi hn hc hW1 hz hzl hi0 hz0 hz1 hz2 e1
  have hz2 : ¬ ((i : Int) = (i : Int) + 1) := by omega
  have htn : ((i : Int) + 1).toNat = i + 1 := by omega
  have hp1 : (0 : Int) ≤ (i : Int) + 1 := by omega
  have hp2 : (i : Int) + 1 ≤ (n : Int) := by omega
  have hp3 : (i : Int) ≤ (n : Int) := by omega
  have hp4 : (n : Int) ≤ (c : Int) := by omega
  have hp5 : (i : Int) ≤ (c : Int) := by omega
  have hb2 : ¬ (c = i + 1) := by omega
  have hb3 : ¬ (c = n - 1) := by omega
  have hb4 : ((n - 1 : Nat) : Int) ≤ (n : Int) := by omega
  have hb5 : n - (n - 1) = 1 := by omega
  have hb6 : ¬ (n = i) := by omega
  go_enter Try.func44, Try.ntmps44
  go_wp2
  refine wp_region_noPanic ?_
  refine wp_region_held_drew (S := fun _ => True) (by kernel_rfl) trivial (fun hHeld => ?_)
  refine wpAnyH_take (i := 0) (v := .slice (some ⟨b, 0, none⟩) n c) rfl (by kernel_rfl) (by kernel_rfl) (by kernel_rfl) (fun _ _ _ h => h) (Or.inl ⟨by rfl, fun w' hSw => by kernel_rfl⟩) hHeld ?_
  try simp only [Act.put, List.getElem_toArray, List.getElem_cons_succ, List.getElem_cons_zero, List.setIfInBounds_toArray, List.set_cons_zero, List.set_cons_succ]
  refine wpAnyH_take (i := 1) (v := .int .i64 (i : Int)) rfl (by kernel_rfl) (by kernel_rfl) (by kernel_rfl) (fun _ _ _ h => h) (Or.inl ⟨by rfl, fun w' hSw => by kernel_rfl⟩) hHeld ?_
  try simp only [Act.put, List.getElem_toArray, List.getElem_cons_succ, List.getElem_cons_zero, List.setIfInBounds_toArray, List.set_cons_zero, List.set_cons_succ]
  refine wpAnyH_take (i := 2) (v := .slice (some ⟨b, 0, none⟩) i c) rfl (by kernel_rfl) (by kernel_rfl) (by kernel_rfl) (fun _ _ _ h => h) (Or.inl ⟨by rfl, fun w' hSw => by go_simp⟩) hHeld ?_
  try simp only [Act.put, List.getElem_toArray, List.getElem_cons_succ, List.getElem_cons_zero, List.setIfInBounds_toArray, List.set_cons_zero, List.set_cons_succ]
  refine wpAnyH_take (i := 3) (v := .slice (some ⟨b, 0, none⟩) n c) rfl (by kernel_rfl) (by kernel_rfl) (by kernel_rfl) (fun _ _ _ h => h) (Or.inl ⟨by rfl, fun w' hSw => by kernel_rfl⟩) hHeld ?_
  try simp only [Act.put, List.getElem_toArray, List.getElem_cons_succ, List.getElem_cons_zero, List.setIfInBounds_toArray, List.set_cons_zero, List.set_cons_succ]
  refine wpAnyH_take (i := 4) (v := .int .i64 ((i : Int) + 1)) rfl (by kernel_rfl) (by kernel_rfl) (by kernel_rfl) (fun _ _ _ h => h) (Or.inl ⟨by rfl, fun w' hSw => by kernel_rfl⟩) hHeld ?_
  try simp only [Act.put, List.getElem_toArray, List.getElem_cons_succ, List.getElem_cons_zero, List.setIfInBounds_toArray, List.set_cons_zero, List.set_cons_succ]
  refine wpAnyH_take (i := 5) (v := .slice (some ⟨b, i + 1, none⟩) (n - (i + 1)) (c - (i + 1))) rfl (by kernel_rfl) (by kernel_rfl) (by kernel_rfl) (fun _ _ _ h => h) (Or.inl ⟨by rfl, fun w' hSw => by go_simp⟩) hHeld ?_
  try simp only [Act.put, List.getElem_toArray, List.getElem_cons_succ, List.getElem_cons_zero, List.setIfInBounds_toArray, List.set_cons_zero, List.set_cons_succ]
  refine wpAnyH_ready (rs := [6]) (by kernel_rfl) (by simp) ?_
  refine AllReadyH.cons rfl (fun K hK => ?_) AllReadyH.nil
  refine step_append_runI rfl (.tmp 22) (.tmp 25) 60 rfl _ _ rfl rfl (hap _ (c - (i + 1))) ?_
  refine hK.out _ _ trivial (fun hHeld => ?_)
  clear hK
  try simp only [Act.put, List.getElem_toArray, List.getElem_cons_succ, List.getElem_cons_zero, List.setIfInBounds_toArray, List.set_cons_zero, List.set_cons_succ]
  refine wpAnyH_take (i := 7) (v := .slice (some ⟨b, 0, none⟩) (n - 1) c) rfl (by kernel_rfl) (by kernel_rfl) (by kernel_rfl) (fun _ _ _ h => h) (Or.inl ⟨by rfl, fun w' hSw => by kernel_rfl⟩) hHeld ?_
  try simp only [Act.put, List.getElem_toArray, List.getElem_cons_succ, List.getElem_cons_zero, List.setIfInBounds_toArray, List.set_cons_zero, List.set_cons_succ]
  refine wpAnyH_done (by kernel_rfl) ?_ _
  refine NoPanic.normal ?_
  clear hHeld hap
  go_wp2_with (at_builtin; refine wpList_clear_runI _ rfl _ 60 rfl _ rfl (hcle _ _) ?_)
  go_ret
  exact ⟨rfl, HF.out.1, HF.out.2⟩

set_option maxHeartbeats 4000000 in
set_option maxRecDepth 100000 in
/-- slices.Delete, the last value. -/
theorem delete44_end {w : World} {b i c : Nat} {A rest : List Value} {x : Value} (hB : RowB w b 55 (A ++ x :: rest)) (hi : i = A.length) (hc : c = i + 1 + rest.length) (hcm : c ≤ 1000) :
    Calls Try.prog 44 #[.slice (some ⟨b, 0, none⟩) (i + 1) c, .int .i64 (i : Int), .int .i64 ((i : Int) + 1)] w fun e w' =>
      e = .returned (.slice (some ⟨b, 0, none⟩) i c) ∧ RowB w' b 55 (A ++ .pointer none :: rest) ∧ Kep (fun k => k = b) w w' := by
  have hcl : (A ++ x :: rest).length = c := by simp; omega
  obtain ⟨i0, hi0, hz0, hz1, hz2⟩ := info_parts Try.info55
  have hap : ∀ ad ty sc, (Builtin.append_ #[60, 60] ty #[.slice (some ⟨b, 0, none⟩) i c, .slice (some ad) 0 sc]).run Try.prog w.drew = .ok (.slice (some ⟨b, 0, none⟩) i c) w.drew := fun ad ty sc => by
    have := run_append_room_cells (P := Try.prog) w.drew 60 ty 55 i0 Try.underlying60 hi0 b 0 i c ad 0 sc [] (by simp) (fun j u hj => by simp at hj) (fun u hu => by cases hu) (by omega) (fun j hj => by simp at hj) (fun j hj => by simp at hj)
    exact this
  have hcle : ∀ ty sc, (Builtin.clear_ #[60] ty #[.slice (some ⟨b, i, none⟩) 1 sc]).run Try.prog w.drew = .ok (.tuple #[]) (w.drew.setCells b i [.pointer none]) := fun ty sc =>
    Lib.run_clear_slice w.drew 60 55 ty (.pointer none) Try.underlying60 Try.zv55 rfl rfl b i 1 sc (by omega) (fun j hj => by rw [hB.drew.cell, List.getElem?_eq_getElem (by rw [hcl]; omega)]; rfl) (fun j hj => hB.drew.frozen _)
  have hfin : RowB (w.drew.setCells b i [.pointer none]) b 55 (A ++ .pointer none :: rest) := by
    have := hB.drew.setMid (P := A) (Q := [x]) (S := rest) (o := i) (by simp) hi [.pointer none] rfl
    simpa using this
  have hKf : Kep (fun k => k = b) w (w.drew.setCells b i [.pointer none]) := Kep.setCells (M := fun k => k = b) (fun _ => rfl) _ _ (Kep.refl _ _).drew
  have HF : Hid (RowB (w.drew.setCells b i [.pointer none]) b 55 (A ++ .pointer none :: rest) ∧ Kep (fun k => k = b) w (w.drew.setCells b i [.pointer none])) := ⟨hfin, hKf⟩
  have h3 : i + 1 ≤ c := by omega
  clear hB hfin hKf hcl hi hc hi0 hz0 hz1 hz2
  have hz2 : ¬ ((i : Int) = (i : Int) + 1) := by omega
  have htn : ((i : Int) + 1).toNat = i + 1 := by omega
  have hp1 : (0 : Int) ≤ (i : Int) + 1 := by omega
  have hp4 : (i : Int) + 1 ≤ (c : Int) := by omega
  have hp5 : (i : Int) ≤ (c : Int) := by omega
  have hb3 : ¬ (c = i) := by omega
  have hb4 : (i : Int) ≤ (i : Int) + 1 := by omega
  by_cases hcn : c = i + 1
  · subst hcn
    go_enter Try.func44, Try.ntmps44
    go_wp2
    refine wp_region_noPanic ?_
    refine wp_region_held_drew (S := fun _ => True) (by kernel_rfl) trivial (fun hHeld => ?_)
    refine wpAnyH_take (i := 0) (v := .slice (some ⟨b, 0, none⟩) (i + 1) (i + 1)) rfl (by kernel_rfl) (by kernel_rfl) (by kernel_rfl) (fun _ _ _ h => h) (Or.inl ⟨by rfl, fun w' hSw => by kernel_rfl⟩) hHeld ?_
    try simp only [Act.put, List.getElem_toArray, List.getElem_cons_succ, List.getElem_cons_zero, List.setIfInBounds_toArray, List.set_cons_zero, List.set_cons_succ]
    refine wpAnyH_take (i := 1) (v := .int .i64 (i : Int)) rfl (by kernel_rfl) (by kernel_rfl) (by kernel_rfl) (fun _ _ _ h => h) (Or.inl ⟨by rfl, fun w' hSw => by kernel_rfl⟩) hHeld ?_
    try simp only [Act.put, List.getElem_toArray, List.getElem_cons_succ, List.getElem_cons_zero, List.setIfInBounds_toArray, List.set_cons_zero, List.set_cons_succ]
    refine wpAnyH_take (i := 2) (v := .slice (some ⟨b, 0, none⟩) i (i + 1)) rfl (by kernel_rfl) (by kernel_rfl) (by kernel_rfl) (fun _ _ _ h => h) (Or.inl ⟨by rfl, fun w' hSw => by go_simp⟩) hHeld ?_
    try simp only [Act.put, List.getElem_toArray, List.getElem_cons_succ, List.getElem_cons_zero, List.setIfInBounds_toArray, List.set_cons_zero, List.set_cons_succ]
    refine wpAnyH_take (i := 3) (v := .slice (some ⟨b, 0, none⟩) (i + 1) (i + 1)) rfl (by kernel_rfl) (by kernel_rfl) (by kernel_rfl) (fun _ _ _ h => h) (Or.inl ⟨by rfl, fun w' hSw => by kernel_rfl⟩) hHeld ?_
    try simp only [Act.put, List.getElem_toArray, List.getElem_cons_succ, List.getElem_cons_zero, List.setIfInBounds_toArray, List.set_cons_zero, List.set_cons_succ]
    refine wpAnyH_take (i := 4) (v := .int .i64 ((i : Int) + 1)) rfl (by kernel_rfl) (by kernel_rfl) (by kernel_rfl) (fun _ _ _ h => h) (Or.inl ⟨by rfl, fun w' hSw => by kernel_rfl⟩) hHeld ?_
    try simp only [Act.put, List.getElem_toArray, List.getElem_cons_succ, List.getElem_cons_zero, List.setIfInBounds_toArray, List.set_cons_zero, List.set_cons_succ]
    refine wpAnyH_take (i := 5) (v := .slice (some ⟨b, 0, none⟩) 0 0) rfl (by kernel_rfl) (by kernel_rfl) (by kernel_rfl) (fun _ _ _ h => h) (Or.inl ⟨by rfl, fun w' hSw => by go_simp⟩) hHeld ?_
    try simp only [Act.put, List.getElem_toArray, List.getElem_cons_succ, List.getElem_cons_zero, List.setIfInBounds_toArray, List.set_cons_zero, List.set_cons_succ]
    refine wpAnyH_ready (rs := [6]) (by kernel_rfl) (by simp) ?_
    refine AllReadyH.cons rfl (fun K hK => ?_) AllReadyH.nil
    refine step_append_runI rfl (.tmp 22) (.tmp 25) 60 rfl _ _ rfl rfl (hap ⟨b, 0, none⟩ _ 0) ?_
    refine hK.out _ _ trivial (fun hHeld => ?_)
    clear hK
    try simp only [Act.put, List.getElem_toArray, List.getElem_cons_succ, List.getElem_cons_zero, List.setIfInBounds_toArray, List.set_cons_zero, List.set_cons_succ]
    refine wpAnyH_take (i := 7) (v := .slice (some ⟨b, 0, none⟩) i (i + 1)) rfl (by kernel_rfl) (by kernel_rfl) (by kernel_rfl) (fun _ _ _ h => h) (Or.inl ⟨by rfl, fun w' hSw => by kernel_rfl⟩) hHeld ?_
    try simp only [Act.put, List.getElem_toArray, List.getElem_cons_succ, List.getElem_cons_zero, List.setIfInBounds_toArray, List.set_cons_zero, List.set_cons_succ]
    refine wpAnyH_done (by kernel_rfl) ?_ _
    refine NoPanic.normal ?_
    clear hHeld hap
    go_wp2_with (at_builtin; refine wpList_clear_runI _ rfl _ 60 rfl _ rfl (hcle _ _) ?_)
    go_ret
    exact ⟨rfl, HF.out.1, HF.out.2⟩
  · go_enter Try.func44, Try.ntmps44
    go_wp2
    refine wp_region_noPanic ?_
    refine wp_region_held_drew (S := fun _ => True) (by kernel_rfl) trivial (fun hHeld => ?_)
    refine wpAnyH_take (i := 0) (v := .slice (some ⟨b, 0, none⟩) (i + 1) c) rfl (by kernel_rfl) (by kernel_rfl) (by kernel_rfl) (fun _ _ _ h => h) (Or.inl ⟨by rfl, fun w' hSw => by kernel_rfl⟩) hHeld ?_
    try simp only [Act.put, List.getElem_toArray, List.getElem_cons_succ, List.getElem_cons_zero, List.setIfInBounds_toArray, List.set_cons_zero, List.set_cons_succ]
    refine wpAnyH_take (i := 1) (v := .int .i64 (i : Int)) rfl (by kernel_rfl) (by kernel_rfl) (by kernel_rfl) (fun _ _ _ h => h) (Or.inl ⟨by rfl, fun w' hSw => by kernel_rfl⟩) hHeld ?_
    try simp only [Act.put, List.getElem_toArray, List.getElem_cons_succ, List.getElem_cons_zero, List.setIfInBounds_toArray, List.set_cons_zero, List.set_cons_succ]
    refine wpAnyH_take (i := 2) (v := .slice (some ⟨b, 0, none⟩) i c) rfl (by kernel_rfl) (by kernel_rfl) (by kernel_rfl) (fun _ _ _ h => h) (Or.inl ⟨by rfl, fun w' hSw => by go_simp⟩) hHeld ?_
    try simp only [Act.put, List.getElem_toArray, List.getElem_cons_succ, List.getElem_cons_zero, List.setIfInBounds_toArray, List.set_cons_zero, List.set_cons_succ]
    refine wpAnyH_take (i := 3) (v := .slice (some ⟨b, 0, none⟩) (i + 1) c) rfl (by kernel_rfl) (by kernel_rfl) (by kernel_rfl) (fun _ _ _ h => h) (Or.inl ⟨by rfl, fun w' hSw => by kernel_rfl⟩) hHeld ?_
    try simp only [Act.put, List.getElem_toArray, List.getElem_cons_succ, List.getElem_cons_zero, List.setIfInBounds_toArray, List.set_cons_zero, List.set_cons_succ]
    refine wpAnyH_take (i := 4) (v := .int .i64 ((i : Int) + 1)) rfl (by kernel_rfl) (by kernel_rfl) (by kernel_rfl) (fun _ _ _ h => h) (Or.inl ⟨by rfl, fun w' hSw => by kernel_rfl⟩) hHeld ?_
    try simp only [Act.put, List.getElem_toArray, List.getElem_cons_succ, List.getElem_cons_zero, List.setIfInBounds_toArray, List.set_cons_zero, List.set_cons_succ]
    refine wpAnyH_take (i := 5) (v := .slice (some ⟨b, i + 1, none⟩) 0 (c - (i + 1))) rfl (by kernel_rfl) (by kernel_rfl) (by kernel_rfl) (fun _ _ _ h => h) (Or.inl ⟨by rfl, fun w' hSw => by go_simp⟩) hHeld ?_
    try simp only [Act.put, List.getElem_toArray, List.getElem_cons_succ, List.getElem_cons_zero, List.setIfInBounds_toArray, List.set_cons_zero, List.set_cons_succ]
    refine wpAnyH_ready (rs := [6]) (by kernel_rfl) (by simp) ?_
    refine AllReadyH.cons rfl (fun K hK => ?_) AllReadyH.nil
    refine step_append_runI rfl (.tmp 22) (.tmp 25) 60 rfl _ _ rfl rfl (hap ⟨b, i + 1, none⟩ _ (c - (i + 1))) ?_
    refine hK.out _ _ trivial (fun hHeld => ?_)
    clear hK
    try simp only [Act.put, List.getElem_toArray, List.getElem_cons_succ, List.getElem_cons_zero, List.setIfInBounds_toArray, List.set_cons_zero, List.set_cons_succ]
    refine wpAnyH_take (i := 7) (v := .slice (some ⟨b, 0, none⟩) i c) rfl (by kernel_rfl) (by kernel_rfl) (by kernel_rfl) (fun _ _ _ h => h) (Or.inl ⟨by rfl, fun w' hSw => by kernel_rfl⟩) hHeld ?_
    try simp only [Act.put, List.getElem_toArray, List.getElem_cons_succ, List.getElem_cons_zero, List.setIfInBounds_toArray, List.set_cons_zero, List.set_cons_succ]
    refine wpAnyH_done (by kernel_rfl) ?_ _
    refine NoPanic.normal ?_
    clear hHeld hap
    go_wp2_with (at_builtin; refine wpList_clear_runI _ rfl _ 60 rfl _ rfl (hcle _ _) ?_)
    go_ret
    exact ⟨rfl, HF.out.1, HF.out.2⟩

/-- slices.Delete, one value. -/
theorem delete44 {w : World} {b i n c : Nat} {A B rest : List Value} {x : Value} (hB : RowB w b 55 (A ++ x :: B ++ rest)) (hi : i = A.length) (hn : n = A.length + 1 + B.length) (hc : c = n + rest.length) (hcm : c ≤ 1000) (h1 : ∀ u ∈ B, u.oneCell' = true) :
    Calls Try.prog 44 #[.slice (some ⟨b, 0, none⟩) n c, .int .i64 (i : Int), .int .i64 ((i : Int) + 1)] w fun e w' =>
      e = .returned (.slice (some ⟨b, 0, none⟩) (n - 1) c) ∧ RowB w' b 55 (A ++ B ++ .pointer none :: rest) ∧ Kep (fun k => k = b) w w' := by
  cases B with
  | cons y B => exact delete44_mid hB hi hn hc hcm h1
  | nil =>
    have hin : n = i + 1 := by simp at hn; omega
    subst hin
    simp only [List.append_nil, List.cons_append, List.nil_append, List.append_assoc] at hB
    refine (delete44_end hB hi hc hcm).mono fun e w' ⟨h1, h2, h3⟩ => ⟨h1, ?_, h3⟩
    simpa using h2
end Go.Proofs.Qxb6615764a
