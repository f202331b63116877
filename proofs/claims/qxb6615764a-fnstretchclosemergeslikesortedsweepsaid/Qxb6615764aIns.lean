/-
  The walks of slices.Insert at []*keyRange (41) and []*node (43), one value, room for it: in place.
-/
import Derived.Test.Qxb6615764aRow
import Derived.Deep.RegionLaw
import Derived.ArgAppend
namespace Go.Proofs.Qxb6615764a
open Go.RowKit Go.Lib
set_option linter.unusedVariables false
set_option linter.unusedSimpArgs false

theorem Try.info46 : (Try.prog.info? 46).map (fun i => (i.zero, i.size, i.bytes)) = some (some (.pointer none), 1, 8) := by kernel_rfl
theorem Try.size46 : (Try.prog.info? 46).map (·.size) = some 1 := by kernel_rfl
theorem Try.sz46 (w : World) : (sizeOf 46).run Try.prog w = .ok 1 w := by kernel_rfl
theorem Try.zv46 (w : World) : (zeroValue 46).run Try.prog w = .ok (.pointer none) w := by kernel_rfl

set_option maxHeartbeats 4000000 in
set_option maxRecDepth 100000 in
/-- slices.Insert, one value, room for it, not at the end. -/
theorem insert41_mid {w : World} {b vb i n c : Nat} {A B rest : List Value} {y r v : Value} (hB : RowB w b 46 (A ++ (y :: B) ++ r :: rest)) (hi : i = A.length) (hn : n = A.length + (B.length + 1)) (hc : c = n + 1 + rest.length) (hcm : c ≤ 1000) (h1 : ∀ u ∈ y :: B, u.oneCell' = true) (hV : RowB w vb 46 [v]) (hv : v.oneCell' = true) (hne : vb ≠ b) :
    Calls Try.prog 41 #[.slice (some ⟨b, 0, none⟩) n c, .int .i64 (i : Int), .slice (some ⟨vb, 0, none⟩) 1 1] w fun e w' =>
      e = .returned (.slice (some ⟨b, 0, none⟩) (n + 1) c) ∧ RowB w' b 46 (A ++ v :: (y :: B) ++ rest) ∧ Kep (fun k => k = b) w w' := by
  have hB1 : RowB (w.drew.setCells b (i + 1) (y :: B)) b 46 ((A ++ [y]) ++ (y :: B) ++ rest) := hB.drew.setMid (P := A ++ [y]) (Q := B ++ [r]) (S := rest) (by simp) (by simp [hi]) _ (by simp)
  have hK1 : Kep (fun k => k = b) w (w.drew.setCells b (i + 1) (y :: B)) := Kep.setCells (M := fun k => k = b) (fun _ => rfl) _ _ (Kep.refl _ _).drew
  have hV1 : RowB (w.drew.setCells b (i + 1) (y :: B)) vb 46 [v] := hV.kep hK1 hne
  have hcl : (A ++ (y :: B) ++ r :: rest).length = c := by simp; omega
  have hbl : (y :: B).length = n - i := by simp; omega
  have hov : ∀ lb cb, (callFunc 46 #[.slice (some ⟨vb, 0, none⟩) 1 1, .slice (some ⟨b, i + 1, none⟩) lb cb]).run Try.prog w = .ok (.value (.bool false)) w := fun lb cb => by
    rw [run_callFunc_extern Try.func46 (by kernel_rfl) (by kernel_rfl) (by kernel_rfl) (e := Extern.SlicesOverlaps.overlaps #[59, 59] #[4]) (by kernel_rfl),
      Lib.run_overlaps_apart w 59 4 46 Try.underlying59 1 Try.sz46 ⟨vb, 0, none⟩ ⟨b, i + 1, none⟩ 1 1 lb cb hne 46 46 _ _ hV.shape hB.shape (by rw [hcl]; omega) (hV.frozen 0) (hV.frozen _)]
    rfl
  have hcp1 : ∀ ty dc sc, (Builtin.copy_ #[59, 59] ty #[.slice (some ⟨b, i + 1, none⟩) (n - i) dc, .slice (some ⟨b, i, none⟩) (n + 1 - i) sc]).run Try.prog w.drew = .ok (goInt (y :: B).length) (w.drew.setCells b (i + 1) (y :: B)) := fun ty dc sc =>
    run_copy_cells (P := Try.prog) w.drew 59 59 ty 46 b (i + 1) (n - i) dc ⟨b, i, none⟩ (n + 1 - i) sc (y :: B) Try.underlying59 Try.size46 (by rw [hbl]; simp only [Nat.min_def]; split <;> omega)
      (fun j u hj => by
        rw [Addr.add_lit, hB.drew.cell, List.append_assoc, List.getElem?_append_right (by omega), hi, Nat.add_sub_cancel_left, List.getElem?_append_left (List.getElem?_eq_some_iff.1 hj).1]; exact hj)
      (fun j hj => by rw [hB.drew.cell, List.getElem?_eq_getElem (by rw [hcl]; rw [hbl] at hj; omega)]; rfl) (fun j hj => hB.drew.frozen _) h1
  obtain ⟨W1, hW1⟩ : ∃ W1, W1 = w.drew.setCells b (i + 1) (y :: B) := ⟨_, rfl⟩
  rw [← hW1] at hB1 hV1 hK1 hcp1
  have hcp2 : ∀ ty dc, (Builtin.copy_ #[59, 59] ty #[.slice (some ⟨b, i, none⟩) (n + 1 - i) dc, .slice (some ⟨vb, 0, none⟩) 1 1]).run Try.prog W1 = .ok (goInt 1) (W1.setCells b i [v]) := fun ty dc =>
    run_copy_cells W1 _ _ ty 46 b i (n + 1 - i) dc ⟨vb, 0, none⟩ 1 1 [v] Try.underlying59 Try.size46 (by simp only [Nat.min_def, List.length_singleton]; split <;> omega)
      (fun j u hj => by rw [Addr.add_lit, hV1.cell, Nat.zero_add]; exact hj)
      (fun j hj => by rw [hB1.cell, List.getElem?_eq_getElem (by simp at hj ⊢; omega)]; rfl) (fun j hj => hB1.frozen _) (fun u hu => by simp at hu; subst hu; exact hv)
  have hfin : RowB (W1.setCells b i [v]) b 46 (A ++ v :: (y :: B) ++ rest) := by
    have := hB1.setMid (P := A) (Q := [y]) (S := (y :: B) ++ rest) (o := i) (by simp) hi [v] rfl
    simpa using this
  have hKf : Kep (fun k => k = b) w (W1.setCells b i [v]) := Kep.setCells (M := fun k => k = b) (fun _ => rfl) _ _ hK1
  have HF : Hid (RowB (W1.setCells b i [v]) b 46 (A ++ v :: (y :: B) ++ rest) ∧ Kep (fun k => k = b) w (W1.setCells b i [v])) := ⟨hfin, hKf⟩
  have h2 : i < n := by omega
  have h3 : n + 1 ≤ c := by omega
  clear hB hV hB1 hV1 hK1 hfin hKf h1 hv hcl hbl hne hi hn hc hW1
  have hz2 : ¬ ((i : Int) = (n : Int)) := by omega
  have hw1 : IntKind.i64.wrap ((i : Int) + 1) = (i : Int) + 1 := by rw [IntKind.wrap_i64]; omega
  have htn : ((i : Int) + 1).toNat = i + 1 := by omega
  have hp1 : (0 : Int) ≤ (i : Int) + 1 := by omega
  have hin : i ≤ n := by omega
  have hb2 : ¬ (c = i + 1) := by omega
  have hb3 : (i : Int) ≤ (n : Int) + 1 := by omega
  have hb4 : ¬ (c = i) := by omega
  have hb5 : ¬ ((c : Int) < (n : Int) + 1) := by omega
  go_enter Try.func41, Try.ntmps41
  go_wp2_with (simp only [hov])
  go_region_law (refine step_copy_runI rfl _ _ 59 59 rfl _ _ (by simp [Act.eval, Act.put]) (by simp [Act.eval, Act.put]) (hcp1 _ _ _) ?_)
  go_wp2_with (at_builtin; refine wpList_copy_runI _ rfl _ _ 59 59 rfl _ _ rfl rfl (hcp2 _ _) ?_)
  go_ret
  exact ⟨rfl, HF.out.1, HF.out.2⟩

set_option maxHeartbeats 4000000 in
set_option maxRecDepth 100000 in
/-- slices.Insert, one value, room for it, at the end. -/
theorem insert41_end {w : World} {b vb n c : Nat} {A rest : List Value} {r v : Value} (hB : RowB w b 46 (A ++ r :: rest)) (hn : n = A.length) (hc : c = n + 1 + rest.length) (hcm : c ≤ 1000) (hV : RowB w vb 46 [v]) (hv : v.oneCell' = true) :
    Calls Try.prog 41 #[.slice (some ⟨b, 0, none⟩) n c, .int .i64 (n : Int), .slice (some ⟨vb, 0, none⟩) 1 1] w fun e w' =>
      e = .returned (.slice (some ⟨b, 0, none⟩) (n + 1) c) ∧ RowB w' b 46 (A ++ v :: rest) ∧ Kep (fun k => k = b) w w' := by
  have hfin : RowB (w.setCells b n [v]) b 46 (A ++ v :: rest) := by
    have := hB.setMid (P := A) (Q := [r]) (S := rest) (o := n) (by simp) hn [v] rfl
    simpa using this
  have hKf : Kep (fun k => k = b) w (w.setCells b n [v]) := Kep.setCells (M := fun k => k = b) (fun _ => rfl) _ _ (Kep.refl _ _)
  have hsrc : Src Try.prog 1 59 (.slice (some ⟨vb, 0, none⟩) 1 1) 1 [v] w := Src.ofSlice w Try.underlying59 ⟨vb, 0, none⟩ 1 1 [v] (by simp) (fun j u hj => by rw [Addr.add_lit, hV.cell, Nat.zero_add]; exact hj) (fun u hu => by simp at hu; subst hu; exact hv)
  have hsp : ∀ j, j < [v].length → (w.cell? ⟨b, 0 + n + j, none⟩).isSome = true := fun j hj => by
    rw [hB.cell, List.getElem?_eq_getElem (by simp at hj ⊢; omega)]; rfl
  have hfz : ∀ j, j < [v].length → w.frozen? ⟨b, 0 + n + j, none⟩ = false := fun j hj => hB.frozen _
  have HF : Hid (RowB (w.setCells b n [v]) b 46 (A ++ v :: rest) ∧ Kep (fun k => k = b) w (w.setCells b n [v])) := ⟨hfin, hKf⟩
  have HS : Hid ((∀ j, j < [v].length → (w.cell? ⟨b, 0 + n + j, none⟩).isSome = true) ∧ ∀ j, j < [v].length → w.frozen? ⟨b, 0 + n + j, none⟩ = false) := ⟨hsp, hfz⟩
  have HC : Hid (n + 1 ≤ c) := by show n + 1 ≤ c; omega
  have hbn : ¬ (c = n) := by omega
  clear hfin hKf hB hV hv hsp hfz hn hc
  go_enter Try.func41, Try.ntmps41
  go_wp2_with (at_builtin; refine wpList_append_room1 _ rfl _ _ 59 59 rfl 46 _ _ Try.underlying59 Try.info46 b 0 n c rfl _ rfl 1 [v] hsrc HC.out HS.out.1 HS.out.2 ?_)
  go_ret
  exact ⟨rfl, HF.out.1, HF.out.2⟩

/-- slices.Insert, one value, room for it. -/
theorem insert41 {w : World} {b vb i n c : Nat} {A B rest : List Value} {r v : Value} (hB : RowB w b 46 (A ++ B ++ r :: rest)) (hi : i = A.length) (hn : n = A.length + B.length) (hc : c = n + 1 + rest.length) (hcm : c ≤ 1000) (h1 : ∀ u ∈ B, u.oneCell' = true) (hV : RowB w vb 46 [v]) (hv : v.oneCell' = true) (hne : vb ≠ b) :
    Calls Try.prog 41 #[.slice (some ⟨b, 0, none⟩) n c, .int .i64 (i : Int), .slice (some ⟨vb, 0, none⟩) 1 1] w fun e w' =>
      e = .returned (.slice (some ⟨b, 0, none⟩) (n + 1) c) ∧ RowB w' b 46 (A ++ v :: B ++ rest) ∧ Kep (fun k => k = b) w w' := by
  cases B with
  | cons y B => exact insert41_mid hB hi hn hc hcm h1 hV hv hne
  | nil =>
    have hin : i = n := by simp at hn; omega
    subst hin
    simp only [List.append_nil] at hB
    refine (insert41_end hB hi hc hcm hV hv).mono fun e w' ⟨h1, h2, h3⟩ => ⟨h1, ?_, h3⟩
    simpa using h2

theorem Try.info55 : (Try.prog.info? 55).map (fun i => (i.zero, i.size, i.bytes)) = some (some (.pointer none), 1, 8) := by kernel_rfl
theorem Try.size55 : (Try.prog.info? 55).map (·.size) = some 1 := by kernel_rfl
theorem Try.sz55 (w : World) : (sizeOf 55).run Try.prog w = .ok 1 w := by kernel_rfl
theorem Try.zv55 (w : World) : (zeroValue 55).run Try.prog w = .ok (.pointer none) w := by kernel_rfl

set_option maxHeartbeats 4000000 in
set_option maxRecDepth 100000 in
/-- slices.Insert, one value, room for it, not at the end. -/
theorem insert43_mid {w : World} {b vb i n c : Nat} {A B rest : List Value} {y r v : Value} (hB : RowB w b 55 (A ++ (y :: B) ++ r :: rest)) (hi : i = A.length) (hn : n = A.length + (B.length + 1)) (hc : c = n + 1 + rest.length) (hcm : c ≤ 1000) (h1 : ∀ u ∈ y :: B, u.oneCell' = true) (hV : RowB w vb 55 [v]) (hv : v.oneCell' = true) (hne : vb ≠ b) :
    Calls Try.prog 43 #[.slice (some ⟨b, 0, none⟩) n c, .int .i64 (i : Int), .slice (some ⟨vb, 0, none⟩) 1 1] w fun e w' =>
      e = .returned (.slice (some ⟨b, 0, none⟩) (n + 1) c) ∧ RowB w' b 55 (A ++ v :: (y :: B) ++ rest) ∧ Kep (fun k => k = b) w w' := by
  have hB1 : RowB (w.drew.setCells b (i + 1) (y :: B)) b 55 ((A ++ [y]) ++ (y :: B) ++ rest) := hB.drew.setMid (P := A ++ [y]) (Q := B ++ [r]) (S := rest) (by simp) (by simp [hi]) _ (by simp)
  have hK1 : Kep (fun k => k = b) w (w.drew.setCells b (i + 1) (y :: B)) := Kep.setCells (M := fun k => k = b) (fun _ => rfl) _ _ (Kep.refl _ _).drew
  have hV1 : RowB (w.drew.setCells b (i + 1) (y :: B)) vb 55 [v] := hV.kep hK1 hne
  have hcl : (A ++ (y :: B) ++ r :: rest).length = c := by simp; omega
  have hbl : (y :: B).length = n - i := by simp; omega
  have hov : ∀ lb cb, (callFunc 48 #[.slice (some ⟨vb, 0, none⟩) 1 1, .slice (some ⟨b, i + 1, none⟩) lb cb]).run Try.prog w = .ok (.value (.bool false)) w := fun lb cb => by
    rw [run_callFunc_extern Try.func48 (by kernel_rfl) (by kernel_rfl) (by kernel_rfl) (e := Extern.SlicesOverlaps.overlaps #[60, 60] #[4]) (by kernel_rfl),
      Lib.run_overlaps_apart w 60 4 55 Try.underlying60 1 Try.sz55 ⟨vb, 0, none⟩ ⟨b, i + 1, none⟩ 1 1 lb cb hne 55 55 _ _ hV.shape hB.shape (by rw [hcl]; omega) (hV.frozen 0) (hV.frozen _)]
    rfl
  have hcp1 : ∀ ty dc sc, (Builtin.copy_ #[60, 60] ty #[.slice (some ⟨b, i + 1, none⟩) (n - i) dc, .slice (some ⟨b, i, none⟩) (n + 1 - i) sc]).run Try.prog w.drew = .ok (goInt (y :: B).length) (w.drew.setCells b (i + 1) (y :: B)) := fun ty dc sc =>
    run_copy_cells (P := Try.prog) w.drew 60 60 ty 55 b (i + 1) (n - i) dc ⟨b, i, none⟩ (n + 1 - i) sc (y :: B) Try.underlying60 Try.size55 (by rw [hbl]; simp only [Nat.min_def]; split <;> omega)
      (fun j u hj => by
        rw [Addr.add_lit, hB.drew.cell, List.append_assoc, List.getElem?_append_right (by omega), hi, Nat.add_sub_cancel_left, List.getElem?_append_left (List.getElem?_eq_some_iff.1 hj).1]; exact hj)
      (fun j hj => by rw [hB.drew.cell, List.getElem?_eq_getElem (by rw [hcl]; rw [hbl] at hj; omega)]; rfl) (fun j hj => hB.drew.frozen _) h1
  obtain ⟨W1, hW1⟩ : ∃ W1, W1 = w.drew.setCells b (i + 1) (y :: B) := ⟨_, rfl⟩
  rw [← hW1] at hB1 hV1 hK1 hcp1
  have hcp2 : ∀ ty dc, (Builtin.copy_ #[60, 60] ty #[.slice (some ⟨b, i, none⟩) (n + 1 - i) dc, .slice (some ⟨vb, 0, none⟩) 1 1]).run Try.prog W1 = .ok (goInt 1) (W1.setCells b i [v]) := fun ty dc =>
    run_copy_cells W1 _ _ ty 55 b i (n + 1 - i) dc ⟨vb, 0, none⟩ 1 1 [v] Try.underlying60 Try.size55 (by simp only [Nat.min_def, List.length_singleton]; split <;> omega)
      (fun j u hj => by rw [Addr.add_lit, hV1.cell, Nat.zero_add]; exact hj)
      (fun j hj => by rw [hB1.cell, List.getElem?_eq_getElem (by simp at hj ⊢; omega)]; rfl) (fun j hj => hB1.frozen _) (fun u hu => by simp at hu; subst hu; exact hv)
  have hfin : RowB (W1.setCells b i [v]) b 55 (A ++ v :: (y :: B) ++ rest) := by
    have := hB1.setMid (P := A) (Q := [y]) (S := (y :: B) ++ rest) (o := i) (by simp) hi [v] rfl
    simpa using this
  have hKf : Kep (fun k => k = b) w (W1.setCells b i [v]) := Kep.setCells (M := fun k => k = b) (fun _ => rfl) _ _ hK1
  have HF : Hid (RowB (W1.setCells b i [v]) b 55 (A ++ v :: (y :: B) ++ rest) ∧ Kep (fun k => k = b) w (W1.setCells b i [v])) := ⟨hfin, hKf⟩
  have h2 : i < n := by omega
  have h3 : n + 1 ≤ c := by omega
  clear hB hV hB1 hV1 hK1 hfin hKf h1 hv hcl hbl hne hi hn hc hW1
  have hz2 : ¬ ((i : Int) = (n : Int)) := by omega
  have hw1 : IntKind.i64.wrap ((i : Int) + 1) = (i : Int) + 1 := by rw [IntKind.wrap_i64]; omega
  have htn : ((i : Int) + 1).toNat = i + 1 := by omega
  have hp1 : (0 : Int) ≤ (i : Int) + 1 := by omega
  have hin : i ≤ n := by omega
  have hb2 : ¬ (c = i + 1) := by omega
  have hb3 : (i : Int) ≤ (n : Int) + 1 := by omega
  have hb4 : ¬ (c = i) := by omega
  have hb5 : ¬ ((c : Int) < (n : Int) + 1) := by omega
  go_enter Try.func43, Try.ntmps43
  go_wp2_with (simp only [hov])
  go_region_law (refine step_copy_runI rfl _ _ 60 60 rfl _ _ (by simp [Act.eval, Act.put]) (by simp [Act.eval, Act.put]) (hcp1 _ _ _) ?_)
  go_wp2_with (at_builtin; refine wpList_copy_runI _ rfl _ _ 60 60 rfl _ _ rfl rfl (hcp2 _ _) ?_)
  go_ret
  exact ⟨rfl, HF.out.1, HF.out.2⟩

set_option maxHeartbeats 4000000 in
set_option maxRecDepth 100000 in
/-- slices.Insert, one value, room for it, at the end. -/
theorem insert43_end {w : World} {b vb n c : Nat} {A rest : List Value} {r v : Value} (hB : RowB w b 55 (A ++ r :: rest)) (hn : n = A.length) (hc : c = n + 1 + rest.length) (hcm : c ≤ 1000) (hV : RowB w vb 55 [v]) (hv : v.oneCell' = true) :
    Calls Try.prog 43 #[.slice (some ⟨b, 0, none⟩) n c, .int .i64 (n : Int), .slice (some ⟨vb, 0, none⟩) 1 1] w fun e w' =>
      e = .returned (.slice (some ⟨b, 0, none⟩) (n + 1) c) ∧ RowB w' b 55 (A ++ v :: rest) ∧ Kep (fun k => k = b) w w' := by
  have hfin : RowB (w.setCells b n [v]) b 55 (A ++ v :: rest) := by
    have := hB.setMid (P := A) (Q := [r]) (S := rest) (o := n) (by simp) hn [v] rfl
    simpa using this
  have hKf : Kep (fun k => k = b) w (w.setCells b n [v]) := Kep.setCells (M := fun k => k = b) (fun _ => rfl) _ _ (Kep.refl _ _)
  have hsrc : Src Try.prog 1 60 (.slice (some ⟨vb, 0, none⟩) 1 1) 1 [v] w := Src.ofSlice w Try.underlying60 ⟨vb, 0, none⟩ 1 1 [v] (by simp) (fun j u hj => by rw [Addr.add_lit, hV.cell, Nat.zero_add]; exact hj) (fun u hu => by simp at hu; subst hu; exact hv)
  have hsp : ∀ j, j < [v].length → (w.cell? ⟨b, 0 + n + j, none⟩).isSome = true := fun j hj => by
    rw [hB.cell, List.getElem?_eq_getElem (by simp at hj ⊢; omega)]; rfl
  have hfz : ∀ j, j < [v].length → w.frozen? ⟨b, 0 + n + j, none⟩ = false := fun j hj => hB.frozen _
  have HF : Hid (RowB (w.setCells b n [v]) b 55 (A ++ v :: rest) ∧ Kep (fun k => k = b) w (w.setCells b n [v])) := ⟨hfin, hKf⟩
  have HS : Hid ((∀ j, j < [v].length → (w.cell? ⟨b, 0 + n + j, none⟩).isSome = true) ∧ ∀ j, j < [v].length → w.frozen? ⟨b, 0 + n + j, none⟩ = false) := ⟨hsp, hfz⟩
  have HC : Hid (n + 1 ≤ c) := by show n + 1 ≤ c; omega
  have hbn : ¬ (c = n) := by omega
  clear hfin hKf hB hV hv hsp hfz hn hc
  go_enter Try.func43, Try.ntmps43
  go_wp2_with (at_builtin; refine wpList_append_room1 _ rfl _ _ 60 60 rfl 55 _ _ Try.underlying60 Try.info55 b 0 n c rfl _ rfl 1 [v] hsrc HC.out HS.out.1 HS.out.2 ?_)
  go_ret
  exact ⟨rfl, HF.out.1, HF.out.2⟩

/-- slices.Insert, one value, room for it. -/
theorem insert43 {w : World} {b vb i n c : Nat} {A B rest : List Value} {r v : Value} (hB : RowB w b 55 (A ++ B ++ r :: rest)) (hi : i = A.length) (hn : n = A.length + B.length) (hc : c = n + 1 + rest.length) (hcm : c ≤ 1000) (h1 : ∀ u ∈ B, u.oneCell' = true) (hV : RowB w vb 55 [v]) (hv : v.oneCell' = true) (hne : vb ≠ b) :
    Calls Try.prog 43 #[.slice (some ⟨b, 0, none⟩) n c, .int .i64 (i : Int), .slice (some ⟨vb, 0, none⟩) 1 1] w fun e w' =>
      e = .returned (.slice (some ⟨b, 0, none⟩) (n + 1) c) ∧ RowB w' b 55 (A ++ v :: B ++ rest) ∧ Kep (fun k => k = b) w w' := by
  cases B with
  | cons y B => exact insert43_mid hB hi hn hc hcm h1 hV hv hne
  | nil =>
    have hin : i = n := by simp at hn; omega
    subst hin
    simp only [List.append_nil] at hB
    refine (insert43_end hB hi hc hcm hV hv).mono fun e w' ⟨h1, h2, h3⟩ => ⟨h1, ?_, h3⟩
    simpa using h2
end Go.Proofs.Qxb6615764a
