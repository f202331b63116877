/-
  The walk of split (40) at an inner child.
-/
import Derived.Test.Qxb6615764aOrd
import Derived.Deep.Cut
namespace Go.Proofs.Qxb6615764a
open Go.RowKit Go.Lib
set_option linter.unusedVariables false
set_option linter.unusedSimpArgs false

theorem nilA_list (n : Nat) : (nilA n).toList = nils n := by
  apply List.ext_getElem?
  intro i
  by_cases h : i < n <;> simp [nilA, nils, madeCells, h, Nat.mod_one]

set_option maxHeartbeats 4000000 in
set_option maxRecDepth 100000 in
theorem split_inner {w : World} {tv : Value} {nb ib cb i lb lib lcb ns nk : Nat} {S1 S2 restS K1 K2 restK P Q KP KQ : List Value} {s0 k0 : Value} {sp : Option Addr}
    (hN : NodeR w nb ib cb ns nk (S1 ++ S2 ++ s0 :: restS) (K1 ++ .pointer (some ⟨lb, 0, none⟩) :: K2 ++ k0 :: restK)) (hns : ns = S1.length + S2.length) (hS63 : 63 = ns + 1 + restS.length)
    (hnk : nk = K1.length + 1 + K2.length) (hK64 : 64 = nk + 1 + restK.length) (hi : i = K1.length) (hi' : i = S1.length)
    (hL : NodeR w lb lib lcb 63 64 (P ++ .pointer sp :: Q) (KP ++ KQ)) (hP : P.length = 31) (hQ : Q.length = 31) (hKP : KP.length = 32) (hKQ : KQ.length = 32)
    (hS1 : ∀ u ∈ S2, u.oneCell' = true) (hK1 : ∀ u ∈ K2, u.oneCell' = true) (hQ1 : ∀ u ∈ Q, u.oneCell' = true) (hKQ1 : ∀ u ∈ KQ, u.oneCell' = true) (hnl : nb ≠ lb) (hil : ib ≠ lib) (hcl : cb ≠ lcb) :
    Calls Try.prog 40 #[tv, .pointer (some ⟨nb, 0, none⟩), .int .i64 (i : Int)] w fun e w' => e = .returned (.tuple #[]) ∧ ∃ rb rib rcb R1 R2, w.heap.size ≤ rb ∧ w.heap.size ≤ rib ∧ w.heap.size ≤ rcb ∧ rb ≠ rib ∧ rb ≠ rcb ∧ rib ≠ rcb ∧ R1.length = 32 ∧ R2.length = 32 ∧
      NodeR w' nb ib cb (ns + 1) (nk + 1) (S1 ++ .pointer sp :: S2 ++ restS) (K1 ++ .pointer (some ⟨lb, 0, none⟩) :: .pointer (some ⟨rb, 0, none⟩) :: K2 ++ restK) ∧
      NodeR w' lb lib lcb 31 32 (P ++ nils 32) (KP ++ nils 32) ∧ NodeR w' rb rib rcb 31 32 (Q ++ R1) (KQ ++ R2) ∧
      Kep (fun k => k = nb ∨ k = ib ∨ k = cb ∨ k = lb ∨ k = lib ∨ k = lcb) w w' := by
  have n0 := hN.c0
  have n1 := hN.c1
  have l0 := hL.c0
  have l1 := hL.c1
  have hki : w.cell? ⟨cb, i, none⟩ = some (.pointer (some ⟨lb, 0, none⟩)) := by
    rw [hN.kid.cell, hi]; simp
  have hik : (i : Int) < (nk : Int) := by omega
  have hi32 : (i : Int) ≤ 64 := by omega
  have HW : Hid (NodeR w nb ib cb ns nk (S1 ++ S2 ++ s0 :: restS) (K1 ++ .pointer (some ⟨lb, 0, none⟩) :: K2 ++ k0 :: restK) ∧ NodeR w lb lib lcb 63 64 (P ++ .pointer sp :: Q) (KP ++ KQ)) := ⟨hN, hL⟩
  have HE : Hid ((ns = S1.length + S2.length ∧ 63 = ns + 1 + restS.length) ∧ (nk = K1.length + 1 + K2.length ∧ 64 = nk + 1 + restK.length) ∧ i = K1.length ∧ i = S1.length) := ⟨⟨hns, hS63⟩, ⟨hnk, hK64⟩, hi, hi'⟩
  have HP : Hid (P.length = 31 ∧ Q.length = 31 ∧ KP.length = 32 ∧ KQ.length = 32) := ⟨hP, hQ, hKP, hKQ⟩
  have HN : Hid (nb ≠ lb ∧ ib ≠ lib ∧ cb ≠ lcb ∧ nb ≠ ib ∧ nb ≠ cb ∧ nb ≠ lib ∧ nb ≠ lcb ∧ ib ≠ cb ∧ ib ≠ lb ∧ ib ≠ lcb ∧ cb ≠ lb ∧ cb ≠ lib ∧ lb ≠ lib ∧ lb ≠ lcb ∧ lib ≠ lcb) := ⟨hnl, hil, hcl, row_ne hN.node hN.row (by decide), row_ne hN.node hN.kid (by decide), row_ne hN.node hL.row (by decide), row_ne hN.node hL.kid (by decide), row_ne hN.row hN.kid (by decide), row_ne hN.row hL.node (by decide), row_ne hN.row hL.kid (by decide), row_ne hN.kid hL.node (by decide), row_ne hN.kid hL.row (by decide), row_ne hL.node hL.row (by decide), row_ne hL.node hL.kid (by decide), row_ne hL.row hL.kid (by decide)⟩
  have HL : Hid ((nb < w.heap.size ∧ ib < w.heap.size ∧ cb < w.heap.size) ∧ lb < w.heap.size ∧ lib < w.heap.size ∧ lcb < w.heap.size) := ⟨hN.lt, hL.lt⟩
  have HO : Hid ((∀ u ∈ S2, u.oneCell' = true) ∧ (∀ u ∈ K2, u.oneCell' = true) ∧ (∀ u ∈ Q, u.oneCell' = true) ∧ (∀ u ∈ KQ, u.oneCell' = true)) := ⟨hS1, hK1, hQ1, hKQ1⟩
  clear hN hL hns hS63 hnk hK64 hi hi' hP hQ hKP hKQ hnl hil hcl hS1 hK1 hQ1 hKQ1
  go_enter Try.func40, Try.ntmps40
  go_upto_region 9 with fail
  go_cut [7] from 9 (fun s7 wc => ∃ rb rib rcb R1 R2, s7 = .pointer (some ⟨rb, 0, none⟩) ∧ (w.heap.size ≤ rb ∧ w.heap.size ≤ rib ∧ w.heap.size ≤ rcb ∧ rb ≠ rib ∧ rb ≠ rcb ∧ rib ≠ rcb ∧ R1.length = 32 ∧ R2.length = 32) ∧ NodeR wc nb ib cb ns nk (S1 ++ S2 ++ s0 :: restS) (K1 ++ .pointer (some ⟨lb, 0, none⟩) :: K2 ++ k0 :: restK) ∧ NodeR wc lb lib lcb 63 64 (P ++ .pointer sp :: Q) (KP ++ KQ) ∧ NodeR wc rb rib rcb 31 32 (Q ++ R1) (KQ ++ R2) ∧ Kep (fun _ => False) w wc)
  case first =>
    -- what holds at every point of the region
    have STEP : ∀ W W', (NodeR W nb ib cb ns nk (S1 ++ S2 ++ s0 :: restS) (K1 ++ .pointer (some ⟨lb, 0, none⟩) :: K2 ++ k0 :: restK) ∧ NodeR W lb lib lcb 63 64 (P ++ .pointer sp :: Q) (KP ++ KQ) ∧ Kep (fun _ => False) w W) → Kep (fun k => w.heap.size ≤ k) W W' → (NodeR W' nb ib cb ns nk (S1 ++ S2 ++ s0 :: restS) (K1 ++ .pointer (some ⟨lb, 0, none⟩) :: K2 ++ k0 :: restK) ∧ NodeR W' lb lib lcb 63 64 (P ++ .pointer sp :: Q) (KP ++ KQ) ∧ Kep (fun _ => False) w W') := by
      intro W W' ⟨h1, h2, h3⟩ k
      have l := HL.out
      exact ⟨h1.kep k (by omega) (by omega) (by omega), h2.kep k (by omega) (by omega) (by omega), h3.trans k (fun j hj hh => by omega)⟩
    have F0 : (NodeR w.drew nb ib cb ns nk (S1 ++ S2 ++ s0 :: restS) (K1 ++ .pointer (some ⟨lb, 0, none⟩) :: K2 ++ k0 :: restK) ∧ NodeR w.drew lb lib lcb 63 64 (P ++ .pointer sp :: Q) (KP ++ KQ) ∧ Kep (fun _ => False) w w.drew) := ⟨HW.out.1.kep (Kep.refl (fun _ => False) w).drew id id id, HW.out.2.kep (Kep.refl (fun _ => False) w).drew id id id, (Kep.refl _ _).drew⟩
    have HS : Hid ((NodeR w.drew nb ib cb ns nk (S1 ++ S2 ++ s0 :: restS) (K1 ++ .pointer (some ⟨lb, 0, none⟩) :: K2 ++ k0 :: restK) ∧ NodeR w.drew lb lib lcb 63 64 (P ++ .pointer sp :: Q) (KP ++ KQ) ∧ Kep (fun _ => False) w w.drew) ∧ ∀ W W', (NodeR W nb ib cb ns nk (S1 ++ S2 ++ s0 :: restS) (K1 ++ .pointer (some ⟨lb, 0, none⟩) :: K2 ++ k0 :: restK) ∧ NodeR W lb lib lcb 63 64 (P ++ .pointer sp :: Q) (KP ++ KQ) ∧ Kep (fun _ => False) w W) → Kep (fun k => w.heap.size ≤ k) W W' → (NodeR W' nb ib cb ns nk (S1 ++ S2 ++ s0 :: restS) (K1 ++ .pointer (some ⟨lb, 0, none⟩) :: K2 ++ k0 :: restK) ∧ NodeR W' lb lib lcb 63 64 (P ++ .pointer sp :: Q) (KP ++ KQ) ∧ Kep (fun _ => False) w W')) := ⟨F0, STEP⟩
    clear F0 STEP n0 n1 hki HW
    refine wp_region_noPanic ?_
    refine wp_region_held_drew (S := fun w' => w'.cell? ⟨lb, 0, none⟩ = some (.slice (some ⟨lib, 0, none⟩) 63 63) ∧ w'.cell? ⟨lb, 1, none⟩ = some (.slice (some ⟨lcb, 0, none⟩) 64 64)) (by kernel_rfl) ⟨HS.out.1.2.1.c0, HS.out.1.2.1.c1⟩ (fun hHeld => ?_)
    generalize w.drew = W0 at *
    clear l0 l1
    refine wpAnyH_take (i := 1) (v := .pointer (some ⟨lb, 0, none⟩)) rfl (by kernel_rfl) (by kernel_rfl) (by kernel_rfl) (fun _ _ _ h => h) (Or.inl ⟨by rfl, fun w' hSw => by kernel_rfl⟩) hHeld ?_
    try simp only [Act.put, List.getElem_toArray, List.getElem_cons_succ, List.getElem_cons_zero, List.setIfInBounds_toArray, List.set_cons_zero, List.set_cons_succ]
    refine wpAnyH_take (i := 2) (v := .pointer (some ⟨lb, 0, none⟩)) rfl (by kernel_rfl) (by kernel_rfl) (by kernel_rfl) (fun _ _ _ h => h) (Or.inl ⟨by rfl, fun w' hSw => by go_simp⟩) hHeld ?_
    try simp only [Act.put, List.getElem_toArray, List.getElem_cons_succ, List.getElem_cons_zero, List.setIfInBounds_toArray, List.set_cons_zero, List.set_cons_succ]
    refine wpAnyH_take (i := 3) (v := .pointer (some ⟨lb, 0, none⟩)) rfl (by kernel_rfl) (by kernel_rfl) (by kernel_rfl) (fun _ _ _ h => h) (Or.inl ⟨by rfl, fun w' hSw => by go_simp⟩) hHeld ?_
    try simp only [Act.put, List.getElem_toArray, List.getElem_cons_succ, List.getElem_cons_zero, List.setIfInBounds_toArray, List.set_cons_zero, List.set_cons_succ]
    refine wpAnyH_take (i := 4) (v := .slice (some ⟨lib, 0, none⟩) 63 63) rfl (by kernel_rfl) (by kernel_rfl) (by kernel_rfl) (fun _ _ _ h => h) (Or.inl ⟨by rfl, fun w' hSw => by (have h := hSw.1; go_simp)⟩) hHeld ?_
    try simp only [Act.put, List.getElem_toArray, List.getElem_cons_succ, List.getElem_cons_zero, List.setIfInBounds_toArray, List.set_cons_zero, List.set_cons_succ]
    refine wpAnyH_take (i := 5) (v := .slice (some ⟨lib, 32, none⟩) 31 31) rfl (by kernel_rfl) (by kernel_rfl) (by kernel_rfl) (fun _ _ _ h => h) (Or.inl ⟨by rfl, fun w' hSw => by go_simp⟩) hHeld ?_
    try simp only [Act.put, List.getElem_toArray, List.getElem_cons_succ, List.getElem_cons_zero, List.setIfInBounds_toArray, List.set_cons_zero, List.set_cons_succ]
    refine wpAnyH_take (i := 8) (v := .pointer (some ⟨lb, 0, none⟩)) rfl (by kernel_rfl) (by kernel_rfl) (by kernel_rfl) (fun _ _ _ h => h) (Or.inl ⟨by rfl, fun w' hSw => by kernel_rfl⟩) hHeld ?_
    try simp only [Act.put, List.getElem_toArray, List.getElem_cons_succ, List.getElem_cons_zero, List.setIfInBounds_toArray, List.set_cons_zero, List.set_cons_succ]
    refine wpAnyH_take (i := 9) (v := .pointer (some ⟨lb, 0, none⟩)) rfl (by kernel_rfl) (by kernel_rfl) (by kernel_rfl) (fun _ _ _ h => h) (Or.inl ⟨by rfl, fun w' hSw => by go_simp⟩) hHeld ?_
    try simp only [Act.put, List.getElem_toArray, List.getElem_cons_succ, List.getElem_cons_zero, List.setIfInBounds_toArray, List.set_cons_zero, List.set_cons_succ]
    refine wpAnyH_take (i := 10) (v := .pointer (some ⟨lb, 1, none⟩)) rfl (by kernel_rfl) (by kernel_rfl) (by kernel_rfl) (fun _ _ _ h => h) (Or.inl ⟨by rfl, fun w' hSw => by go_simp⟩) hHeld ?_
    try simp only [Act.put, List.getElem_toArray, List.getElem_cons_succ, List.getElem_cons_zero, List.setIfInBounds_toArray, List.set_cons_zero, List.set_cons_succ]
    refine wpAnyH_take (i := 11) (v := .slice (some ⟨lcb, 0, none⟩) 64 64) rfl (by kernel_rfl) (by kernel_rfl) (by kernel_rfl) (fun _ _ _ h => h) (Or.inl ⟨by rfl, fun w' hSw => by (have h := hSw.2; go_simp)⟩) hHeld ?_
    try simp only [Act.put, List.getElem_toArray, List.getElem_cons_succ, List.getElem_cons_zero, List.setIfInBounds_toArray, List.set_cons_zero, List.set_cons_succ]
    refine wpAnyH_take (i := 12) (v := .slice (some ⟨lcb, 32, none⟩) 32 32) rfl (by kernel_rfl) (by kernel_rfl) (by kernel_rfl) (fun _ _ _ h => h) (Or.inl ⟨by rfl, fun w' hSw => by go_simp⟩) hHeld ?_
    try simp only [Act.put, List.getElem_toArray, List.getElem_cons_succ, List.getElem_cons_zero, List.setIfInBounds_toArray, List.set_cons_zero, List.set_cons_succ]
    have FW0 := HS.out.1
    replace FW0 : Hid (NodeR W0 nb ib cb ns nk (S1 ++ S2 ++ s0 :: restS) (K1 ++ .pointer (some ⟨lb, 0, none⟩) :: K2 ++ k0 :: restK) ∧ NodeR W0 lb lib lcb 63 64 (P ++ .pointer sp :: Q) (KP ++ KQ) ∧ Kep (fun _ => False) w W0) := FW0
    refine wpAnyH_ready (rs := [0, 7]) (by kernel_rfl) (by simp) ?_
    refine AllReadyH.cons rfl (fun K hK => ?_) (AllReadyH.cons rfl (fun K hK => ?_) AllReadyH.nil)
    · go_simp
      have kW1 : Kep (fun _ => False) W0 (W0.alloc (.cells (nilA 63) 46)) := (Kep.refl _ _).alloc _
      have FW1 : Hid (NodeR (W0.alloc (.cells (nilA 63) 46)) nb ib cb ns nk (S1 ++ S2 ++ s0 :: restS) (K1 ++ .pointer (some ⟨lb, 0, none⟩) :: K2 ++ k0 :: restK) ∧ NodeR (W0.alloc (.cells (nilA 63) 46)) lb lib lcb 63 64 (P ++ .pointer sp :: Q) (KP ++ KQ) ∧ Kep (fun _ => False) w (W0.alloc (.cells (nilA 63) 46))) := HS.out.2 _ _ FW0.out (kW1.mono (fun _ _ h => h.elim))
      have hribW1 : RowB (W0.alloc (.cells (nilA 63) 46)) W0.heap.size 46 (nils 63) := by have := row_newA W0 46 (nilA 63); rwa [nilA_list] at this
      have grib : w.heap.size ≤ W0.heap.size := FW0.out.2.2.size
      refine hK.out _ _ ⟨FW1.out.2.1.c0, FW1.out.2.1.c1⟩ (fun hHeld => ?_)
      clear hK kW1
      generalize W0.heap.size = rib at *
      generalize W0.alloc (.cells (nilA 63) 46) = W1 at *
      try simp only [Act.put, List.getElem_toArray, List.getElem_cons_succ, List.getElem_cons_zero, List.setIfInBounds_toArray, List.set_cons_zero, List.set_cons_succ]
      refine wpAnyH_ready (rs := [6, 7]) (by kernel_rfl) (by simp) ?_
      refine AllReadyH.cons rfl (fun K hK => ?_) (AllReadyH.cons rfl (fun K hK => ?_) AllReadyH.nil)
      · have apW2 : ∀ ty, (Builtin.append_ #[59, 59] ty #[.slice (some ⟨rib, 0, none⟩) 0 63, .slice (some ⟨lib, 32, none⟩) 31 31]).run Try.prog W1 = .ok (.slice (some ⟨rib, 0, none⟩) 31 63) (W1.setCells rib 0 Q) ∧ RowB (W1.setCells rib 0 Q) rib 46 ([] ++ Q ++ nils 32) ∧ Kep (fun k => k = rib) W1 (W1.setCells rib 0 Q) := fun ty => by
          have := append59 (w := W1) (b := rib) (a := lib) (o := 32) (n := 0) (c := 63) (m := 31) (X := []) (R1 := nils 31) (R2 := nils 32) (A := P ++ [.pointer sp]) (news := Q) (A2 := []) (by have := hribW1; simpa [nils] using this) rfl (by simp [nils]) (by have := HP.out.2.1; omega) (by have := HP.out.2.1; simp [nils]; omega) (by have := FW1.out.2.1.row; simpa using this) (by have := HP.out.1; first | omega | (simp; omega)) HO.out.2.2.1 ty 31
          exact this
        refine step_append_runI rfl (.tmp 51) (.tmp 56) 59 rfl _ _ rfl rfl (apW2 _).1 ?_
        have kW2 := (apW2 0).2.2
        have FW2 : Hid (NodeR (W1.setCells rib 0 Q) nb ib cb ns nk (S1 ++ S2 ++ s0 :: restS) (K1 ++ .pointer (some ⟨lb, 0, none⟩) :: K2 ++ k0 :: restK) ∧ NodeR (W1.setCells rib 0 Q) lb lib lcb 63 64 (P ++ .pointer sp :: Q) (KP ++ KQ) ∧ Kep (fun _ => False) w (W1.setCells rib 0 Q)) := HS.out.2 _ _ FW1.out (kW2.mono (fun j _ h => by rw [h]; exact grib))
        have hribW2 : RowB (W1.setCells rib 0 Q) rib 46 (Q ++ nils 32) := (apW2 0).2.1
        refine hK.out _ _ ⟨FW2.out.2.1.c0, FW2.out.2.1.c1⟩ (fun hHeld => ?_)
        clear hK kW2 apW2
        generalize W1.setCells rib 0 Q = W2 at *
        try simp only [Act.put, List.getElem_toArray, List.getElem_cons_succ, List.getElem_cons_zero, List.setIfInBounds_toArray, List.set_cons_zero, List.set_cons_succ]
        refine wpAnyH_ready (rs := [7]) (by kernel_rfl) (by simp) ?_
        refine AllReadyH.cons rfl (fun K hK => ?_) AllReadyH.nil
        go_simp
        have kW3 : Kep (fun _ => False) W2 (W2.alloc (.cells (nilA 64) 55)) := (Kep.refl _ _).alloc _
        have FW3 : Hid (NodeR (W2.alloc (.cells (nilA 64) 55)) nb ib cb ns nk (S1 ++ S2 ++ s0 :: restS) (K1 ++ .pointer (some ⟨lb, 0, none⟩) :: K2 ++ k0 :: restK) ∧ NodeR (W2.alloc (.cells (nilA 64) 55)) lb lib lcb 63 64 (P ++ .pointer sp :: Q) (KP ++ KQ) ∧ Kep (fun _ => False) w (W2.alloc (.cells (nilA 64) 55))) := HS.out.2 _ _ FW2.out (kW3.mono (fun _ _ h => h.elim))
        have hrcbW3 : RowB (W2.alloc (.cells (nilA 64) 55)) W2.heap.size 55 (nils 64) := by have := row_newA W2 55 (nilA 64); rwa [nilA_list] at this
        have grcb : w.heap.size ≤ W2.heap.size := FW2.out.2.2.size
        have nerib : rib ≠ W2.heap.size := Nat.ne_of_lt hribW2.lt
        have hribW3 : RowB (W2.alloc (.cells (nilA 64) 55)) rib 46 (Q ++ nils 32) := hribW2.kep kW3 (by first | exact id | omega)
        refine hK.out _ _ ⟨FW3.out.2.1.c0, FW3.out.2.1.c1⟩ (fun hHeld => ?_)
        clear hK kW3
        generalize W2.heap.size = rcb at *
        generalize W2.alloc (.cells (nilA 64) 55) = W3 at *
        try simp only [Act.put, List.getElem_toArray, List.getElem_cons_succ, List.getElem_cons_zero, List.setIfInBounds_toArray, List.set_cons_zero, List.set_cons_succ]
        refine wpAnyH_ready (rs := [13]) (by kernel_rfl) (by simp) ?_
        refine AllReadyH.cons rfl (fun K hK => ?_) AllReadyH.nil
        have apW4 : ∀ ty, (Builtin.append_ #[60, 60] ty #[.slice (some ⟨rcb, 0, none⟩) 0 64, .slice (some ⟨lcb, 32, none⟩) 32 32]).run Try.prog W3 = .ok (.slice (some ⟨rcb, 0, none⟩) 32 64) (W3.setCells rcb 0 KQ) ∧ RowB (W3.setCells rcb 0 KQ) rcb 55 ([] ++ KQ ++ nils 32) ∧ Kep (fun k => k = rcb) W3 (W3.setCells rcb 0 KQ) := fun ty => by
          have := append60 (w := W3) (b := rcb) (a := lcb) (o := 32) (n := 0) (c := 64) (m := 32) (X := []) (R1 := nils 32) (R2 := nils 32) (A := KP) (news := KQ) (A2 := []) (by have := hrcbW3; simpa [nils] using this) rfl (by simp [nils]) (by have := HP.out.2.2.2; omega) (by have := HP.out.2.2.2; simp [nils]; omega) (by have := FW3.out.2.1.kid; simpa using this) (by have := HP.out.2.2.1; first | omega | (simp; omega)) HO.out.2.2.2 ty 32
          exact this
        refine step_append_runI rfl (.tmp 58) (.tmp 63) 60 rfl _ _ rfl rfl (apW4 _).1 ?_
        have kW4 := (apW4 0).2.2
        have FW4 : Hid (NodeR (W3.setCells rcb 0 KQ) nb ib cb ns nk (S1 ++ S2 ++ s0 :: restS) (K1 ++ .pointer (some ⟨lb, 0, none⟩) :: K2 ++ k0 :: restK) ∧ NodeR (W3.setCells rcb 0 KQ) lb lib lcb 63 64 (P ++ .pointer sp :: Q) (KP ++ KQ) ∧ Kep (fun _ => False) w (W3.setCells rcb 0 KQ)) := HS.out.2 _ _ FW3.out (kW4.mono (fun j _ h => by rw [h]; exact grcb))
        have hribW4 : RowB (W3.setCells rcb 0 KQ) rib 46 (Q ++ nils 32) := hribW3.kep kW4 (by first | exact id | omega)
        have hrcbW4 : RowB (W3.setCells rcb 0 KQ) rcb 55 (KQ ++ nils 32) := (apW4 0).2.1
        refine hK.out _ _ ⟨FW4.out.2.1.c0, FW4.out.2.1.c1⟩ (fun hHeld => ?_)
        clear hK kW4 apW4
        generalize W3.setCells rcb 0 KQ = W4 at *
        try simp only [Act.put, List.getElem_toArray, List.getElem_cons_succ, List.getElem_cons_zero, List.setIfInBounds_toArray, List.set_cons_zero, List.set_cons_succ]
        refine wpAnyH_take (i := 14) (v := .agg #[.slice (some ⟨rib, 0, none⟩) 31 63, .slice (some ⟨rcb, 0, none⟩) 32 64]) rfl (by kernel_rfl) (by kernel_rfl) (by kernel_rfl) (fun _ _ _ h => h) (Or.inl ⟨by rfl, fun w' hSw => by kernel_rfl⟩) hHeld ?_
        try simp only [Act.put, List.getElem_toArray, List.getElem_cons_succ, List.getElem_cons_zero, List.setIfInBounds_toArray, List.set_cons_zero, List.set_cons_succ]
        refine wpAnyH_ready (rs := [15]) (by kernel_rfl) (by simp) ?_
        refine AllReadyH.cons rfl (fun K hK => ?_) AllReadyH.nil
        go_simp
        have kf : Kep (fun _ => False) W4 (W4.alloc (.cells #[.slice (some ⟨rib, 0, none⟩) 31 63, .slice (some ⟨rcb, 0, none⟩) 32 64] 62)) := (Kep.refl _ _).alloc _
        have FF : Hid (NodeR (W4.alloc (.cells #[.slice (some ⟨rib, 0, none⟩) 31 63, .slice (some ⟨rcb, 0, none⟩) 32 64] 62)) nb ib cb ns nk (S1 ++ S2 ++ s0 :: restS) (K1 ++ .pointer (some ⟨lb, 0, none⟩) :: K2 ++ k0 :: restK) ∧ NodeR (W4.alloc (.cells #[.slice (some ⟨rib, 0, none⟩) 31 63, .slice (some ⟨rcb, 0, none⟩) 32 64] 62)) lb lib lcb 63 64 (P ++ .pointer sp :: Q) (KP ++ KQ) ∧ Kep (fun _ => False) w (W4.alloc (.cells #[.slice (some ⟨rib, 0, none⟩) 31 63, .slice (some ⟨rcb, 0, none⟩) 32 64] 62))) := HS.out.2 _ _ FW4.out (kf.mono (fun _ _ h => h.elim))
        have hrb : RowB (W4.alloc (.cells #[.slice (some ⟨rib, 0, none⟩) 31 63, .slice (some ⟨rcb, 0, none⟩) 32 64] 62)) W4.heap.size 62 [.slice (some ⟨rib, 0, none⟩) 31 63, .slice (some ⟨rcb, 0, none⟩) 32 64] := row_new W4 62 [.slice (some ⟨rib, 0, none⟩) 31 63, .slice (some ⟨rcb, 0, none⟩) 32 64]
        have hRR : Hid (NodeR (W4.alloc (.cells #[.slice (some ⟨rib, 0, none⟩) 31 63, .slice (some ⟨rcb, 0, none⟩) 32 64] 62)) W4.heap.size rib rcb 31 32 (Q ++ nils 32) (KQ ++ nils 32)) := ⟨hrb, hribW4.kep kf id, hrcbW4.kep kf id⟩
        have gg : Hid (w.heap.size ≤ W4.heap.size ∧ w.heap.size ≤ rib ∧ w.heap.size ≤ rcb ∧ W4.heap.size ≠ rib ∧ W4.heap.size ≠ rcb ∧ rib ≠ rcb) := ⟨FW4.out.2.2.size, grib, grcb, Nat.ne_of_gt hribW4.lt, Nat.ne_of_gt hrcbW4.lt, row_ne hribW4 hrcbW4 (by decide)⟩
        refine hK.out _ _ ⟨FF.out.2.1.c0, FF.out.2.1.c1⟩ (fun hHeld => ?_)
        clear hK kf hrb
        generalize W4.heap.size = rb at *
        generalize W4.alloc (.cells #[.slice (some ⟨rib, 0, none⟩) 31 63, .slice (some ⟨rcb, 0, none⟩) 32 64] 62) = WF at *
        try simp only [Act.put, List.getElem_toArray, List.getElem_cons_succ, List.getElem_cons_zero, List.setIfInBounds_toArray, List.set_cons_zero, List.set_cons_succ]
        refine wpAnyH_take (i := 16) (v := .pointer (some ⟨rb, 0, none⟩)) rfl (by kernel_rfl) (by kernel_rfl) (by kernel_rfl) (fun _ _ _ h => h) (Or.inl ⟨by rfl, fun w' hSw => by kernel_rfl⟩) hHeld ?_
        try simp only [Act.put, List.getElem_toArray, List.getElem_cons_succ, List.getElem_cons_zero, List.setIfInBounds_toArray, List.set_cons_zero, List.set_cons_succ]
        refine wpAnyH_done (by kernel_rfl) ?_ _
        refine NoPanic.normal ?_
        go_wp2_with fail
        go_meet
        case rel => exact ⟨rb, rib, rcb, nils 32, nils 32, rfl, ⟨gg.out.1, gg.out.2.1, gg.out.2.2.1, gg.out.2.2.2.1, gg.out.2.2.2.2.1, gg.out.2.2.2.2.2, by simp [nils], by simp [nils]⟩, FF.out.1, FF.out.2.1, hRR.out, FF.out.2.2⟩
      · go_simp
        have kW2 : Kep (fun _ => False) W1 (W1.alloc (.cells (nilA 64) 55)) := (Kep.refl _ _).alloc _
        have FW2 : Hid (NodeR (W1.alloc (.cells (nilA 64) 55)) nb ib cb ns nk (S1 ++ S2 ++ s0 :: restS) (K1 ++ .pointer (some ⟨lb, 0, none⟩) :: K2 ++ k0 :: restK) ∧ NodeR (W1.alloc (.cells (nilA 64) 55)) lb lib lcb 63 64 (P ++ .pointer sp :: Q) (KP ++ KQ) ∧ Kep (fun _ => False) w (W1.alloc (.cells (nilA 64) 55))) := HS.out.2 _ _ FW1.out (kW2.mono (fun _ _ h => h.elim))
        have hrcbW2 : RowB (W1.alloc (.cells (nilA 64) 55)) W1.heap.size 55 (nils 64) := by have := row_newA W1 55 (nilA 64); rwa [nilA_list] at this
        have grcb : w.heap.size ≤ W1.heap.size := FW1.out.2.2.size
        have nerib : rib ≠ W1.heap.size := Nat.ne_of_lt hribW1.lt
        have hribW2 : RowB (W1.alloc (.cells (nilA 64) 55)) rib 46 (nils 63) := hribW1.kep kW2 (by first | exact id | omega)
        refine hK.out _ _ ⟨FW2.out.2.1.c0, FW2.out.2.1.c1⟩ (fun hHeld => ?_)
        clear hK kW2
        generalize W1.heap.size = rcb at *
        generalize W1.alloc (.cells (nilA 64) 55) = W2 at *
        try simp only [Act.put, List.getElem_toArray, List.getElem_cons_succ, List.getElem_cons_zero, List.setIfInBounds_toArray, List.set_cons_zero, List.set_cons_succ]
        refine wpAnyH_ready (rs := [6]) (by kernel_rfl) (by simp) ?_
        refine AllReadyH.cons rfl (fun K hK => ?_) AllReadyH.nil
        have apW3 : ∀ ty, (Builtin.append_ #[59, 59] ty #[.slice (some ⟨rib, 0, none⟩) 0 63, .slice (some ⟨lib, 32, none⟩) 31 31]).run Try.prog W2 = .ok (.slice (some ⟨rib, 0, none⟩) 31 63) (W2.setCells rib 0 Q) ∧ RowB (W2.setCells rib 0 Q) rib 46 ([] ++ Q ++ nils 32) ∧ Kep (fun k => k = rib) W2 (W2.setCells rib 0 Q) := fun ty => by
          have := append59 (w := W2) (b := rib) (a := lib) (o := 32) (n := 0) (c := 63) (m := 31) (X := []) (R1 := nils 31) (R2 := nils 32) (A := P ++ [.pointer sp]) (news := Q) (A2 := []) (by have := hribW2; simpa [nils] using this) rfl (by simp [nils]) (by have := HP.out.2.1; omega) (by have := HP.out.2.1; simp [nils]; omega) (by have := FW2.out.2.1.row; simpa using this) (by have := HP.out.1; first | omega | (simp; omega)) HO.out.2.2.1 ty 31
          exact this
        refine step_append_runI rfl (.tmp 51) (.tmp 56) 59 rfl _ _ rfl rfl (apW3 _).1 ?_
        have kW3 := (apW3 0).2.2
        have FW3 : Hid (NodeR (W2.setCells rib 0 Q) nb ib cb ns nk (S1 ++ S2 ++ s0 :: restS) (K1 ++ .pointer (some ⟨lb, 0, none⟩) :: K2 ++ k0 :: restK) ∧ NodeR (W2.setCells rib 0 Q) lb lib lcb 63 64 (P ++ .pointer sp :: Q) (KP ++ KQ) ∧ Kep (fun _ => False) w (W2.setCells rib 0 Q)) := HS.out.2 _ _ FW2.out (kW3.mono (fun j _ h => by rw [h]; exact grib))
        have hrcbW3 : RowB (W2.setCells rib 0 Q) rcb 55 (nils 64) := hrcbW2.kep kW3 (by first | exact id | omega)
        have hribW3 : RowB (W2.setCells rib 0 Q) rib 46 (Q ++ nils 32) := (apW3 0).2.1
        refine hK.out _ _ ⟨FW3.out.2.1.c0, FW3.out.2.1.c1⟩ (fun hHeld => ?_)
        clear hK kW3 apW3
        generalize W2.setCells rib 0 Q = W3 at *
        try simp only [Act.put, List.getElem_toArray, List.getElem_cons_succ, List.getElem_cons_zero, List.setIfInBounds_toArray, List.set_cons_zero, List.set_cons_succ]
        refine wpAnyH_ready (rs := [13]) (by kernel_rfl) (by simp) ?_
        refine AllReadyH.cons rfl (fun K hK => ?_) AllReadyH.nil
        have apW4 : ∀ ty, (Builtin.append_ #[60, 60] ty #[.slice (some ⟨rcb, 0, none⟩) 0 64, .slice (some ⟨lcb, 32, none⟩) 32 32]).run Try.prog W3 = .ok (.slice (some ⟨rcb, 0, none⟩) 32 64) (W3.setCells rcb 0 KQ) ∧ RowB (W3.setCells rcb 0 KQ) rcb 55 ([] ++ KQ ++ nils 32) ∧ Kep (fun k => k = rcb) W3 (W3.setCells rcb 0 KQ) := fun ty => by
          have := append60 (w := W3) (b := rcb) (a := lcb) (o := 32) (n := 0) (c := 64) (m := 32) (X := []) (R1 := nils 32) (R2 := nils 32) (A := KP) (news := KQ) (A2 := []) (by have := hrcbW3; simpa [nils] using this) rfl (by simp [nils]) (by have := HP.out.2.2.2; omega) (by have := HP.out.2.2.2; simp [nils]; omega) (by have := FW3.out.2.1.kid; simpa using this) (by have := HP.out.2.2.1; first | omega | (simp; omega)) HO.out.2.2.2 ty 32
          exact this
        refine step_append_runI rfl (.tmp 58) (.tmp 63) 60 rfl _ _ rfl rfl (apW4 _).1 ?_
        have kW4 := (apW4 0).2.2
        have FW4 : Hid (NodeR (W3.setCells rcb 0 KQ) nb ib cb ns nk (S1 ++ S2 ++ s0 :: restS) (K1 ++ .pointer (some ⟨lb, 0, none⟩) :: K2 ++ k0 :: restK) ∧ NodeR (W3.setCells rcb 0 KQ) lb lib lcb 63 64 (P ++ .pointer sp :: Q) (KP ++ KQ) ∧ Kep (fun _ => False) w (W3.setCells rcb 0 KQ)) := HS.out.2 _ _ FW3.out (kW4.mono (fun j _ h => by rw [h]; exact grcb))
        have hribW4 : RowB (W3.setCells rcb 0 KQ) rib 46 (Q ++ nils 32) := hribW3.kep kW4 (by first | exact id | omega)
        have hrcbW4 : RowB (W3.setCells rcb 0 KQ) rcb 55 (KQ ++ nils 32) := (apW4 0).2.1
        refine hK.out _ _ ⟨FW4.out.2.1.c0, FW4.out.2.1.c1⟩ (fun hHeld => ?_)
        clear hK kW4 apW4
        generalize W3.setCells rcb 0 KQ = W4 at *
        try simp only [Act.put, List.getElem_toArray, List.getElem_cons_succ, List.getElem_cons_zero, List.setIfInBounds_toArray, List.set_cons_zero, List.set_cons_succ]
        refine wpAnyH_take (i := 14) (v := .agg #[.slice (some ⟨rib, 0, none⟩) 31 63, .slice (some ⟨rcb, 0, none⟩) 32 64]) rfl (by kernel_rfl) (by kernel_rfl) (by kernel_rfl) (fun _ _ _ h => h) (Or.inl ⟨by rfl, fun w' hSw => by kernel_rfl⟩) hHeld ?_
        try simp only [Act.put, List.getElem_toArray, List.getElem_cons_succ, List.getElem_cons_zero, List.setIfInBounds_toArray, List.set_cons_zero, List.set_cons_succ]
        refine wpAnyH_ready (rs := [15]) (by kernel_rfl) (by simp) ?_
        refine AllReadyH.cons rfl (fun K hK => ?_) AllReadyH.nil
        go_simp
        have kf : Kep (fun _ => False) W4 (W4.alloc (.cells #[.slice (some ⟨rib, 0, none⟩) 31 63, .slice (some ⟨rcb, 0, none⟩) 32 64] 62)) := (Kep.refl _ _).alloc _
        have FF : Hid (NodeR (W4.alloc (.cells #[.slice (some ⟨rib, 0, none⟩) 31 63, .slice (some ⟨rcb, 0, none⟩) 32 64] 62)) nb ib cb ns nk (S1 ++ S2 ++ s0 :: restS) (K1 ++ .pointer (some ⟨lb, 0, none⟩) :: K2 ++ k0 :: restK) ∧ NodeR (W4.alloc (.cells #[.slice (some ⟨rib, 0, none⟩) 31 63, .slice (some ⟨rcb, 0, none⟩) 32 64] 62)) lb lib lcb 63 64 (P ++ .pointer sp :: Q) (KP ++ KQ) ∧ Kep (fun _ => False) w (W4.alloc (.cells #[.slice (some ⟨rib, 0, none⟩) 31 63, .slice (some ⟨rcb, 0, none⟩) 32 64] 62))) := HS.out.2 _ _ FW4.out (kf.mono (fun _ _ h => h.elim))
        have hrb : RowB (W4.alloc (.cells #[.slice (some ⟨rib, 0, none⟩) 31 63, .slice (some ⟨rcb, 0, none⟩) 32 64] 62)) W4.heap.size 62 [.slice (some ⟨rib, 0, none⟩) 31 63, .slice (some ⟨rcb, 0, none⟩) 32 64] := row_new W4 62 [.slice (some ⟨rib, 0, none⟩) 31 63, .slice (some ⟨rcb, 0, none⟩) 32 64]
        have hRR : Hid (NodeR (W4.alloc (.cells #[.slice (some ⟨rib, 0, none⟩) 31 63, .slice (some ⟨rcb, 0, none⟩) 32 64] 62)) W4.heap.size rib rcb 31 32 (Q ++ nils 32) (KQ ++ nils 32)) := ⟨hrb, hribW4.kep kf id, hrcbW4.kep kf id⟩
        have gg : Hid (w.heap.size ≤ W4.heap.size ∧ w.heap.size ≤ rib ∧ w.heap.size ≤ rcb ∧ W4.heap.size ≠ rib ∧ W4.heap.size ≠ rcb ∧ rib ≠ rcb) := ⟨FW4.out.2.2.size, grib, grcb, Nat.ne_of_gt hribW4.lt, Nat.ne_of_gt hrcbW4.lt, row_ne hribW4 hrcbW4 (by decide)⟩
        refine hK.out _ _ ⟨FF.out.2.1.c0, FF.out.2.1.c1⟩ (fun hHeld => ?_)
        clear hK kf hrb
        generalize W4.heap.size = rb at *
        generalize W4.alloc (.cells #[.slice (some ⟨rib, 0, none⟩) 31 63, .slice (some ⟨rcb, 0, none⟩) 32 64] 62) = WF at *
        try simp only [Act.put, List.getElem_toArray, List.getElem_cons_succ, List.getElem_cons_zero, List.setIfInBounds_toArray, List.set_cons_zero, List.set_cons_succ]
        refine wpAnyH_take (i := 16) (v := .pointer (some ⟨rb, 0, none⟩)) rfl (by kernel_rfl) (by kernel_rfl) (by kernel_rfl) (fun _ _ _ h => h) (Or.inl ⟨by rfl, fun w' hSw => by kernel_rfl⟩) hHeld ?_
        try simp only [Act.put, List.getElem_toArray, List.getElem_cons_succ, List.getElem_cons_zero, List.setIfInBounds_toArray, List.set_cons_zero, List.set_cons_succ]
        refine wpAnyH_done (by kernel_rfl) ?_ _
        refine NoPanic.normal ?_
        go_wp2_with fail
        go_meet
        case rel => exact ⟨rb, rib, rcb, nils 32, nils 32, rfl, ⟨gg.out.1, gg.out.2.1, gg.out.2.2.1, gg.out.2.2.2.1, gg.out.2.2.2.2.1, gg.out.2.2.2.2.2, by simp [nils], by simp [nils]⟩, FF.out.1, FF.out.2.1, hRR.out, FF.out.2.2⟩
    · go_simp
      have kW1 : Kep (fun _ => False) W0 (W0.alloc (.cells (nilA 64) 55)) := (Kep.refl _ _).alloc _
      have FW1 : Hid (NodeR (W0.alloc (.cells (nilA 64) 55)) nb ib cb ns nk (S1 ++ S2 ++ s0 :: restS) (K1 ++ .pointer (some ⟨lb, 0, none⟩) :: K2 ++ k0 :: restK) ∧ NodeR (W0.alloc (.cells (nilA 64) 55)) lb lib lcb 63 64 (P ++ .pointer sp :: Q) (KP ++ KQ) ∧ Kep (fun _ => False) w (W0.alloc (.cells (nilA 64) 55))) := HS.out.2 _ _ FW0.out (kW1.mono (fun _ _ h => h.elim))
      have hrcbW1 : RowB (W0.alloc (.cells (nilA 64) 55)) W0.heap.size 55 (nils 64) := by have := row_newA W0 55 (nilA 64); rwa [nilA_list] at this
      have grcb : w.heap.size ≤ W0.heap.size := FW0.out.2.2.size
      refine hK.out _ _ ⟨FW1.out.2.1.c0, FW1.out.2.1.c1⟩ (fun hHeld => ?_)
      clear hK kW1
      generalize W0.heap.size = rcb at *
      generalize W0.alloc (.cells (nilA 64) 55) = W1 at *
      try simp only [Act.put, List.getElem_toArray, List.getElem_cons_succ, List.getElem_cons_zero, List.setIfInBounds_toArray, List.set_cons_zero, List.set_cons_succ]
      refine wpAnyH_ready (rs := [0]) (by kernel_rfl) (by simp) ?_
      refine AllReadyH.cons rfl (fun K hK => ?_) AllReadyH.nil
      go_simp
      have kW2 : Kep (fun _ => False) W1 (W1.alloc (.cells (nilA 63) 46)) := (Kep.refl _ _).alloc _
      have FW2 : Hid (NodeR (W1.alloc (.cells (nilA 63) 46)) nb ib cb ns nk (S1 ++ S2 ++ s0 :: restS) (K1 ++ .pointer (some ⟨lb, 0, none⟩) :: K2 ++ k0 :: restK) ∧ NodeR (W1.alloc (.cells (nilA 63) 46)) lb lib lcb 63 64 (P ++ .pointer sp :: Q) (KP ++ KQ) ∧ Kep (fun _ => False) w (W1.alloc (.cells (nilA 63) 46))) := HS.out.2 _ _ FW1.out (kW2.mono (fun _ _ h => h.elim))
      have hribW2 : RowB (W1.alloc (.cells (nilA 63) 46)) W1.heap.size 46 (nils 63) := by have := row_newA W1 46 (nilA 63); rwa [nilA_list] at this
      have grib : w.heap.size ≤ W1.heap.size := FW1.out.2.2.size
      have nercb : rcb ≠ W1.heap.size := Nat.ne_of_lt hrcbW1.lt
      have hrcbW2 : RowB (W1.alloc (.cells (nilA 63) 46)) rcb 55 (nils 64) := hrcbW1.kep kW2 (by first | exact id | omega)
      refine hK.out _ _ ⟨FW2.out.2.1.c0, FW2.out.2.1.c1⟩ (fun hHeld => ?_)
      clear hK kW2
      generalize W1.heap.size = rib at *
      generalize W1.alloc (.cells (nilA 63) 46) = W2 at *
      try simp only [Act.put, List.getElem_toArray, List.getElem_cons_succ, List.getElem_cons_zero, List.setIfInBounds_toArray, List.set_cons_zero, List.set_cons_succ]
      refine wpAnyH_ready (rs := [6]) (by kernel_rfl) (by simp) ?_
      refine AllReadyH.cons rfl (fun K hK => ?_) AllReadyH.nil
      have apW3 : ∀ ty, (Builtin.append_ #[59, 59] ty #[.slice (some ⟨rib, 0, none⟩) 0 63, .slice (some ⟨lib, 32, none⟩) 31 31]).run Try.prog W2 = .ok (.slice (some ⟨rib, 0, none⟩) 31 63) (W2.setCells rib 0 Q) ∧ RowB (W2.setCells rib 0 Q) rib 46 ([] ++ Q ++ nils 32) ∧ Kep (fun k => k = rib) W2 (W2.setCells rib 0 Q) := fun ty => by
        have := append59 (w := W2) (b := rib) (a := lib) (o := 32) (n := 0) (c := 63) (m := 31) (X := []) (R1 := nils 31) (R2 := nils 32) (A := P ++ [.pointer sp]) (news := Q) (A2 := []) (by have := hribW2; simpa [nils] using this) rfl (by simp [nils]) (by have := HP.out.2.1; omega) (by have := HP.out.2.1; simp [nils]; omega) (by have := FW2.out.2.1.row; simpa using this) (by have := HP.out.1; first | omega | (simp; omega)) HO.out.2.2.1 ty 31
        exact this
      refine step_append_runI rfl (.tmp 51) (.tmp 56) 59 rfl _ _ rfl rfl (apW3 _).1 ?_
      have kW3 := (apW3 0).2.2
      have FW3 : Hid (NodeR (W2.setCells rib 0 Q) nb ib cb ns nk (S1 ++ S2 ++ s0 :: restS) (K1 ++ .pointer (some ⟨lb, 0, none⟩) :: K2 ++ k0 :: restK) ∧ NodeR (W2.setCells rib 0 Q) lb lib lcb 63 64 (P ++ .pointer sp :: Q) (KP ++ KQ) ∧ Kep (fun _ => False) w (W2.setCells rib 0 Q)) := HS.out.2 _ _ FW2.out (kW3.mono (fun j _ h => by rw [h]; exact grib))
      have hrcbW3 : RowB (W2.setCells rib 0 Q) rcb 55 (nils 64) := hrcbW2.kep kW3 (by first | exact id | omega)
      have hribW3 : RowB (W2.setCells rib 0 Q) rib 46 (Q ++ nils 32) := (apW3 0).2.1
      refine hK.out _ _ ⟨FW3.out.2.1.c0, FW3.out.2.1.c1⟩ (fun hHeld => ?_)
      clear hK kW3 apW3
      generalize W2.setCells rib 0 Q = W3 at *
      try simp only [Act.put, List.getElem_toArray, List.getElem_cons_succ, List.getElem_cons_zero, List.setIfInBounds_toArray, List.set_cons_zero, List.set_cons_succ]
      refine wpAnyH_ready (rs := [13]) (by kernel_rfl) (by simp) ?_
      refine AllReadyH.cons rfl (fun K hK => ?_) AllReadyH.nil
      have apW4 : ∀ ty, (Builtin.append_ #[60, 60] ty #[.slice (some ⟨rcb, 0, none⟩) 0 64, .slice (some ⟨lcb, 32, none⟩) 32 32]).run Try.prog W3 = .ok (.slice (some ⟨rcb, 0, none⟩) 32 64) (W3.setCells rcb 0 KQ) ∧ RowB (W3.setCells rcb 0 KQ) rcb 55 ([] ++ KQ ++ nils 32) ∧ Kep (fun k => k = rcb) W3 (W3.setCells rcb 0 KQ) := fun ty => by
        have := append60 (w := W3) (b := rcb) (a := lcb) (o := 32) (n := 0) (c := 64) (m := 32) (X := []) (R1 := nils 32) (R2 := nils 32) (A := KP) (news := KQ) (A2 := []) (by have := hrcbW3; simpa [nils] using this) rfl (by simp [nils]) (by have := HP.out.2.2.2; omega) (by have := HP.out.2.2.2; simp [nils]; omega) (by have := FW3.out.2.1.kid; simpa using this) (by have := HP.out.2.2.1; first | omega | (simp; omega)) HO.out.2.2.2 ty 32
        exact this
      refine step_append_runI rfl (.tmp 58) (.tmp 63) 60 rfl _ _ rfl rfl (apW4 _).1 ?_
      have kW4 := (apW4 0).2.2
      have FW4 : Hid (NodeR (W3.setCells rcb 0 KQ) nb ib cb ns nk (S1 ++ S2 ++ s0 :: restS) (K1 ++ .pointer (some ⟨lb, 0, none⟩) :: K2 ++ k0 :: restK) ∧ NodeR (W3.setCells rcb 0 KQ) lb lib lcb 63 64 (P ++ .pointer sp :: Q) (KP ++ KQ) ∧ Kep (fun _ => False) w (W3.setCells rcb 0 KQ)) := HS.out.2 _ _ FW3.out (kW4.mono (fun j _ h => by rw [h]; exact grcb))
      have hribW4 : RowB (W3.setCells rcb 0 KQ) rib 46 (Q ++ nils 32) := hribW3.kep kW4 (by first | exact id | omega)
      have hrcbW4 : RowB (W3.setCells rcb 0 KQ) rcb 55 (KQ ++ nils 32) := (apW4 0).2.1
      refine hK.out _ _ ⟨FW4.out.2.1.c0, FW4.out.2.1.c1⟩ (fun hHeld => ?_)
      clear hK kW4 apW4
      generalize W3.setCells rcb 0 KQ = W4 at *
      try simp only [Act.put, List.getElem_toArray, List.getElem_cons_succ, List.getElem_cons_zero, List.setIfInBounds_toArray, List.set_cons_zero, List.set_cons_succ]
      refine wpAnyH_take (i := 14) (v := .agg #[.slice (some ⟨rib, 0, none⟩) 31 63, .slice (some ⟨rcb, 0, none⟩) 32 64]) rfl (by kernel_rfl) (by kernel_rfl) (by kernel_rfl) (fun _ _ _ h => h) (Or.inl ⟨by rfl, fun w' hSw => by kernel_rfl⟩) hHeld ?_
      try simp only [Act.put, List.getElem_toArray, List.getElem_cons_succ, List.getElem_cons_zero, List.setIfInBounds_toArray, List.set_cons_zero, List.set_cons_succ]
      refine wpAnyH_ready (rs := [15]) (by kernel_rfl) (by simp) ?_
      refine AllReadyH.cons rfl (fun K hK => ?_) AllReadyH.nil
      go_simp
      have kf : Kep (fun _ => False) W4 (W4.alloc (.cells #[.slice (some ⟨rib, 0, none⟩) 31 63, .slice (some ⟨rcb, 0, none⟩) 32 64] 62)) := (Kep.refl _ _).alloc _
      have FF : Hid (NodeR (W4.alloc (.cells #[.slice (some ⟨rib, 0, none⟩) 31 63, .slice (some ⟨rcb, 0, none⟩) 32 64] 62)) nb ib cb ns nk (S1 ++ S2 ++ s0 :: restS) (K1 ++ .pointer (some ⟨lb, 0, none⟩) :: K2 ++ k0 :: restK) ∧ NodeR (W4.alloc (.cells #[.slice (some ⟨rib, 0, none⟩) 31 63, .slice (some ⟨rcb, 0, none⟩) 32 64] 62)) lb lib lcb 63 64 (P ++ .pointer sp :: Q) (KP ++ KQ) ∧ Kep (fun _ => False) w (W4.alloc (.cells #[.slice (some ⟨rib, 0, none⟩) 31 63, .slice (some ⟨rcb, 0, none⟩) 32 64] 62))) := HS.out.2 _ _ FW4.out (kf.mono (fun _ _ h => h.elim))
      have hrb : RowB (W4.alloc (.cells #[.slice (some ⟨rib, 0, none⟩) 31 63, .slice (some ⟨rcb, 0, none⟩) 32 64] 62)) W4.heap.size 62 [.slice (some ⟨rib, 0, none⟩) 31 63, .slice (some ⟨rcb, 0, none⟩) 32 64] := row_new W4 62 [.slice (some ⟨rib, 0, none⟩) 31 63, .slice (some ⟨rcb, 0, none⟩) 32 64]
      have hRR : Hid (NodeR (W4.alloc (.cells #[.slice (some ⟨rib, 0, none⟩) 31 63, .slice (some ⟨rcb, 0, none⟩) 32 64] 62)) W4.heap.size rib rcb 31 32 (Q ++ nils 32) (KQ ++ nils 32)) := ⟨hrb, hribW4.kep kf id, hrcbW4.kep kf id⟩
      have gg : Hid (w.heap.size ≤ W4.heap.size ∧ w.heap.size ≤ rib ∧ w.heap.size ≤ rcb ∧ W4.heap.size ≠ rib ∧ W4.heap.size ≠ rcb ∧ rib ≠ rcb) := ⟨FW4.out.2.2.size, grib, grcb, Nat.ne_of_gt hribW4.lt, Nat.ne_of_gt hrcbW4.lt, row_ne hribW4 hrcbW4 (by decide)⟩
      refine hK.out _ _ ⟨FF.out.2.1.c0, FF.out.2.1.c1⟩ (fun hHeld => ?_)
      clear hK kf hrb
      generalize W4.heap.size = rb at *
      generalize W4.alloc (.cells #[.slice (some ⟨rib, 0, none⟩) 31 63, .slice (some ⟨rcb, 0, none⟩) 32 64] 62) = WF at *
      try simp only [Act.put, List.getElem_toArray, List.getElem_cons_succ, List.getElem_cons_zero, List.setIfInBounds_toArray, List.set_cons_zero, List.set_cons_succ]
      refine wpAnyH_take (i := 16) (v := .pointer (some ⟨rb, 0, none⟩)) rfl (by kernel_rfl) (by kernel_rfl) (by kernel_rfl) (fun _ _ _ h => h) (Or.inl ⟨by rfl, fun w' hSw => by kernel_rfl⟩) hHeld ?_
      try simp only [Act.put, List.getElem_toArray, List.getElem_cons_succ, List.getElem_cons_zero, List.setIfInBounds_toArray, List.set_cons_zero, List.set_cons_succ]
      refine wpAnyH_done (by kernel_rfl) ?_ _
      refine NoPanic.normal ?_
      go_wp2_with fail
      go_meet
      case rel => exact ⟨rb, rib, rcb, nils 32, nils 32, rfl, ⟨gg.out.1, gg.out.2.1, gg.out.2.2.1, gg.out.2.2.2.1, gg.out.2.2.2.2.1, gg.out.2.2.2.2.2, by simp [nils], by simp [nils]⟩, FF.out.1, FF.out.2.1, hRR.out, FF.out.2.2⟩
  case rest =>
    obtain ⟨rb, rib, rcb, R1, R2, rfl, hB, hN1, hL1, hR1, hKp1⟩ := hcut
    have HB : Hid (w.heap.size ≤ rb ∧ w.heap.size ≤ rib ∧ w.heap.size ≤ rcb ∧ rb ≠ rib ∧ rb ≠ rcb ∧ rib ≠ rcb ∧ R1.length = 32 ∧ R2.length = 32) := hB
    have H1 : Hid (NodeR wc nb ib cb ns nk (S1 ++ S2 ++ s0 :: restS) (K1 ++ .pointer (some ⟨lb, 0, none⟩) :: K2 ++ k0 :: restK) ∧ NodeR wc lb lib lcb 63 64 (P ++ .pointer sp :: Q) (KP ++ KQ) ∧ NodeR wc rb rib rcb 31 32 (Q ++ R1) (KQ ++ R2) ∧ Kep (fun k => k = nb ∨ k = ib ∨ k = cb ∨ k = lb ∨ k = lib ∨ k = lcb) w wc) := ⟨hN1, hL1, hR1, hKp1.mono (fun _ _ h => h.elim)⟩
    have l0' := hL1.c0
    have l1' := hL1.c1
    have lsp : wc.cell? ⟨lib, 31, none⟩ = some (.pointer sp) := by rw [hL1.row.cell, List.getElem?_append_right (by rw [HP.out.1]; decide), HP.out.1]; rfl
    clear hB hN1 hL1 hR1 hKp1 HW n0 n1 l0 l1 hki
    go_upto_region 11 with fail
    -- clear(c.items[31:])
    have hc1 : ∀ ty, (Builtin.clear_ #[59] ty #[.slice (some ⟨lib, 31, none⟩) 32 32]).run Try.prog wc = .ok (.tuple #[]) (wc.setCells lib 31 (nils 32)) := fun ty =>
      Lib.run_clear_slice wc 59 46 ty (.pointer none) Try.underlying59 Try.zv46 rfl rfl lib 31 32 32 (by omega) (fun j hj => by rw [H1.out.2.1.row.cell, List.getElem?_eq_getElem (by have := HP.out; simp; omega)]; rfl) (fun j hj => H1.out.2.1.row.frozen _)
    have hq1 : RowB (wc.setCells lib 31 (nils 32)) lib 46 (P ++ nils 32) := by
      have := H1.out.2.1.row.setMid (P := P) (Q := .pointer sp :: Q) (S := []) (o := 31) (by simp) HP.out.1.symm (nils 32) (by simp [nils, HP.out.2.1])
      simpa using this
    have kk1 : Kep (fun k => k = lib) wc (wc.setCells lib 31 (nils 32)) := Kep.setCells (M := fun k => k = lib) (fun _ => rfl) _ _ (Kep.refl _ _)
    go_upto_region 12 with (at_builtin; refine wpList_clear_runI _ rfl _ 59 rfl _ rfl (hc1 _) ?_)
    have H2 : Hid (NodeR (wc.setCells lib 31 (nils 32)) nb ib cb ns nk (S1 ++ S2 ++ s0 :: restS) (K1 ++ .pointer (some ⟨lb, 0, none⟩) :: K2 ++ k0 :: restK) ∧ NodeR (wc.setCells lib 31 (nils 32)) lb lib lcb 63 64 (P ++ nils 32) (KP ++ KQ) ∧ NodeR (wc.setCells lib 31 (nils 32)) rb rib rcb 31 32 (Q ++ R1) (KQ ++ R2) ∧ Kep (fun k => k = nb ∨ k = ib ∨ k = cb ∨ k = lb ∨ k = lib ∨ k = lcb) w (wc.setCells lib 31 (nils 32))) :=
      ⟨H1.out.1.kep kk1 (by have := HN.out; have := HB.out; have := HL.out; omega) (by have := HN.out; have := HB.out; have := HL.out; omega) (by have := HN.out; have := HB.out; have := HL.out; omega), ⟨H1.out.2.1.node.kep kk1 (by have := HN.out; have := HB.out; have := HL.out; omega), hq1, H1.out.2.1.kid.kep kk1 (by have := HN.out; have := HB.out; have := HL.out; omega)⟩, H1.out.2.2.1.kep kk1 (by have := HN.out; have := HB.out; have := HL.out; omega) (by have := HN.out; have := HB.out; have := HL.out; omega) (by have := HN.out; have := HB.out; have := HL.out; omega), H1.out.2.2.2.trans kk1 (fun j hj e => by simp [e])⟩
    have l1' := H2.out.2.1.c1
    clear H1 hc1 hq1 kk1 l0' lsp
    generalize wc.setCells lib 31 (nils 32) = w2 at *
    -- clear(c.children[32:])
    have hc1 : ∀ ty, (Builtin.clear_ #[60] ty #[.slice (some ⟨lcb, 32, none⟩) 32 32]).run Try.prog w2 = .ok (.tuple #[]) (w2.setCells lcb 32 (nils 32)) := fun ty =>
      Lib.run_clear_slice w2 60 55 ty (.pointer none) Try.underlying60 Try.zv55 rfl rfl lcb 32 32 32 (by omega) (fun j hj => by rw [H2.out.2.1.kid.cell, List.getElem?_eq_getElem (by have := HP.out; simp; omega)]; rfl) (fun j hj => H2.out.2.1.kid.frozen _)
    have hq1 : RowB (w2.setCells lcb 32 (nils 32)) lcb 55 (KP ++ nils 32) := by
      have := H2.out.2.1.kid.setMid (P := KP) (Q := KQ) (S := []) (o := 32) (by simp) HP.out.2.2.1.symm (nils 32) (by simp [nils, HP.out.2.2.2])
      simpa using this
    have kk1 : Kep (fun k => k = lcb) w2 (w2.setCells lcb 32 (nils 32)) := Kep.setCells (M := fun k => k = lcb) (fun _ => rfl) _ _ (Kep.refl _ _)
    go_upto_region 13 with (at_builtin; refine wpList_clear_runI _ rfl _ 60 rfl _ rfl (hc1 _) ?_)
    have H3 : Hid (NodeR (w2.setCells lcb 32 (nils 32)) nb ib cb ns nk (S1 ++ S2 ++ s0 :: restS) (K1 ++ .pointer (some ⟨lb, 0, none⟩) :: K2 ++ k0 :: restK) ∧ NodeR (w2.setCells lcb 32 (nils 32)) lb lib lcb 63 64 (P ++ nils 32) (KP ++ nils 32) ∧ NodeR (w2.setCells lcb 32 (nils 32)) rb rib rcb 31 32 (Q ++ R1) (KQ ++ R2) ∧ Kep (fun k => k = nb ∨ k = ib ∨ k = cb ∨ k = lb ∨ k = lib ∨ k = lcb) w (w2.setCells lcb 32 (nils 32))) :=
      ⟨H2.out.1.kep kk1 (by have := HN.out; have := HB.out; have := HL.out; omega) (by have := HN.out; have := HB.out; have := HL.out; omega) (by have := HN.out; have := HB.out; have := HL.out; omega), ⟨H2.out.2.1.node.kep kk1 (by have := HN.out; have := HB.out; have := HL.out; omega), H2.out.2.1.row.kep kk1 (by have := HN.out; have := HB.out; have := HL.out; omega), hq1⟩, H2.out.2.2.1.kep kk1 (by have := HN.out; have := HB.out; have := HL.out; omega) (by have := HN.out; have := HB.out; have := HL.out; omega) (by have := HN.out; have := HB.out; have := HL.out; omega), H2.out.2.2.2.trans kk1 (fun j hj e => by simp [e])⟩
    clear H2 hc1 hq1 kk1 l1'
    generalize w2.setCells lcb 32 (nils 32) = w3 at *
    go_cut [] from 9 (fun wd => NodeR wd nb ib cb ns nk (S1 ++ S2 ++ s0 :: restS) (K1 ++ .pointer (some ⟨lb, 0, none⟩) :: K2 ++ k0 :: restK) ∧ NodeR wd lb lib lcb 31 32 (P ++ nils 32) (KP ++ nils 32) ∧ NodeR wd rb rib rcb 31 32 (Q ++ R1) (KQ ++ R2) ∧ Kep (fun k => k = nb ∨ k = ib ∨ k = cb ∨ k = lb ∨ k = lib ∨ k = lcb) w wd)
    case first =>
      refine wp_region_G (fun w' => w'.cell? ⟨lb, 0, none⟩ = some (.slice (some ⟨lib, 0, none⟩) 63 63) ∧ w'.cell? ⟨lb, 1, none⟩ = some (.slice (some ⟨lcb, 0, none⟩) 64 64)) (fun _ => True) [14, 17] (by kernel_rfl) ?_
      have H3' : Hid (NodeR w3.drew nb ib cb ns nk (S1 ++ S2 ++ s0 :: restS) (K1 ++ .pointer (some ⟨lb, 0, none⟩) :: K2 ++ k0 :: restK) ∧ NodeR w3.drew lb lib lcb 63 64 (P ++ nils 32) (KP ++ nils 32) ∧ NodeR w3.drew rb rib rcb 31 32 (Q ++ R1) (KQ ++ R2) ∧ Kep (fun k => k = nb ∨ k = ib ∨ k = cb ∨ k = lb ∨ k = lib ∨ k = lcb) w w3.drew) := ⟨H3.out.1.kep (Kep.refl (fun _ => False) _).drew id id id, H3.out.2.1.kep (Kep.refl (fun _ => False) _).drew id id id, H3.out.2.2.1.kep (Kep.refl (fun _ => False) _).drew id id id, H3.out.2.2.2.drew⟩
      clear H3
      generalize w3.drew = w4 at *
      have HA : Hid (w4.cell? ⟨lb, 0, none⟩ = some (.slice (some ⟨lib, 0, none⟩) 63 63) ∧ w4.cell? ⟨lb, 1, none⟩ = some (.slice (some ⟨lcb, 0, none⟩) 64 64)) := ⟨H3'.out.2.1.c0, H3'.out.2.1.c1⟩
      refine wpAnyG_takeB (i := 0) (v := .pointer (some ⟨lb, 0, none⟩)) rfl (by kernel_rfl) (by kernel_rfl) (by kernel_rfl) (by kernel_rfl) (fun _ _ _ h => h) (fun _ => HA.out) trivial (Or.inl ⟨by rfl, fun w' hSw => by kernel_rfl⟩) ?_
      try simp only [Act.put, List.getElem_toArray, List.getElem_cons_succ, List.getElem_cons_zero, List.setIfInBounds_toArray, List.set_cons_zero, List.set_cons_succ]
      refine wpAnyG_takeB (i := 1) (v := .pointer (some ⟨lb, 0, none⟩)) rfl (by kernel_rfl) (by kernel_rfl) (by kernel_rfl) (by kernel_rfl) (fun _ _ _ h => h) (fun _ => HA.out) trivial (Or.inl ⟨by rfl, fun w' hSw => by kernel_rfl⟩) ?_
      try simp only [Act.put, List.getElem_toArray, List.getElem_cons_succ, List.getElem_cons_zero, List.setIfInBounds_toArray, List.set_cons_zero, List.set_cons_succ]
      refine wpAnyG_takeB (i := 2) (v := .pointer (some ⟨lb, 0, none⟩)) rfl (by kernel_rfl) (by kernel_rfl) (by kernel_rfl) (by kernel_rfl) (fun _ _ _ h => h) (fun _ => HA.out) trivial (Or.inl ⟨by rfl, fun w' hSw => by kernel_rfl⟩) ?_
      try simp only [Act.put, List.getElem_toArray, List.getElem_cons_succ, List.getElem_cons_zero, List.setIfInBounds_toArray, List.set_cons_zero, List.set_cons_succ]
      refine wpAnyG_takeB (i := 3) (v := .pointer (some ⟨lb, 0, none⟩)) rfl (by kernel_rfl) (by kernel_rfl) (by kernel_rfl) (by kernel_rfl) (fun _ _ _ h => h) (fun _ => HA.out) trivial (Or.inl ⟨by rfl, fun w' hSw => by go_simp⟩) ?_
      try simp only [Act.put, List.getElem_toArray, List.getElem_cons_succ, List.getElem_cons_zero, List.setIfInBounds_toArray, List.set_cons_zero, List.set_cons_succ]
      refine wpAnyG_takeB (i := 4) (v := .pointer (some ⟨lb, 0, none⟩)) rfl (by kernel_rfl) (by kernel_rfl) (by kernel_rfl) (by kernel_rfl) (fun _ _ _ h => h) (fun _ => HA.out) trivial (Or.inl ⟨by rfl, fun w' hSw => by go_simp⟩) ?_
      try simp only [Act.put, List.getElem_toArray, List.getElem_cons_succ, List.getElem_cons_zero, List.setIfInBounds_toArray, List.set_cons_zero, List.set_cons_succ]
      refine wpAnyG_take (i := 5) (v := .slice (some ⟨lib, 0, none⟩) 63 63) rfl (by kernel_rfl) (by kernel_rfl) (by kernel_rfl) (by kernel_rfl) (fun _ _ _ h => h) HA.out trivial (Or.inl ⟨by rfl, fun w' hSw => by (have h := hSw.1.1; go_simp)⟩) ?_
      try simp only [Act.put, List.getElem_toArray, List.getElem_cons_succ, List.getElem_cons_zero, List.setIfInBounds_toArray, List.set_cons_zero, List.set_cons_succ]
      refine wpAnyG_takeB (i := 6) (v := .slice (some ⟨lib, 0, none⟩) 31 63) rfl (by kernel_rfl) (by kernel_rfl) (by kernel_rfl) (by kernel_rfl) (fun _ _ _ h => h) (fun _ => HA.out) trivial (Or.inl ⟨by rfl, fun w' hSw => by go_simp⟩) ?_
      try simp only [Act.put, List.getElem_toArray, List.getElem_cons_succ, List.getElem_cons_zero, List.setIfInBounds_toArray, List.set_cons_zero, List.set_cons_succ]
      refine wpAnyG_takeB (i := 7) (v := .pointer (some ⟨lb, 0, none⟩)) rfl (by kernel_rfl) (by kernel_rfl) (by kernel_rfl) (by kernel_rfl) (fun _ _ _ h => h) (fun _ => HA.out) trivial (Or.inl ⟨by rfl, fun w' hSw => by kernel_rfl⟩) ?_
      try simp only [Act.put, List.getElem_toArray, List.getElem_cons_succ, List.getElem_cons_zero, List.setIfInBounds_toArray, List.set_cons_zero, List.set_cons_succ]
      refine wpAnyG_takeB (i := 8) (v := .pointer (some ⟨lb, 0, none⟩)) rfl (by kernel_rfl) (by kernel_rfl) (by kernel_rfl) (by kernel_rfl) (fun _ _ _ h => h) (fun _ => HA.out) trivial (Or.inl ⟨by rfl, fun w' hSw => by go_simp⟩) ?_
      try simp only [Act.put, List.getElem_toArray, List.getElem_cons_succ, List.getElem_cons_zero, List.setIfInBounds_toArray, List.set_cons_zero, List.set_cons_succ]
      refine wpAnyG_takeB (i := 9) (v := .pointer (some ⟨lb, 1, none⟩)) rfl (by kernel_rfl) (by kernel_rfl) (by kernel_rfl) (by kernel_rfl) (fun _ _ _ h => h) (fun _ => HA.out) trivial (Or.inl ⟨by rfl, fun w' hSw => by go_simp⟩) ?_
      try simp only [Act.put, List.getElem_toArray, List.getElem_cons_succ, List.getElem_cons_zero, List.setIfInBounds_toArray, List.set_cons_zero, List.set_cons_succ]
      refine wpAnyG_take (i := 10) (v := .slice (some ⟨lcb, 0, none⟩) 64 64) rfl (by kernel_rfl) (by kernel_rfl) (by kernel_rfl) (by kernel_rfl) (fun _ _ _ h => h) HA.out trivial (Or.inl ⟨by rfl, fun w' hSw => by (have h := hSw.1.2; go_simp)⟩) ?_
      try simp only [Act.put, List.getElem_toArray, List.getElem_cons_succ, List.getElem_cons_zero, List.setIfInBounds_toArray, List.set_cons_zero, List.set_cons_succ]
      refine wpAnyG_takeB (i := 11) (v := .slice (some ⟨lcb, 0, none⟩) 32 64) rfl (by kernel_rfl) (by kernel_rfl) (by kernel_rfl) (by kernel_rfl) (fun _ _ _ h => h) (fun _ => HA.out) trivial (Or.inl ⟨by rfl, fun w' hSw => by go_simp⟩) ?_
      try simp only [Act.put, List.getElem_toArray, List.getElem_cons_succ, List.getElem_cons_zero, List.setIfInBounds_toArray, List.set_cons_zero, List.set_cons_succ]
      refine wpAnyG_takeB (i := 12) (v := .pointer (some ⟨lb, 0, none⟩)) rfl (by kernel_rfl) (by kernel_rfl) (by kernel_rfl) (by kernel_rfl) (fun _ _ _ h => h) (fun _ => HA.out) trivial (Or.inl ⟨by rfl, fun w' hSw => by go_simp⟩) ?_
      try simp only [Act.put, List.getElem_toArray, List.getElem_cons_succ, List.getElem_cons_zero, List.setIfInBounds_toArray, List.set_cons_zero, List.set_cons_succ]
      refine wpAnyG_takeB (i := 13) (v := .pointer (some ⟨lb, 0, none⟩)) rfl (by kernel_rfl) (by kernel_rfl) (by kernel_rfl) (by kernel_rfl) (fun _ _ _ h => h) (fun _ => HA.out) trivial (Or.inl ⟨by rfl, fun w' hSw => by go_simp⟩) ?_
      try simp only [Act.put, List.getElem_toArray, List.getElem_cons_succ, List.getElem_cons_zero, List.setIfInBounds_toArray, List.set_cons_zero, List.set_cons_succ]
      have c0 := HA.out.1
      have f0 := H3'.out.2.1.node.frozen 0
      refine wpAnyG_step (i := 14) (by kernel_rfl) rfl (fun K hK => ?_)
      go_simp
      refine hK.out _ _ trivial (fun h => not_early (by kernel_rfl) h) ?_
      clear hK c0 f0
      have H4 : Hid (NodeR (w4.setCell ⟨lb, 0, none⟩ (.slice (some ⟨lib, 0, none⟩) 31 63)) nb ib cb ns nk (S1 ++ S2 ++ s0 :: restS) (K1 ++ .pointer (some ⟨lb, 0, none⟩) :: K2 ++ k0 :: restK) ∧ NodeR (w4.setCell ⟨lb, 0, none⟩ (.slice (some ⟨lib, 0, none⟩) 31 63)) lb lib lcb 31 64 (P ++ nils 32) (KP ++ nils 32) ∧ NodeR (w4.setCell ⟨lb, 0, none⟩ (.slice (some ⟨lib, 0, none⟩) 31 63)) rb rib rcb 31 32 (Q ++ R1) (KQ ++ R2) ∧ Kep (fun k => k = nb ∨ k = ib ∨ k = cb ∨ k = lb ∨ k = lib ∨ k = lcb) w (w4.setCell ⟨lb, 0, none⟩ (.slice (some ⟨lib, 0, none⟩) 31 63))) := ⟨H3'.out.1.kep (kep_set _ _ _ _) (by have := HN.out; have := HB.out; have := HL.out; omega) (by have := HN.out; have := HB.out; have := HL.out; omega) (by have := HN.out; have := HB.out; have := HL.out; omega), H3'.out.2.1.set0 31, H3'.out.2.2.1.kep (kep_set _ _ _ _) (by have := HN.out; have := HB.out; have := HL.out; omega) (by have := HN.out; have := HB.out; have := HL.out; omega) (by have := HN.out; have := HB.out; have := HL.out; omega), H3'.out.2.2.2.trans (kep_set _ _ _ _) (fun j hj e => by simp [e])⟩
      clear H3' HA
      generalize w4.setCell ⟨lb, 0, none⟩ (.slice (some ⟨lib, 0, none⟩) 31 63) = w5 at *
      try simp only [Act.put, List.getElem_toArray, List.getElem_cons_succ, List.getElem_cons_zero, List.setIfInBounds_toArray, List.set_cons_zero, List.set_cons_succ]
      refine wpAnyG_takeB (i := 15) (v := .pointer (some ⟨lb, 0, none⟩)) rfl (by kernel_rfl) (by kernel_rfl) (by kernel_rfl) (by kernel_rfl) (fun _ _ _ h => h) (fun h => not_early (by kernel_rfl) h) trivial (Or.inl ⟨by rfl, fun w' hSw => by go_simp⟩) ?_
      try simp only [Act.put, List.getElem_toArray, List.getElem_cons_succ, List.getElem_cons_zero, List.setIfInBounds_toArray, List.set_cons_zero, List.set_cons_succ]
      refine wpAnyG_takeB (i := 16) (v := .pointer (some ⟨lb, 1, none⟩)) rfl (by kernel_rfl) (by kernel_rfl) (by kernel_rfl) (by kernel_rfl) (fun _ _ _ h => h) (fun h => not_early (by kernel_rfl) h) trivial (Or.inl ⟨by rfl, fun w' hSw => by go_simp⟩) ?_
      try simp only [Act.put, List.getElem_toArray, List.getElem_cons_succ, List.getElem_cons_zero, List.setIfInBounds_toArray, List.set_cons_zero, List.set_cons_succ]
      have c1 := H4.out.2.1.c1
      have f1 := H4.out.2.1.node.frozen 1
      refine wpAnyG_step (i := 17) (by kernel_rfl) rfl (fun K hK => ?_)
      go_simp
      refine hK.out _ _ trivial (fun h => not_early (by kernel_rfl) h) ?_
      clear hK c1 f1
      have H5 : Hid (NodeR (w5.setCell ⟨lb, 1, none⟩ (.slice (some ⟨lcb, 0, none⟩) 32 64)) nb ib cb ns nk (S1 ++ S2 ++ s0 :: restS) (K1 ++ .pointer (some ⟨lb, 0, none⟩) :: K2 ++ k0 :: restK) ∧ NodeR (w5.setCell ⟨lb, 1, none⟩ (.slice (some ⟨lcb, 0, none⟩) 32 64)) lb lib lcb 31 32 (P ++ nils 32) (KP ++ nils 32) ∧ NodeR (w5.setCell ⟨lb, 1, none⟩ (.slice (some ⟨lcb, 0, none⟩) 32 64)) rb rib rcb 31 32 (Q ++ R1) (KQ ++ R2) ∧ Kep (fun k => k = nb ∨ k = ib ∨ k = cb ∨ k = lb ∨ k = lib ∨ k = lcb) w (w5.setCell ⟨lb, 1, none⟩ (.slice (some ⟨lcb, 0, none⟩) 32 64))) := ⟨H4.out.1.kep (kep_set _ _ _ _) (by have := HN.out; have := HB.out; have := HL.out; omega) (by have := HN.out; have := HB.out; have := HL.out; omega) (by have := HN.out; have := HB.out; have := HL.out; omega), H4.out.2.1.set1 32, H4.out.2.2.1.kep (kep_set _ _ _ _) (by have := HN.out; have := HB.out; have := HL.out; omega) (by have := HN.out; have := HB.out; have := HL.out; omega) (by have := HN.out; have := HB.out; have := HL.out; omega), H4.out.2.2.2.trans (kep_set _ _ _ _) (fun j hj e => by simp [e])⟩
      clear H4
      generalize w5.setCell ⟨lb, 1, none⟩ (.slice (some ⟨lcb, 0, none⟩) 32 64) = w6 at *
      try simp only [Act.put, List.getElem_toArray, List.getElem_cons_succ, List.getElem_cons_zero, List.setIfInBounds_toArray, List.set_cons_zero, List.set_cons_succ]
      refine wpAnyG_done (by kernel_rfl) ?_ _
      refine NoPanic.normal ?_
      go_wp2_with fail
      go_meet
      case rel => exact H5.out
    case rest =>
      have H6 : Hid (NodeR wc nb ib cb ns nk (S1 ++ S2 ++ s0 :: restS) (K1 ++ .pointer (some ⟨lb, 0, none⟩) :: K2 ++ k0 :: restK) ∧ NodeR wc lb lib lcb 31 32 (P ++ nils 32) (KP ++ nils 32) ∧ NodeR wc rb rib rcb 31 32 (Q ++ R1) (KQ ++ R2) ∧ Kep (fun k => k = nb ∨ k = ib ∨ k = cb ∨ k = lb ∨ k = lib ∨ k = lcb) w wc) := hcut
      have n0 := hcut.1.c0
      clear hcut H3
      go_wp2_with fail
      have k5 : Kep (fun _ => False) wc (wc.alloc (.cells #[.pointer sp] 46)) := (Kep.refl _ _).alloc _
      have v5 : RowB (wc.alloc (.cells #[.pointer sp] 46)) wc.heap.size 46 [.pointer sp] := row_new wc 46 [.pointer sp]
      refine (insert41 (A := S1) (B := S2) (r := s0) (rest := restS) (H6.out.1.row.kep k5 id) HE.out.2.2.2 HE.out.1.1 HE.out.1.2 (by omega) HO.out.1 v5 rfl (by have := H6.out.1.lt; omega)).mono ?_
      rintro e w7 ⟨rfl, hr7, k6⟩
      have k7 : Kep (fun k => k = ib) wc w7 := (k5.mono (fun _ _ h => h.elim)).trans k6 (fun _ _ h => h)
      have H7 : Hid (NodeR w7 nb ib cb ns nk (S1 ++ .pointer sp :: S2 ++ restS) (K1 ++ .pointer (some ⟨lb, 0, none⟩) :: K2 ++ k0 :: restK) ∧ NodeR w7 lb lib lcb 31 32 (P ++ nils 32) (KP ++ nils 32) ∧ NodeR w7 rb rib rcb 31 32 (Q ++ R1) (KQ ++ R2) ∧ Kep (fun k => k = nb ∨ k = ib ∨ k = cb ∨ k = lb ∨ k = lib ∨ k = lcb) w w7) :=
        ⟨⟨H6.out.1.node.kep k7 (by have := HN.out; have := HB.out; have := HL.out; omega), hr7, H6.out.1.kid.kep k7 (by have := HN.out; have := HB.out; have := HL.out; omega)⟩, H6.out.2.1.kep k7 (by have := HN.out; have := HB.out; have := HL.out; omega) (by have := HN.out; have := HB.out; have := HL.out; omega) (by have := HN.out; have := HB.out; have := HL.out; omega), H6.out.2.2.1.kep k7 (by have := HN.out; have := HB.out; have := HL.out; omega) (by have := HN.out; have := HB.out; have := HL.out; omega) (by have := HN.out; have := HB.out; have := HL.out; omega), H6.out.2.2.2.trans k7 (fun j hj e => by simp [e])⟩
      have n0 := H7.out.1.c0
      have f0 := H7.out.1.node.frozen 0
      clear H6 k5 v5 hr7 k6 k7
      go_upto_region 15 with fail
      have H8 : Hid (NodeR (w7.setCell ⟨nb, 0, none⟩ (.slice (some ⟨ib, 0, none⟩) (ns + 1) 63)) nb ib cb (ns + 1) nk (S1 ++ .pointer sp :: S2 ++ restS) (K1 ++ .pointer (some ⟨lb, 0, none⟩) :: K2 ++ k0 :: restK) ∧ NodeR (w7.setCell ⟨nb, 0, none⟩ (.slice (some ⟨ib, 0, none⟩) (ns + 1) 63)) lb lib lcb 31 32 (P ++ nils 32) (KP ++ nils 32) ∧ NodeR (w7.setCell ⟨nb, 0, none⟩ (.slice (some ⟨ib, 0, none⟩) (ns + 1) 63)) rb rib rcb 31 32 (Q ++ R1) (KQ ++ R2) ∧ Kep (fun k => k = nb ∨ k = ib ∨ k = cb ∨ k = lb ∨ k = lib ∨ k = lcb) w (w7.setCell ⟨nb, 0, none⟩ (.slice (some ⟨ib, 0, none⟩) (ns + 1) 63))) :=
        ⟨H7.out.1.set0 _, H7.out.2.1.kep (kep_set _ _ _ _) (by have := HN.out; have := HB.out; have := HL.out; omega) (by have := HN.out; have := HB.out; have := HL.out; omega) (by have := HN.out; have := HB.out; have := HL.out; omega), H7.out.2.2.1.kep (kep_set _ _ _ _) (by have := HN.out; have := HB.out; have := HL.out; omega) (by have := HN.out; have := HB.out; have := HL.out; omega) (by have := HN.out; have := HB.out; have := HL.out; omega), H7.out.2.2.2.trans (kep_set _ _ _ _) (fun j hj e => by simp [e])⟩
      clear H7 f0
      generalize w7.setCell ⟨nb, 0, none⟩ (.slice (some ⟨ib, 0, none⟩) (ns + 1) 63) = w8 at *
      have n1 := H8.out.1.c1
      go_wp2_with fail
      have k5 : Kep (fun _ => False) w8 (w8.alloc (.cells #[.pointer (some ⟨rb, 0, none⟩)] 55)) := (Kep.refl _ _).alloc _
      have v5 : RowB (w8.alloc (.cells #[.pointer (some ⟨rb, 0, none⟩)] 55)) w8.heap.size 55 [.pointer (some ⟨rb, 0, none⟩)] := row_new w8 55 [.pointer (some ⟨rb, 0, none⟩)]
      have c5 : RowB (w8.alloc (.cells #[.pointer (some ⟨rb, 0, none⟩)] 55)) cb 55 ((K1 ++ [.pointer (some ⟨lb, 0, none⟩)]) ++ K2 ++ k0 :: restK) := by
        have := H8.out.1.kid.kep k5 id
        simpa using this
      refine (insert43 (i := i + 1) (n := nk) (c := 64) (A := K1 ++ [.pointer (some ⟨lb, 0, none⟩)]) (B := K2) (r := k0) (rest := restK) c5 (by have := HE.out.2.2.1; simp; omega) (by have := HE.out.2.1.1; simp; omega) HE.out.2.1.2 (by omega) HO.out.2.1 v5 rfl (by have := H8.out.1.lt; omega)).mono ?_
      rintro e w9 ⟨rfl, hr7, k6⟩
      have k7 : Kep (fun k => k = cb) w8 w9 := (k5.mono (fun _ _ h => h.elim)).trans k6 (fun _ _ h => h)
      have hr8 : RowB w9 cb 55 (K1 ++ .pointer (some ⟨lb, 0, none⟩) :: .pointer (some ⟨rb, 0, none⟩) :: K2 ++ restK) := by simpa using hr7
      have H9 : Hid (NodeR w9 nb ib cb (ns + 1) nk (S1 ++ .pointer sp :: S2 ++ restS) (K1 ++ .pointer (some ⟨lb, 0, none⟩) :: .pointer (some ⟨rb, 0, none⟩) :: K2 ++ restK) ∧ NodeR w9 lb lib lcb 31 32 (P ++ nils 32) (KP ++ nils 32) ∧ NodeR w9 rb rib rcb 31 32 (Q ++ R1) (KQ ++ R2) ∧ Kep (fun k => k = nb ∨ k = ib ∨ k = cb ∨ k = lb ∨ k = lib ∨ k = lcb) w w9) :=
        ⟨⟨H8.out.1.node.kep k7 (by have := HN.out; have := HB.out; have := HL.out; omega), H8.out.1.row.kep k7 (by have := HN.out; have := HB.out; have := HL.out; omega), hr8⟩, H8.out.2.1.kep k7 (by have := HN.out; have := HB.out; have := HL.out; omega) (by have := HN.out; have := HB.out; have := HL.out; omega) (by have := HN.out; have := HB.out; have := HL.out; omega), H8.out.2.2.1.kep k7 (by have := HN.out; have := HB.out; have := HL.out; omega) (by have := HN.out; have := HB.out; have := HL.out; omega) (by have := HN.out; have := HB.out; have := HL.out; omega), H8.out.2.2.2.trans k7 (fun j hj e => by simp [e])⟩
      have n1 := H9.out.1.c1
      have f1 := H9.out.1.node.frozen 1
      clear H8 k5 v5 c5 hr7 hr8 k6 k7
      go_wp2_with fail
      go_end0
      exact ⟨rfl, rb, rib, rcb, R1, R2, HB.out.1, HB.out.2.1, HB.out.2.2.1, HB.out.2.2.2.1, HB.out.2.2.2.2.1, HB.out.2.2.2.2.2.1, HB.out.2.2.2.2.2.2.1, HB.out.2.2.2.2.2.2.2, H9.out.1.set1 _, H9.out.2.1.kep (kep_set _ _ _ _) (by have := HN.out; have := HB.out; have := HL.out; omega) (by have := HN.out; have := HB.out; have := HL.out; omega) (by have := HN.out; have := HB.out; have := HL.out; omega), H9.out.2.2.1.kep (kep_set _ _ _ _) (by have := HN.out; have := HB.out; have := HL.out; omega) (by have := HN.out; have := HB.out; have := HL.out; omega) (by have := HN.out; have := HB.out; have := HL.out; omega), H9.out.2.2.2.trans (kep_set _ _ _ _) (fun j hj e => by simp [e])⟩
end Go.Proofs.Qxb6615764a
