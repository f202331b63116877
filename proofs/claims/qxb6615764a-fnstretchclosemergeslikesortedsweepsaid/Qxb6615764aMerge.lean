/-
  The walk of merge (45).
-/
import Derived.Test.Qxb6615764aSplit3
namespace Go.Proofs.Qxb6615764a
open Go.RowKit Go.Lib
set_option linter.unusedVariables false
set_option linter.unusedSimpArgs false

/-- A leaf's two blocks. -/
structure LeafR (w : World) (nb ib n : Nat) (S : List Value) : Prop where
  node : RowB w nb 62 [.slice (some ⟨ib, 0, none⟩) n 64, .slice none 0 0]
  row : RowB w ib 46 S
theorem LeafR.kep {w w' : World} {M : Nat → Prop} {nb ib n : Nat} {S : List Value} (h : LeafR w nb ib n S) (k : Kep M w w') (h1 : ¬ M nb) (h2 : ¬ M ib) : LeafR w' nb ib n S := ⟨h.node.kep k h1, h.row.kep k h2⟩
theorem LeafR.lt {w : World} {nb ib n : Nat} {S : List Value} (h : LeafR w nb ib n S) : nb < w.heap.size ∧ ib < w.heap.size := ⟨h.node.lt, h.row.lt⟩
theorem LeafR.c0 {w : World} {nb ib n : Nat} {S : List Value} (h : LeafR w nb ib n S) : w.cell? ⟨nb, 0, none⟩ = some (.slice (some ⟨ib, 0, none⟩) n 64) := by rw [h.node.cell]; rfl
theorem LeafR.c1 {w : World} {nb ib n : Nat} {S : List Value} (h : LeafR w nb ib n S) : w.cell? ⟨nb, 1, none⟩ = some (.slice none 0 0) := by rw [h.node.cell]; rfl
theorem LeafR.set0 {w : World} {nb ib m : Nat} {S : List Value} (h : LeafR w nb ib m S) (n : Nat) : LeafR (w.setCell ⟨nb, 0, none⟩ (.slice (some ⟨ib, 0, none⟩) n 64)) nb ib n S := by
  have k : Kep (fun k => k = nb) w (w.setCell ⟨nb, 0, none⟩ (.slice (some ⟨ib, 0, none⟩) n 64)) := (Kep.refl _ _).setCell _ _ (fun _ => rfl)
  exact ⟨h.node.set (P := []) rfl rfl, h.row.kep k (Ne.symm (row_ne h.node h.row (by decide)))⟩

set_option maxHeartbeats 4000000 in
set_option maxRecDepth 100000 in
theorem merge_leaf {w : World} {tv : Value} {nb ib cb i lb lib rb rib ns nk nl nr : Nat} {S1 S2 rS K1 K2 rK P R1 R2 Q T : List Value} {sv : Value}
    (hN : NodeR w nb ib cb ns nk (S1 ++ sv :: S2 ++ rS) (K1 ++ .pointer (some ⟨lb, 0, none⟩) :: .pointer (some ⟨rb, 0, none⟩) :: K2 ++ rK)) (hL : LeafR w lb lib nl (P ++ R1 ++ R2)) (hR : LeafR w rb rib nr (Q ++ T))
    (hns : ns = S1.length + 1 + S2.length) (hS63 : 63 = ns + rS.length) (hnk : nk = K1.length + 2 + K2.length) (hK64 : 64 = nk + rK.length) (hi : i = K1.length) (hi' : i = S1.length) (hnl : nl = P.length) (hnr : nr = Q.length) (hR1 : Q.length = R1.length) (hl64 : 64 = nl + R1.length + R2.length) (hr64 : 64 = nr + T.length)
    (hS1 : ∀ u ∈ S2, u.oneCell' = true) (hK1 : ∀ u ∈ K2, u.oneCell' = true) (hQ1 : ∀ u ∈ Q, u.oneCell' = true) (hnblb : nb ≠ lb) (hnbrb : nb ≠ rb) (hlbrb : lb ≠ rb) (hiblib : ib ≠ lib) (hibrib : ib ≠ rib) (hlibrib : lib ≠ rib) :
    Calls Try.prog 45 #[tv, .pointer (some ⟨nb, 0, none⟩), .int .i64 (i : Int)] w fun e w' => e = .returned (.tuple #[]) ∧ NodeR w' nb ib cb (ns - 1) (nk - 1) (S1 ++ S2 ++ .pointer none :: rS) (K1 ++ .pointer (some ⟨lb, 0, none⟩) :: K2 ++ .pointer none :: rK) ∧ LeafR w' lb lib (nl + nr) (P ++ Q ++ R2) ∧ LeafR w' rb rib nr (Q ++ T) ∧ Kep (fun k => k = nb ∨ k = ib ∨ k = cb ∨ k = lb ∨ k = lib) w w' := by
  have n1 := hN.c1
  have l1 := hL.c1
  have hki : w.cell? ⟨cb, i, none⟩ = some (.pointer (some ⟨lb, 0, none⟩)) := by rw [hN.kid.cell, hi]; simp
  have hkj : w.cell? ⟨cb, i + 1, none⟩ = some (.pointer (some ⟨rb, 0, none⟩)) := by rw [hN.kid.cell, hi]; simp [List.getElem?_append_right]
  have hik : (i : Int) < (nk : Int) := by omega
  have hik1 : (i : Int) + 1 < (nk : Int) := by omega
  have hi32 : (i : Int) ≤ 64 := by omega
  have H0 : Hid (NodeR w nb ib cb ns nk (S1 ++ sv :: S2 ++ rS) (K1 ++ .pointer (some ⟨lb, 0, none⟩) :: .pointer (some ⟨rb, 0, none⟩) :: K2 ++ rK) ∧ LeafR w lb lib nl (P ++ R1 ++ R2) ∧ LeafR w rb rib nr (Q ++ T) ∧ Kep (fun k => k = nb ∨ k = ib ∨ k = cb ∨ k = lb ∨ k = lib) w w) := ⟨hN, hL, hR, Kep.refl _ _⟩
  have HE : Hid (ns = S1.length + 1 + S2.length ∧ 63 = ns + rS.length ∧ nk = K1.length + 2 + K2.length ∧ 64 = nk + rK.length ∧ i = K1.length ∧ i = S1.length ∧ nl = P.length ∧ nr = Q.length ∧ Q.length = R1.length ∧ 64 = nl + R1.length + R2.length ∧ 64 = nr + T.length) := ⟨hns, hS63, hnk, hK64, hi, hi', hnl, hnr, hR1, hl64, hr64⟩
  have HO : Hid ((∀ u ∈ S2, u.oneCell' = true) ∧ (∀ u ∈ K2, u.oneCell' = true) ∧ (∀ u ∈ Q, u.oneCell' = true)) := ⟨hS1, hK1, hQ1⟩
  have HN : Hid (nb ≠ lb ∧ nb ≠ rb ∧ lb ≠ rb ∧ ib ≠ lib ∧ ib ≠ rib ∧ lib ≠ rib ∧ nb ≠ ib ∧ nb ≠ lib ∧ nb ≠ rib ∧ nb ≠ cb ∧ lb ≠ ib ∧ lb ≠ lib ∧ lb ≠ rib ∧ lb ≠ cb ∧ rb ≠ ib ∧ rb ≠ lib ∧ rb ≠ rib ∧ rb ≠ cb ∧ ib ≠ cb ∧ lib ≠ cb ∧ rib ≠ cb) := ⟨hnblb, hnbrb, hlbrb, hiblib, hibrib, hlibrib, row_ne hN.node hN.row (by decide), row_ne hN.node hL.row (by decide), row_ne hN.node hR.row (by decide), row_ne hN.node hN.kid (by decide), row_ne hL.node hN.row (by decide), row_ne hL.node hL.row (by decide), row_ne hL.node hR.row (by decide), row_ne hL.node hN.kid (by decide), row_ne hR.node hN.row (by decide), row_ne hR.node hL.row (by decide), row_ne hR.node hR.row (by decide), row_ne hR.node hN.kid (by decide), row_ne hN.row hN.kid (by decide), row_ne hL.row hN.kid (by decide), row_ne hR.row hN.kid (by decide)⟩
  clear hN hL hR hns hS63 hnk hK64 hi hi' hnl hnr hR1 hl64 hr64 hS1 hK1 hQ1 hnblb hnbrb hlbrb hiblib hibrib hlibrib
  go_enter Try.func45, Try.ntmps45
  go_upto_region 0 with fail
  go_cut [6, 7] from 8 (fun s6 s7 wc => s6 = .pointer (some ⟨lb, 0, none⟩) ∧ s7 = .pointer (some ⟨rb, 0, none⟩) ∧ NodeR wc nb ib cb ns nk (S1 ++ sv :: S2 ++ rS) (K1 ++ .pointer (some ⟨lb, 0, none⟩) :: .pointer (some ⟨rb, 0, none⟩) :: K2 ++ rK) ∧ LeafR wc lb lib nl (P ++ R1 ++ R2) ∧ LeafR wc rb rib nr (Q ++ T) ∧ Kep (fun k => k = nb ∨ k = ib ∨ k = cb ∨ k = lb ∨ k = lib) w wc)
  case first =>
    go_quiet (fail)
    go_wp2_with fail
    go_meet
    case rel =>
      have kd : ∀ n, Kep (fun _ => False) w (w.drewN n) := fun n => (Kep.refl _ _).drewN n
      exact ⟨rfl, rfl, H0.out.1.kep (kd _) id id id, H0.out.2.1.kep (kd _) id id, H0.out.2.2.1.kep (kd _) id id, H0.out.2.2.2.trans (kd _) (fun _ _ h => h.elim)⟩
  case rest =>
    obtain ⟨rfl, rfl, hcut⟩ := hcut
    have H1 : Hid (NodeR wc nb ib cb ns nk (S1 ++ sv :: S2 ++ rS) (K1 ++ .pointer (some ⟨lb, 0, none⟩) :: .pointer (some ⟨rb, 0, none⟩) :: K2 ++ rK) ∧ LeafR wc lb lib nl (P ++ R1 ++ R2) ∧ LeafR wc rb rib nr (Q ++ T) ∧ Kep (fun k => k = nb ∨ k = ib ∨ k = cb ∨ k = lb ∨ k = lib) w wc) := hcut
    have l1 := hcut.2.1.c1
    clear hcut H0 n1 hki hkj
    generalize wc = w1 at *
    go_upto_if 27 with fail
    go_cut [] from 8 (fun wd => NodeR wd nb ib cb ns nk (S1 ++ sv :: S2 ++ rS) (K1 ++ .pointer (some ⟨lb, 0, none⟩) :: .pointer (some ⟨rb, 0, none⟩) :: K2 ++ rK) ∧ LeafR wd lb lib (nl + nr) (P ++ Q ++ R2) ∧ LeafR wd rb rib nr (Q ++ T) ∧ Kep (fun k => k = nb ∨ k = ib ∨ k = cb ∨ k = lb ∨ k = lib) w wd)
    case first =>
      go_upto_region 2 with fail
      refine wp_region_G (fun w' => w'.cell? ⟨lb, 0, none⟩ = some (.slice (some ⟨lib, 0, none⟩) nl 64) ∧ w'.cell? ⟨rb, 0, none⟩ = some (.slice (some ⟨rib, 0, none⟩) nr 64)) (fun _ => True) [12] (by kernel_rfl) ?_
      have H2 : Hid (NodeR (w1.drew) nb ib cb ns nk (S1 ++ sv :: S2 ++ rS) (K1 ++ .pointer (some ⟨lb, 0, none⟩) :: .pointer (some ⟨rb, 0, none⟩) :: K2 ++ rK) ∧ LeafR (w1.drew) lb lib nl (P ++ R1 ++ R2) ∧ LeafR (w1.drew) rb rib nr (Q ++ T) ∧ Kep (fun k => k = nb ∨ k = ib ∨ k = cb ∨ k = lb ∨ k = lib) w (w1.drew)) := ⟨H1.out.1.kep ((Kep.refl (fun _ => False) w1).drew) id id id, H1.out.2.1.kep ((Kep.refl (fun _ => False) w1).drew) id id, H1.out.2.2.1.kep ((Kep.refl (fun _ => False) w1).drew) id id, H1.out.2.2.2.trans ((Kep.refl (fun _ => False) w1).drew) (fun _ _ h => h.elim)⟩
      clear H1 l1
      generalize w1.drew = w2 at *
      have HA : Hid (w2.cell? ⟨lb, 0, none⟩ = some (.slice (some ⟨lib, 0, none⟩) nl 64) ∧ w2.cell? ⟨rb, 0, none⟩ = some (.slice (some ⟨rib, 0, none⟩) nr 64)) := ⟨H2.out.2.1.c0, H2.out.2.2.1.c0⟩
      refine wpAnyG_takeB (i := 0) (v := .pointer (some ⟨lb, 0, none⟩)) rfl (by kernel_rfl) (by kernel_rfl) (by kernel_rfl) (by kernel_rfl) (fun _ _ _ h => h) (fun _ => HA.out) trivial (Or.inl ⟨by rfl, fun w' hSw => by kernel_rfl⟩) ?_
      try simp only [Act.put, List.getElem_toArray, List.getElem_cons_succ, List.getElem_cons_zero, List.setIfInBounds_toArray, List.set_cons_zero, List.set_cons_succ]
      refine wpAnyG_takeB (i := 1) (v := .pointer (some ⟨lb, 0, none⟩)) rfl (by kernel_rfl) (by kernel_rfl) (by kernel_rfl) (by kernel_rfl) (fun _ _ _ h => h) (fun _ => HA.out) trivial (Or.inl ⟨by rfl, fun w' hSw => by kernel_rfl⟩) ?_
      try simp only [Act.put, List.getElem_toArray, List.getElem_cons_succ, List.getElem_cons_zero, List.setIfInBounds_toArray, List.set_cons_zero, List.set_cons_succ]
      refine wpAnyG_takeB (i := 2) (v := .pointer (some ⟨lb, 0, none⟩)) rfl (by kernel_rfl) (by kernel_rfl) (by kernel_rfl) (by kernel_rfl) (fun _ _ _ h => h) (fun _ => HA.out) trivial (Or.inl ⟨by rfl, fun w' hSw => by go_simp⟩) ?_
      try simp only [Act.put, List.getElem_toArray, List.getElem_cons_succ, List.getElem_cons_zero, List.setIfInBounds_toArray, List.set_cons_zero, List.set_cons_succ]
      refine wpAnyG_takeB (i := 3) (v := .pointer (some ⟨lb, 0, none⟩)) rfl (by kernel_rfl) (by kernel_rfl) (by kernel_rfl) (by kernel_rfl) (fun _ _ _ h => h) (fun _ => HA.out) trivial (Or.inl ⟨by rfl, fun w' hSw => by go_simp⟩) ?_
      try simp only [Act.put, List.getElem_toArray, List.getElem_cons_succ, List.getElem_cons_zero, List.setIfInBounds_toArray, List.set_cons_zero, List.set_cons_succ]
      refine wpAnyG_take (i := 4) (v := .slice (some ⟨lib, 0, none⟩) nl 64) rfl (by kernel_rfl) (by kernel_rfl) (by kernel_rfl) (by kernel_rfl) (fun _ _ _ h => h) HA.out trivial (Or.inl ⟨by rfl, fun w' hSw => by (have h := hSw.1.1; go_simp)⟩) ?_
      try simp only [Act.put, List.getElem_toArray, List.getElem_cons_succ, List.getElem_cons_zero, List.setIfInBounds_toArray, List.set_cons_zero, List.set_cons_succ]
      refine wpAnyG_takeB (i := 5) (v := .pointer (some ⟨rb, 0, none⟩)) rfl (by kernel_rfl) (by kernel_rfl) (by kernel_rfl) (by kernel_rfl) (fun _ _ _ h => h) (fun _ => HA.out) trivial (Or.inl ⟨by rfl, fun w' hSw => by kernel_rfl⟩) ?_
      try simp only [Act.put, List.getElem_toArray, List.getElem_cons_succ, List.getElem_cons_zero, List.setIfInBounds_toArray, List.set_cons_zero, List.set_cons_succ]
      refine wpAnyG_takeB (i := 6) (v := .pointer (some ⟨rb, 0, none⟩)) rfl (by kernel_rfl) (by kernel_rfl) (by kernel_rfl) (by kernel_rfl) (fun _ _ _ h => h) (fun _ => HA.out) trivial (Or.inl ⟨by rfl, fun w' hSw => by go_simp⟩) ?_
      try simp only [Act.put, List.getElem_toArray, List.getElem_cons_succ, List.getElem_cons_zero, List.setIfInBounds_toArray, List.set_cons_zero, List.set_cons_succ]
      refine wpAnyG_takeB (i := 7) (v := .pointer (some ⟨rb, 0, none⟩)) rfl (by kernel_rfl) (by kernel_rfl) (by kernel_rfl) (by kernel_rfl) (fun _ _ _ h => h) (fun _ => HA.out) trivial (Or.inl ⟨by rfl, fun w' hSw => by go_simp⟩) ?_
      try simp only [Act.put, List.getElem_toArray, List.getElem_cons_succ, List.getElem_cons_zero, List.setIfInBounds_toArray, List.set_cons_zero, List.set_cons_succ]
      refine wpAnyG_take (i := 8) (v := .slice (some ⟨rib, 0, none⟩) nr 64) rfl (by kernel_rfl) (by kernel_rfl) (by kernel_rfl) (by kernel_rfl) (fun _ _ _ h => h) HA.out trivial (Or.inl ⟨by rfl, fun w' hSw => by (have h := hSw.1.2; go_simp)⟩) ?_
      try simp only [Act.put, List.getElem_toArray, List.getElem_cons_succ, List.getElem_cons_zero, List.setIfInBounds_toArray, List.set_cons_zero, List.set_cons_succ]
      have ap : ∀ ty, (Builtin.append_ #[59, 59] ty #[.slice (some ⟨lib, 0, none⟩) nl 64, .slice (some ⟨rib, 0, none⟩) nr 64]).run Try.prog w2 = .ok (.slice (some ⟨lib, 0, none⟩) (nl + nr) 64) (w2.setCells lib nl Q) ∧ RowB (w2.setCells lib nl Q) lib 46 (P ++ Q ++ R2) ∧ Kep (fun k => k = lib) w2 (w2.setCells lib nl Q) := fun ty =>
        append59 (X := P) (R1 := R1) (R2 := R2) (A := []) (news := Q) (A2 := T) H2.out.2.1.row HE.out.2.2.2.2.2.2.1 HE.out.2.2.2.2.2.2.2.2.2.1 HE.out.2.2.2.2.2.2.2.1 HE.out.2.2.2.2.2.2.2.2.1 H2.out.2.2.1.row rfl HO.out.2.2 ty 64
      refine wpAnyG_step (i := 9) (by kernel_rfl) rfl (fun K hK => ?_)
      refine step_append_runI rfl (.tmp 32) (.tmp 36) 59 rfl _ _ rfl rfl (ap _).1 ?_
      have k2 := (ap 0).2.2
      have H3 : Hid (NodeR (w2.setCells lib nl Q) nb ib cb ns nk (S1 ++ sv :: S2 ++ rS) (K1 ++ .pointer (some ⟨lb, 0, none⟩) :: .pointer (some ⟨rb, 0, none⟩) :: K2 ++ rK) ∧ LeafR (w2.setCells lib nl Q) lb lib nl (P ++ Q ++ R2) ∧ LeafR (w2.setCells lib nl Q) rb rib nr (Q ++ T) ∧ Kep (fun k => k = nb ∨ k = ib ∨ k = cb ∨ k = lb ∨ k = lib) w (w2.setCells lib nl Q)) := ⟨H2.out.1.kep k2 HN.out.2.2.2.2.2.2.2.1 HN.out.2.2.2.1 (Ne.symm HN.out.2.2.2.2.2.2.2.2.2.2.2.2.2.2.2.2.2.2.2.1), ⟨H2.out.2.1.node.kep k2 HN.out.2.2.2.2.2.2.2.2.2.2.2.1, (ap 0).2.1⟩, H2.out.2.2.1.kep k2 HN.out.2.2.2.2.2.2.2.2.2.2.2.2.2.2.2.1 (Ne.symm HN.out.2.2.2.2.2.1), H2.out.2.2.2.trans k2 (fun j hj e => by simp [e])⟩
      refine hK.out _ _ trivial (fun _ => ⟨H3.out.2.1.c0, H3.out.2.2.1.c0⟩) ?_
      clear hK k2 ap H2 HA
      generalize w2.setCells lib nl Q = w3 at *
      try simp only [Act.put, List.getElem_toArray, List.getElem_cons_succ, List.getElem_cons_zero, List.setIfInBounds_toArray, List.set_cons_zero, List.set_cons_succ]
      have HA : Hid (w3.cell? ⟨lb, 0, none⟩ = some (.slice (some ⟨lib, 0, none⟩) nl 64) ∧ w3.cell? ⟨rb, 0, none⟩ = some (.slice (some ⟨rib, 0, none⟩) nr 64)) := ⟨H3.out.2.1.c0, H3.out.2.2.1.c0⟩
      refine wpAnyG_takeB (i := 10) (v := .pointer (some ⟨lb, 0, none⟩)) rfl (by kernel_rfl) (by kernel_rfl) (by kernel_rfl) (by kernel_rfl) (fun _ _ _ h => h) (fun _ => HA.out) trivial (Or.inl ⟨by rfl, fun w' hSw => by go_simp⟩) ?_
      try simp only [Act.put, List.getElem_toArray, List.getElem_cons_succ, List.getElem_cons_zero, List.setIfInBounds_toArray, List.set_cons_zero, List.set_cons_succ]
      refine wpAnyG_takeB (i := 11) (v := .pointer (some ⟨lb, 0, none⟩)) rfl (by kernel_rfl) (by kernel_rfl) (by kernel_rfl) (by kernel_rfl) (fun _ _ _ h => h) (fun _ => HA.out) trivial (Or.inl ⟨by rfl, fun w' hSw => by go_simp⟩) ?_
      try simp only [Act.put, List.getElem_toArray, List.getElem_cons_succ, List.getElem_cons_zero, List.setIfInBounds_toArray, List.set_cons_zero, List.set_cons_succ]
      have c0 := HA.out.1
      have f0 := H3.out.2.1.node.frozen 0
      refine wpAnyG_step (i := 12) (by kernel_rfl) rfl (fun K hK => ?_)
      go_simp
      refine hK.out _ _ trivial (fun h => not_early (by kernel_rfl) h) ?_
      clear hK c0 f0 HA
      have H4 : Hid (NodeR (w3.setCell ⟨lb, 0, none⟩ (.slice (some ⟨lib, 0, none⟩) (nl + nr) 64)) nb ib cb ns nk (S1 ++ sv :: S2 ++ rS) (K1 ++ .pointer (some ⟨lb, 0, none⟩) :: .pointer (some ⟨rb, 0, none⟩) :: K2 ++ rK) ∧ LeafR (w3.setCell ⟨lb, 0, none⟩ (.slice (some ⟨lib, 0, none⟩) (nl + nr) 64)) lb lib (nl + nr) (P ++ Q ++ R2) ∧ LeafR (w3.setCell ⟨lb, 0, none⟩ (.slice (some ⟨lib, 0, none⟩) (nl + nr) 64)) rb rib nr (Q ++ T) ∧ Kep (fun k => k = nb ∨ k = ib ∨ k = cb ∨ k = lb ∨ k = lib) w (w3.setCell ⟨lb, 0, none⟩ (.slice (some ⟨lib, 0, none⟩) (nl + nr) 64))) := ⟨H3.out.1.kep (kep_set _ _ _ _) HN.out.1 (Ne.symm HN.out.2.2.2.2.2.2.2.2.2.2.1) (Ne.symm HN.out.2.2.2.2.2.2.2.2.2.2.2.2.2.1), H3.out.2.1.set0 _, H3.out.2.2.1.kep (kep_set _ _ _ _) (Ne.symm HN.out.2.2.1) (Ne.symm HN.out.2.2.2.2.2.2.2.2.2.2.2.2.1), H3.out.2.2.2.trans (kep_set _ _ _ _) (fun j hj e => by simp [e])⟩
      clear H3
      generalize w3.setCell ⟨lb, 0, none⟩ (.slice (some ⟨lib, 0, none⟩) (nl + nr) 64) = w4 at *
      try simp only [Act.put, List.getElem_toArray, List.getElem_cons_succ, List.getElem_cons_zero, List.setIfInBounds_toArray, List.set_cons_zero, List.set_cons_succ]
      refine wpAnyG_done (by kernel_rfl) ?_ _
      refine NoPanic.normal ?_
      go_wp2_with fail
      go_meet
      case rel => exact H4.out
    case rest =>
      have H9 : Hid (NodeR wc nb ib cb ns nk (S1 ++ sv :: S2 ++ rS) (K1 ++ .pointer (some ⟨lb, 0, none⟩) :: .pointer (some ⟨rb, 0, none⟩) :: K2 ++ rK) ∧ LeafR wc lb lib (nl + nr) (P ++ Q ++ R2) ∧ LeafR wc rb rib nr (Q ++ T) ∧ Kep (fun k => k = nb ∨ k = ib ∨ k = cb ∨ k = lb ∨ k = lib) w wc) := hcut
      have n0 := hcut.1.c0
      clear hcut H1 l1
      go_wp2_with fail
      refine (delete37 (A := S1) (B := S2) (x := sv) (rest := rS) H9.out.1.row HE.out.2.2.2.2.2.1 HE.out.1 HE.out.2.1 (by omega) HO.out.1).mono ?_
      rintro e w7 ⟨rfl, hr7, k7⟩
      have H10 : Hid (NodeR w7 nb ib cb ns nk (S1 ++ S2 ++ .pointer none :: rS) (K1 ++ .pointer (some ⟨lb, 0, none⟩) :: .pointer (some ⟨rb, 0, none⟩) :: K2 ++ rK) ∧ LeafR w7 lb lib (nl + nr) (P ++ Q ++ R2) ∧ LeafR w7 rb rib nr (Q ++ T) ∧ Kep (fun k => k = nb ∨ k = ib ∨ k = cb ∨ k = lb ∨ k = lib) w w7) := ⟨⟨H9.out.1.node.kep k7 HN.out.2.2.2.2.2.2.1, hr7, H9.out.1.kid.kep k7 (Ne.symm HN.out.2.2.2.2.2.2.2.2.2.2.2.2.2.2.2.2.2.2.1)⟩, H9.out.2.1.kep k7 HN.out.2.2.2.2.2.2.2.2.2.2.1 (Ne.symm HN.out.2.2.2.1), H9.out.2.2.1.kep k7 HN.out.2.2.2.2.2.2.2.2.2.2.2.2.2.2.1 (Ne.symm HN.out.2.2.2.2.1), H9.out.2.2.2.trans k7 (fun j hj e => by simp [e])⟩
      have n0 := H10.out.1.c0
      have f0 := H10.out.1.node.frozen 0
      clear H9 hr7 k7
      go_upto_region 6 with fail
      have H11 : Hid (NodeR (w7.setCell ⟨nb, 0, none⟩ (.slice (some ⟨ib, 0, none⟩) (ns - 1) 63)) nb ib cb (ns - 1) nk (S1 ++ S2 ++ .pointer none :: rS) (K1 ++ .pointer (some ⟨lb, 0, none⟩) :: .pointer (some ⟨rb, 0, none⟩) :: K2 ++ rK) ∧ LeafR (w7.setCell ⟨nb, 0, none⟩ (.slice (some ⟨ib, 0, none⟩) (ns - 1) 63)) lb lib (nl + nr) (P ++ Q ++ R2) ∧ LeafR (w7.setCell ⟨nb, 0, none⟩ (.slice (some ⟨ib, 0, none⟩) (ns - 1) 63)) rb rib nr (Q ++ T) ∧ Kep (fun k => k = nb ∨ k = ib ∨ k = cb ∨ k = lb ∨ k = lib) w (w7.setCell ⟨nb, 0, none⟩ (.slice (some ⟨ib, 0, none⟩) (ns - 1) 63))) := ⟨H10.out.1.set0 _, H10.out.2.1.kep (kep_set _ _ _ _) (Ne.symm HN.out.1) (Ne.symm HN.out.2.2.2.2.2.2.2.1), H10.out.2.2.1.kep (kep_set _ _ _ _) (Ne.symm HN.out.2.1) (Ne.symm HN.out.2.2.2.2.2.2.2.2.1), H10.out.2.2.2.trans (kep_set _ _ _ _) (fun j hj e => by simp [e])⟩
      clear H10 f0 n0
      generalize w7.setCell ⟨nb, 0, none⟩ (.slice (some ⟨ib, 0, none⟩) (ns - 1) 63) = w8 at *
      have n1 := H11.out.1.c1
      go_wp2_with fail
      have hd := delete44 (i := i + 1) (n := nk) (c := 64) (A := K1 ++ [.pointer (some ⟨lb, 0, none⟩)]) (B := K2) (x := .pointer (some ⟨rb, 0, none⟩)) (rest := rK) (by have := H11.out.1.kid; simpa using this) (by have := HE.out.2.2.2.2.1; simp; omega) (by have := HE.out.2.2.1; simp; omega) HE.out.2.2.2.1 (by omega) HO.out.2.1
      have e2 : ((i + 1 : Nat) : Int) + 1 = (i : Int) + 2 := by omega
      have e1 : ((i + 1 : Nat) : Int) = (i : Int) + 1 := by omega
      rw [e2, e1] at hd
      clear e1 e2
      refine hd.mono ?_
      clear hd
      rintro e w9 ⟨rfl, hr9, k9⟩
      have H12 : Hid (NodeR w9 nb ib cb (ns - 1) nk (S1 ++ S2 ++ .pointer none :: rS) (K1 ++ .pointer (some ⟨lb, 0, none⟩) :: K2 ++ .pointer none :: rK) ∧ LeafR w9 lb lib (nl + nr) (P ++ Q ++ R2) ∧ LeafR w9 rb rib nr (Q ++ T) ∧ Kep (fun k => k = nb ∨ k = ib ∨ k = cb ∨ k = lb ∨ k = lib) w w9) := ⟨⟨H11.out.1.node.kep k9 HN.out.2.2.2.2.2.2.2.2.2.1, H11.out.1.row.kep k9 HN.out.2.2.2.2.2.2.2.2.2.2.2.2.2.2.2.2.2.2.1, by simpa using hr9⟩, H11.out.2.1.kep k9 HN.out.2.2.2.2.2.2.2.2.2.2.2.2.2.1 HN.out.2.2.2.2.2.2.2.2.2.2.2.2.2.2.2.2.2.2.2.1, H11.out.2.2.1.kep k9 HN.out.2.2.2.2.2.2.2.2.2.2.2.2.2.2.2.2.2.1 HN.out.2.2.2.2.2.2.2.2.2.2.2.2.2.2.2.2.2.2.2.2, H11.out.2.2.2.trans k9 (fun j hj e => by simp [e])⟩
      have n1 := H12.out.1.c1
      have f1 := H12.out.1.node.frozen 1
      clear H11 hr9 k9
      go_wp2_with fail
      go_end0
      have H13 : Hid (NodeR (w9.setCell ⟨nb, 1, none⟩ (.slice (some ⟨cb, 0, none⟩) (nk - 1) 64)) nb ib cb (ns - 1) (nk - 1) (S1 ++ S2 ++ .pointer none :: rS) (K1 ++ .pointer (some ⟨lb, 0, none⟩) :: K2 ++ .pointer none :: rK) ∧ LeafR (w9.setCell ⟨nb, 1, none⟩ (.slice (some ⟨cb, 0, none⟩) (nk - 1) 64)) lb lib (nl + nr) (P ++ Q ++ R2) ∧ LeafR (w9.setCell ⟨nb, 1, none⟩ (.slice (some ⟨cb, 0, none⟩) (nk - 1) 64)) rb rib nr (Q ++ T) ∧ Kep (fun k => k = nb ∨ k = ib ∨ k = cb ∨ k = lb ∨ k = lib) w (w9.setCell ⟨nb, 1, none⟩ (.slice (some ⟨cb, 0, none⟩) (nk - 1) 64))) := ⟨H12.out.1.set1 _, H12.out.2.1.kep (kep_set _ _ _ _) (Ne.symm HN.out.1) (Ne.symm HN.out.2.2.2.2.2.2.2.1), H12.out.2.2.1.kep (kep_set _ _ _ _) (Ne.symm HN.out.2.1) (Ne.symm HN.out.2.2.2.2.2.2.2.2.1), H12.out.2.2.2.trans (kep_set _ _ _ _) (fun j hj e => by simp [e])⟩
      exact ⟨rfl, H13.out⟩

set_option maxHeartbeats 4000000 in
set_option maxRecDepth 100000 in
theorem merge_inner {w : World} {tv : Value} {nb ib cb i lb lib rb rib ns nk nl nr lcb rcb ml mr : Nat} {S1 S2 rS K1 K2 rK P R1 R2 Q T KP V1 V2 KQ U : List Value} {sv : Option Addr} {p0 : Value}
    (hN : NodeR w nb ib cb ns nk (S1 ++ .pointer sv :: S2 ++ rS) (K1 ++ .pointer (some ⟨lb, 0, none⟩) :: .pointer (some ⟨rb, 0, none⟩) :: K2 ++ rK)) (hL : NodeR w lb lib lcb nl ml (P ++ p0 :: R1 ++ R2) (KP ++ V1 ++ V2)) (hR : NodeR w rb rib rcb nr mr (Q ++ T) (KQ ++ U))
    (hns : ns = S1.length + 1 + S2.length) (hS63 : 63 = ns + rS.length) (hnk : nk = K1.length + 2 + K2.length) (hK64 : 64 = nk + rK.length) (hi : i = K1.length) (hi' : i = S1.length) (hnl : nl = P.length) (hnr : nr = Q.length) (hR1 : Q.length = R1.length) (hl63 : 63 = nl + 1 + R1.length + R2.length) (hr63 : 63 = nr + T.length) (hml : ml = KP.length) (hmr : mr = KQ.length) (hV1 : KQ.length = V1.length) (hl64 : 64 = ml + V1.length + V2.length) (hr64 : 64 = mr + U.length)
    (hS1 : ∀ u ∈ S2, u.oneCell' = true) (hK1 : ∀ u ∈ K2, u.oneCell' = true) (hQ1 : ∀ u ∈ Q, u.oneCell' = true) (hKQ1 : ∀ u ∈ KQ, u.oneCell' = true) (hnblb : nb ≠ lb) (hnbrb : nb ≠ rb) (hlbrb : lb ≠ rb) (hiblib : ib ≠ lib) (hibrib : ib ≠ rib) (hlibrib : lib ≠ rib) (hcblcb : cb ≠ lcb) (hcbrcb : cb ≠ rcb) (hlcbrcb : lcb ≠ rcb) :
    Calls Try.prog 45 #[tv, .pointer (some ⟨nb, 0, none⟩), .int .i64 (i : Int)] w fun e w' => e = .returned (.tuple #[]) ∧ NodeR w' nb ib cb (ns - 1) (nk - 1) (S1 ++ S2 ++ .pointer none :: rS) (K1 ++ .pointer (some ⟨lb, 0, none⟩) :: K2 ++ .pointer none :: rK) ∧ NodeR w' lb lib lcb (nl + 1 + nr) (ml + mr) (P ++ .pointer sv :: Q ++ R2) (KP ++ KQ ++ V2) ∧ NodeR w' rb rib rcb nr mr (Q ++ T) (KQ ++ U) ∧ Kep (fun k => k = nb ∨ k = ib ∨ k = cb ∨ k = lb ∨ k = lib ∨ k = lcb) w w' := by
  have n1 := hN.c1
  have l1 := hL.c1
  have hki : w.cell? ⟨cb, i, none⟩ = some (.pointer (some ⟨lb, 0, none⟩)) := by rw [hN.kid.cell, hi]; simp
  have hkj : w.cell? ⟨cb, i + 1, none⟩ = some (.pointer (some ⟨rb, 0, none⟩)) := by rw [hN.kid.cell, hi]; simp [List.getElem?_append_right]
  have hik : (i : Int) < (nk : Int) := by omega
  have hik1 : (i : Int) + 1 < (nk : Int) := by omega
  have hi32 : (i : Int) ≤ 64 := by omega
  have H0 : Hid (NodeR w nb ib cb ns nk (S1 ++ .pointer sv :: S2 ++ rS) (K1 ++ .pointer (some ⟨lb, 0, none⟩) :: .pointer (some ⟨rb, 0, none⟩) :: K2 ++ rK) ∧ NodeR w lb lib lcb nl ml (P ++ p0 :: R1 ++ R2) (KP ++ V1 ++ V2) ∧ NodeR w rb rib rcb nr mr (Q ++ T) (KQ ++ U) ∧ Kep (fun k => k = nb ∨ k = ib ∨ k = cb ∨ k = lb ∨ k = lib ∨ k = lcb) w w) := ⟨hN, hL, hR, Kep.refl _ _⟩
  have HE : Hid (ns = S1.length + 1 + S2.length ∧ 63 = ns + rS.length ∧ nk = K1.length + 2 + K2.length ∧ 64 = nk + rK.length ∧ i = K1.length ∧ i = S1.length ∧ nl = P.length ∧ nr = Q.length ∧ Q.length = R1.length ∧ 63 = nl + 1 + R1.length + R2.length ∧ 63 = nr + T.length ∧ ml = KP.length ∧ mr = KQ.length ∧ KQ.length = V1.length ∧ 64 = ml + V1.length + V2.length ∧ 64 = mr + U.length) := ⟨hns, hS63, hnk, hK64, hi, hi', hnl, hnr, hR1, hl63, hr63, hml, hmr, hV1, hl64, hr64⟩
  have HO : Hid ((∀ u ∈ S2, u.oneCell' = true) ∧ (∀ u ∈ K2, u.oneCell' = true) ∧ (∀ u ∈ Q, u.oneCell' = true) ∧ (∀ u ∈ KQ, u.oneCell' = true)) := ⟨hS1, hK1, hQ1, hKQ1⟩
  have HN : Hid (nb ≠ lb ∧ nb ≠ rb ∧ lb ≠ rb ∧ ib ≠ lib ∧ ib ≠ rib ∧ lib ≠ rib ∧ cb ≠ lcb ∧ cb ≠ rcb ∧ lcb ≠ rcb ∧ nb ≠ ib ∧ nb ≠ lib ∧ nb ≠ rib ∧ nb ≠ cb ∧ nb ≠ lcb ∧ nb ≠ rcb ∧ lb ≠ ib ∧ lb ≠ lib ∧ lb ≠ rib ∧ lb ≠ cb ∧ lb ≠ lcb ∧ lb ≠ rcb ∧ rb ≠ ib ∧ rb ≠ lib ∧ rb ≠ rib ∧ rb ≠ cb ∧ rb ≠ lcb ∧ rb ≠ rcb ∧ ib ≠ cb ∧ ib ≠ lcb ∧ ib ≠ rcb ∧ lib ≠ cb ∧ lib ≠ lcb ∧ lib ≠ rcb ∧ rib ≠ cb ∧ rib ≠ lcb ∧ rib ≠ rcb) := ⟨hnblb, hnbrb, hlbrb, hiblib, hibrib, hlibrib, hcblcb, hcbrcb, hlcbrcb, row_ne hN.node hN.row (by decide), row_ne hN.node hL.row (by decide), row_ne hN.node hR.row (by decide), row_ne hN.node hN.kid (by decide), row_ne hN.node hL.kid (by decide), row_ne hN.node hR.kid (by decide), row_ne hL.node hN.row (by decide), row_ne hL.node hL.row (by decide), row_ne hL.node hR.row (by decide), row_ne hL.node hN.kid (by decide), row_ne hL.node hL.kid (by decide), row_ne hL.node hR.kid (by decide), row_ne hR.node hN.row (by decide), row_ne hR.node hL.row (by decide), row_ne hR.node hR.row (by decide), row_ne hR.node hN.kid (by decide), row_ne hR.node hL.kid (by decide), row_ne hR.node hR.kid (by decide), row_ne hN.row hN.kid (by decide), row_ne hN.row hL.kid (by decide), row_ne hN.row hR.kid (by decide), row_ne hL.row hN.kid (by decide), row_ne hL.row hL.kid (by decide), row_ne hL.row hR.kid (by decide), row_ne hR.row hN.kid (by decide), row_ne hR.row hL.kid (by decide), row_ne hR.row hR.kid (by decide)⟩
  clear hN hL hR hns hS63 hnk hK64 hi hi' hnl hnr hR1 hl63 hr63 hml hmr hV1 hl64 hr64 hS1 hK1 hQ1 hKQ1 hnblb hnbrb hlbrb hiblib hibrib hlibrib hcblcb hcbrcb hlcbrcb
  go_enter Try.func45, Try.ntmps45
  go_upto_region 0 with fail
  go_cut [6, 7] from 8 (fun s6 s7 wc => s6 = .pointer (some ⟨lb, 0, none⟩) ∧ s7 = .pointer (some ⟨rb, 0, none⟩) ∧ NodeR wc nb ib cb ns nk (S1 ++ .pointer sv :: S2 ++ rS) (K1 ++ .pointer (some ⟨lb, 0, none⟩) :: .pointer (some ⟨rb, 0, none⟩) :: K2 ++ rK) ∧ NodeR wc lb lib lcb nl ml (P ++ p0 :: R1 ++ R2) (KP ++ V1 ++ V2) ∧ NodeR wc rb rib rcb nr mr (Q ++ T) (KQ ++ U) ∧ Kep (fun k => k = nb ∨ k = ib ∨ k = cb ∨ k = lb ∨ k = lib ∨ k = lcb) w wc)
  case first =>
    go_quiet (fail)
    go_wp2_with fail
    go_meet
    case rel =>
      have kd : ∀ n, Kep (fun _ => False) w (w.drewN n) := fun n => (Kep.refl _ _).drewN n
      exact ⟨rfl, rfl, H0.out.1.kep (kd _) id id id, H0.out.2.1.kep (kd _) id id id, H0.out.2.2.1.kep (kd _) id id id, H0.out.2.2.2.trans (kd _) (fun _ _ h => h.elim)⟩
  case rest =>
    obtain ⟨rfl, rfl, hcut⟩ := hcut
    have H1 : Hid (NodeR wc nb ib cb ns nk (S1 ++ .pointer sv :: S2 ++ rS) (K1 ++ .pointer (some ⟨lb, 0, none⟩) :: .pointer (some ⟨rb, 0, none⟩) :: K2 ++ rK) ∧ NodeR wc lb lib lcb nl ml (P ++ p0 :: R1 ++ R2) (KP ++ V1 ++ V2) ∧ NodeR wc rb rib rcb nr mr (Q ++ T) (KQ ++ U) ∧ Kep (fun k => k = nb ∨ k = ib ∨ k = cb ∨ k = lb ∨ k = lib ∨ k = lcb) w wc) := hcut
    have l1 := hcut.2.1.c1
    clear hcut H0 n1 hki hkj
    generalize wc = w1 at *
    go_upto_if 27 with fail
    go_cut [] from 8 (fun wd => NodeR wd nb ib cb ns nk (S1 ++ .pointer sv :: S2 ++ rS) (K1 ++ .pointer (some ⟨lb, 0, none⟩) :: .pointer (some ⟨rb, 0, none⟩) :: K2 ++ rK) ∧ NodeR wd lb lib lcb (nl + 1 + nr) (ml + mr) (P ++ .pointer sv :: Q ++ R2) (KP ++ KQ ++ V2) ∧ NodeR wd rb rib rcb nr mr (Q ++ T) (KQ ++ U) ∧ Kep (fun k => k = nb ∨ k = ib ∨ k = cb ∨ k = lb ∨ k = lib ∨ k = lcb) w wd)
    case first =>
      go_upto_region 3 with fail
      go_cut [] from 8 (fun we => NodeR we nb ib cb ns nk (S1 ++ .pointer sv :: S2 ++ rS) (K1 ++ .pointer (some ⟨lb, 0, none⟩) :: .pointer (some ⟨rb, 0, none⟩) :: K2 ++ rK) ∧ NodeR we lb lib lcb (nl + 1 + nr) ml (P ++ .pointer sv :: Q ++ R2) (KP ++ V1 ++ V2) ∧ NodeR we rb rib rcb nr mr (Q ++ T) (KQ ++ U) ∧ Kep (fun k => k = nb ∨ k = ib ∨ k = cb ∨ k = lb ∨ k = lib ∨ k = lcb) w we)
      case first =>
        refine wp_region_G (fun w' => w'.cell? ⟨lb, 0, none⟩ = some (.slice (some ⟨lib, 0, none⟩) nl 63) ∧ w'.cell? ⟨nb, 0, none⟩ = some (.slice (some ⟨ib, 0, none⟩) ns 63) ∧ w'.cell? ⟨ib, i, none⟩ = some (.pointer sv) ∧ w'.cell? ⟨rb, 0, none⟩ = some (.slice (some ⟨rib, 0, none⟩) nr 63)) (fun _ => True) [21] (by kernel_rfl) ?_
        have H2 : Hid (NodeR (w1.drew) nb ib cb ns nk (S1 ++ .pointer sv :: S2 ++ rS) (K1 ++ .pointer (some ⟨lb, 0, none⟩) :: .pointer (some ⟨rb, 0, none⟩) :: K2 ++ rK) ∧ NodeR (w1.drew) lb lib lcb nl ml (P ++ p0 :: R1 ++ R2) (KP ++ V1 ++ V2) ∧ NodeR (w1.drew) rb rib rcb nr mr (Q ++ T) (KQ ++ U) ∧ Kep (fun k => k = nb ∨ k = ib ∨ k = cb ∨ k = lb ∨ k = lib ∨ k = lcb) w (w1.drew)) := ⟨H1.out.1.kep ((Kep.refl (fun _ => False) w1).drew) id id id, H1.out.2.1.kep ((Kep.refl (fun _ => False) w1).drew) id id id, H1.out.2.2.1.kep ((Kep.refl (fun _ => False) w1).drew) id id id, H1.out.2.2.2.trans ((Kep.refl (fun _ => False) w1).drew) (fun _ _ h => h.elim)⟩
        clear H1 l1
        generalize w1.drew = w2 at *
        have HA : Hid (w2.cell? ⟨lb, 0, none⟩ = some (.slice (some ⟨lib, 0, none⟩) nl 63) ∧ w2.cell? ⟨nb, 0, none⟩ = some (.slice (some ⟨ib, 0, none⟩) ns 63) ∧ w2.cell? ⟨ib, i, none⟩ = some (.pointer sv) ∧ w2.cell? ⟨rb, 0, none⟩ = some (.slice (some ⟨rib, 0, none⟩) nr 63)) := ⟨H2.out.2.1.c0, H2.out.1.c0, by rw [H2.out.1.row.cell, HE.out.2.2.2.2.2.1]; simp, H2.out.2.2.1.c0⟩
        have hins : (i : Int) < (ns : Int) := (by have := HE.out; first | omega | (simp; omega))
        refine wpAnyG_takeB (i := 0) (v := .pointer (some ⟨lb, 0, none⟩)) rfl (by kernel_rfl) (by kernel_rfl) (by kernel_rfl) (by kernel_rfl) (fun _ _ _ h => h) (fun _ => HA.out) trivial (Or.inl ⟨by rfl, fun w' hSw => by kernel_rfl⟩) ?_
        try simp only [Act.put, List.getElem_toArray, List.getElem_cons_succ, List.getElem_cons_zero, List.setIfInBounds_toArray, List.set_cons_zero, List.set_cons_succ]
        refine wpAnyG_takeB (i := 1) (v := .pointer (some ⟨lb, 0, none⟩)) rfl (by kernel_rfl) (by kernel_rfl) (by kernel_rfl) (by kernel_rfl) (fun _ _ _ h => h) (fun _ => HA.out) trivial (Or.inl ⟨by rfl, fun w' hSw => by kernel_rfl⟩) ?_
        try simp only [Act.put, List.getElem_toArray, List.getElem_cons_succ, List.getElem_cons_zero, List.setIfInBounds_toArray, List.set_cons_zero, List.set_cons_succ]
        refine wpAnyG_takeB (i := 2) (v := .pointer (some ⟨lb, 0, none⟩)) rfl (by kernel_rfl) (by kernel_rfl) (by kernel_rfl) (by kernel_rfl) (fun _ _ _ h => h) (fun _ => HA.out) trivial (Or.inl ⟨by rfl, fun w' hSw => by go_simp⟩) ?_
        try simp only [Act.put, List.getElem_toArray, List.getElem_cons_succ, List.getElem_cons_zero, List.setIfInBounds_toArray, List.set_cons_zero, List.set_cons_succ]
        refine wpAnyG_takeB (i := 3) (v := .pointer (some ⟨lb, 0, none⟩)) rfl (by kernel_rfl) (by kernel_rfl) (by kernel_rfl) (by kernel_rfl) (fun _ _ _ h => h) (fun _ => HA.out) trivial (Or.inl ⟨by rfl, fun w' hSw => by go_simp⟩) ?_
        try simp only [Act.put, List.getElem_toArray, List.getElem_cons_succ, List.getElem_cons_zero, List.setIfInBounds_toArray, List.set_cons_zero, List.set_cons_succ]
        refine wpAnyG_take (i := 4) (v := .slice (some ⟨lib, 0, none⟩) nl 63) rfl (by kernel_rfl) (by kernel_rfl) (by kernel_rfl) (by kernel_rfl) (fun _ _ _ h => h) HA.out trivial (Or.inl ⟨by rfl, fun w' hSw => by (have h := hSw.1.1; go_simp)⟩) ?_
        try simp only [Act.put, List.getElem_toArray, List.getElem_cons_succ, List.getElem_cons_zero, List.setIfInBounds_toArray, List.set_cons_zero, List.set_cons_succ]
        refine wpAnyG_takeB (i := 5) (v := .pointer (some ⟨nb, 0, none⟩)) rfl (by kernel_rfl) (by kernel_rfl) (by kernel_rfl) (by kernel_rfl) (fun _ _ _ h => h) (fun _ => HA.out) trivial (Or.inl ⟨by rfl, fun w' hSw => by kernel_rfl⟩) ?_
        try simp only [Act.put, List.getElem_toArray, List.getElem_cons_succ, List.getElem_cons_zero, List.setIfInBounds_toArray, List.set_cons_zero, List.set_cons_succ]
        refine wpAnyG_takeB (i := 6) (v := .pointer (some ⟨nb, 0, none⟩)) rfl (by kernel_rfl) (by kernel_rfl) (by kernel_rfl) (by kernel_rfl) (fun _ _ _ h => h) (fun _ => HA.out) trivial (Or.inl ⟨by rfl, fun w' hSw => by go_simp⟩) ?_
        try simp only [Act.put, List.getElem_toArray, List.getElem_cons_succ, List.getElem_cons_zero, List.setIfInBounds_toArray, List.set_cons_zero, List.set_cons_succ]
        refine wpAnyG_takeB (i := 7) (v := .pointer (some ⟨nb, 0, none⟩)) rfl (by kernel_rfl) (by kernel_rfl) (by kernel_rfl) (by kernel_rfl) (fun _ _ _ h => h) (fun _ => HA.out) trivial (Or.inl ⟨by rfl, fun w' hSw => by go_simp⟩) ?_
        try simp only [Act.put, List.getElem_toArray, List.getElem_cons_succ, List.getElem_cons_zero, List.setIfInBounds_toArray, List.set_cons_zero, List.set_cons_succ]
        refine wpAnyG_take (i := 8) (v := .slice (some ⟨ib, 0, none⟩) ns 63) rfl (by kernel_rfl) (by kernel_rfl) (by kernel_rfl) (by kernel_rfl) (fun _ _ _ h => h) HA.out trivial (Or.inl ⟨by rfl, fun w' hSw => by (have h := hSw.1.2.1; go_simp)⟩) ?_
        try simp only [Act.put, List.getElem_toArray, List.getElem_cons_succ, List.getElem_cons_zero, List.setIfInBounds_toArray, List.set_cons_zero, List.set_cons_succ]
        refine wpAnyG_takeB (i := 9) (v := .int .i64 (i : Int)) rfl (by kernel_rfl) (by kernel_rfl) (by kernel_rfl) (by kernel_rfl) (fun _ _ _ h => h) (fun _ => HA.out) trivial (Or.inl ⟨by rfl, fun w' hSw => by kernel_rfl⟩) ?_
        try simp only [Act.put, List.getElem_toArray, List.getElem_cons_succ, List.getElem_cons_zero, List.setIfInBounds_toArray, List.set_cons_zero, List.set_cons_succ]
        refine wpAnyG_takeB (i := 10) (v := .pointer (some ⟨ib, i, none⟩)) rfl (by kernel_rfl) (by kernel_rfl) (by kernel_rfl) (by kernel_rfl) (fun _ _ _ h => h) (fun _ => HA.out) trivial (Or.inl ⟨by rfl, fun w' hSw => by go_simp⟩) ?_
        try simp only [Act.put, List.getElem_toArray, List.getElem_cons_succ, List.getElem_cons_zero, List.setIfInBounds_toArray, List.set_cons_zero, List.set_cons_succ]
        refine wpAnyG_take (i := 11) (v := .pointer sv) rfl (by kernel_rfl) (by kernel_rfl) (by kernel_rfl) (by kernel_rfl) (fun _ _ _ h => h) HA.out trivial (Or.inl ⟨by rfl, fun w' hSw => by (have h := hSw.1.2.2.1; go_simp)⟩) ?_
        try simp only [Act.put, List.getElem_toArray, List.getElem_cons_succ, List.getElem_cons_zero, List.setIfInBounds_toArray, List.set_cons_zero, List.set_cons_succ]
        refine wpAnyG_takeB (i := 14) (v := .pointer (some ⟨rb, 0, none⟩)) rfl (by kernel_rfl) (by kernel_rfl) (by kernel_rfl) (by kernel_rfl) (fun _ _ _ h => h) (fun _ => HA.out) trivial (Or.inl ⟨by rfl, fun w' hSw => by kernel_rfl⟩) ?_
        try simp only [Act.put, List.getElem_toArray, List.getElem_cons_succ, List.getElem_cons_zero, List.setIfInBounds_toArray, List.set_cons_zero, List.set_cons_succ]
        refine wpAnyG_takeB (i := 15) (v := .pointer (some ⟨rb, 0, none⟩)) rfl (by kernel_rfl) (by kernel_rfl) (by kernel_rfl) (by kernel_rfl) (fun _ _ _ h => h) (fun _ => HA.out) trivial (Or.inl ⟨by rfl, fun w' hSw => by go_simp⟩) ?_
        try simp only [Act.put, List.getElem_toArray, List.getElem_cons_succ, List.getElem_cons_zero, List.setIfInBounds_toArray, List.set_cons_zero, List.set_cons_succ]
        refine wpAnyG_takeB (i := 16) (v := .pointer (some ⟨rb, 0, none⟩)) rfl (by kernel_rfl) (by kernel_rfl) (by kernel_rfl) (by kernel_rfl) (fun _ _ _ h => h) (fun _ => HA.out) trivial (Or.inl ⟨by rfl, fun w' hSw => by go_simp⟩) ?_
        try simp only [Act.put, List.getElem_toArray, List.getElem_cons_succ, List.getElem_cons_zero, List.setIfInBounds_toArray, List.set_cons_zero, List.set_cons_succ]
        refine wpAnyG_take (i := 17) (v := .slice (some ⟨rib, 0, none⟩) nr 63) rfl (by kernel_rfl) (by kernel_rfl) (by kernel_rfl) (by kernel_rfl) (fun _ _ _ h => h) HA.out trivial (Or.inl ⟨by rfl, fun w' hSw => by (have h := hSw.1.2.2.2; go_simp)⟩) ?_
        try simp only [Act.put, List.getElem_toArray, List.getElem_cons_succ, List.getElem_cons_zero, List.setIfInBounds_toArray, List.set_cons_zero, List.set_cons_succ]
        refine wpAnyG_step (i := 12) (by kernel_rfl) rfl (fun K hK => ?_)
        go_simp
        have k2 : Kep (fun _ => False) w2 (w2.alloc (.cells #[.pointer sv] 46)) := (Kep.refl _ _).alloc _
        have hv : RowB (w2.alloc (.cells #[.pointer sv] 46)) w2.heap.size 46 [.pointer sv] := row_new w2 46 [.pointer sv]
        have hvl : lib ≠ w2.heap.size := Nat.ne_of_lt H2.out.2.1.row.lt
        have H3 : Hid (NodeR (w2.alloc (.cells #[.pointer sv] 46)) nb ib cb ns nk (S1 ++ .pointer sv :: S2 ++ rS) (K1 ++ .pointer (some ⟨lb, 0, none⟩) :: .pointer (some ⟨rb, 0, none⟩) :: K2 ++ rK) ∧ NodeR (w2.alloc (.cells #[.pointer sv] 46)) lb lib lcb nl ml (P ++ p0 :: R1 ++ R2) (KP ++ V1 ++ V2) ∧ NodeR (w2.alloc (.cells #[.pointer sv] 46)) rb rib rcb nr mr (Q ++ T) (KQ ++ U) ∧ Kep (fun k => k = nb ∨ k = ib ∨ k = cb ∨ k = lb ∨ k = lib ∨ k = lcb) w (w2.alloc (.cells #[.pointer sv] 46))) := ⟨H2.out.1.kep k2 id id id, H2.out.2.1.kep k2 id id id, H2.out.2.2.1.kep k2 id id id, H2.out.2.2.2.trans k2 (fun _ _ h => h.elim)⟩
        refine hK.out _ _ trivial (fun _ => ⟨H3.out.2.1.c0, H3.out.1.c0, by rw [H3.out.1.row.cell, HE.out.2.2.2.2.2.1]; simp, H3.out.2.2.1.c0⟩) ?_
        clear hK k2 H2 HA
        generalize w2.heap.size = vb at *
        generalize w2.alloc (.cells #[.pointer sv] 46) = w3 at *
        try simp only [Act.put, List.getElem_toArray, List.getElem_cons_succ, List.getElem_cons_zero, List.setIfInBounds_toArray, List.set_cons_zero, List.set_cons_succ]
        have ap : ∀ ty, (Builtin.append_ #[59, 59] ty #[.slice (some ⟨lib, 0, none⟩) nl 63, .slice (some ⟨vb, 0, none⟩) 1 1]).run Try.prog w3 = .ok (.slice (some ⟨lib, 0, none⟩) (nl + 1) 63) (w3.setCells lib nl [.pointer sv]) ∧ RowB (w3.setCells lib nl [.pointer sv]) lib 46 (P ++ [.pointer sv] ++ (R1 ++ R2)) ∧ Kep (fun k => k = lib) w3 (w3.setCells lib nl [.pointer sv]) := fun ty =>
          append59 (X := P) (R1 := [p0]) (R2 := R1 ++ R2) (A := []) (news := [.pointer sv]) (A2 := []) (by have := H3.out.2.1.row; simpa using this) HE.out.2.2.2.2.2.2.1 (by have := HE.out; first | omega | (simp; omega)) rfl rfl hv rfl (fun u hu => by simp at hu; subst hu; rfl) ty 1
        refine wpAnyG_step (i := 13) (by kernel_rfl) rfl (fun K hK => ?_)
        refine step_append_runI rfl (.tmp 44) (.tmp 52) 59 rfl _ _ rfl rfl (ap _).1 ?_
        have k2 := (ap 0).2.2
        have H4 : Hid (NodeR (w3.setCells lib nl [.pointer sv]) nb ib cb ns nk (S1 ++ .pointer sv :: S2 ++ rS) (K1 ++ .pointer (some ⟨lb, 0, none⟩) :: .pointer (some ⟨rb, 0, none⟩) :: K2 ++ rK) ∧ NodeR (w3.setCells lib nl [.pointer sv]) lb lib lcb nl ml (P ++ [.pointer sv] ++ (R1 ++ R2)) (KP ++ V1 ++ V2) ∧ NodeR (w3.setCells lib nl [.pointer sv]) rb rib rcb nr mr (Q ++ T) (KQ ++ U) ∧ Kep (fun k => k = nb ∨ k = ib ∨ k = cb ∨ k = lb ∨ k = lib ∨ k = lcb) w (w3.setCells lib nl [.pointer sv])) := ⟨H3.out.1.kep k2 HN.out.2.2.2.2.2.2.2.2.2.2.1 HN.out.2.2.2.1 (Ne.symm HN.out.2.2.2.2.2.2.2.2.2.2.2.2.2.2.2.2.2.2.2.2.2.2.2.2.2.2.2.2.2.2.1), ⟨H3.out.2.1.node.kep k2 HN.out.2.2.2.2.2.2.2.2.2.2.2.2.2.2.2.2.1, (ap 0).2.1, H3.out.2.1.kid.kep k2 (Ne.symm HN.out.2.2.2.2.2.2.2.2.2.2.2.2.2.2.2.2.2.2.2.2.2.2.2.2.2.2.2.2.2.2.2.1)⟩, H3.out.2.2.1.kep k2 HN.out.2.2.2.2.2.2.2.2.2.2.2.2.2.2.2.2.2.2.2.2.2.2.1 (Ne.symm HN.out.2.2.2.2.2.1) (Ne.symm HN.out.2.2.2.2.2.2.2.2.2.2.2.2.2.2.2.2.2.2.2.2.2.2.2.2.2.2.2.2.2.2.2.2.1), H3.out.2.2.2.trans k2 (fun j hj e => by simp [e])⟩
        refine hK.out _ _ trivial (fun _ => ⟨H4.out.2.1.c0, H4.out.1.c0, by rw [H4.out.1.row.cell, HE.out.2.2.2.2.2.1]; simp, H4.out.2.2.1.c0⟩) ?_
        clear hK k2 ap H3
        generalize w3.setCells lib nl [.pointer sv] = w4 at *
        try simp only [Act.put, List.getElem_toArray, List.getElem_cons_succ, List.getElem_cons_zero, List.setIfInBounds_toArray, List.set_cons_zero, List.set_cons_succ]
        have ap : ∀ ty, (Builtin.append_ #[59, 59] ty #[.slice (some ⟨lib, 0, none⟩) (nl + 1) 63, .slice (some ⟨rib, 0, none⟩) nr 63]).run Try.prog w4 = .ok (.slice (some ⟨lib, 0, none⟩) (nl + 1 + nr) 63) (w4.setCells lib (nl + 1) Q) ∧ RowB (w4.setCells lib (nl + 1) Q) lib 46 ((P ++ [.pointer sv]) ++ Q ++ R2) ∧ Kep (fun k => k = lib) w4 (w4.setCells lib (nl + 1) Q) := fun ty =>
          append59 (X := P ++ [.pointer sv]) (R1 := R1) (R2 := R2) (A := []) (news := Q) (A2 := T) (by have := H4.out.2.1.row; simpa using this) (by have := HE.out; first | omega | (simp; omega)) (by have := HE.out; first | omega | (simp; omega)) HE.out.2.2.2.2.2.2.2.1 HE.out.2.2.2.2.2.2.2.2.1 H4.out.2.2.1.row rfl HO.out.2.2.1 ty 63
        refine wpAnyG_step (i := 18) (by kernel_rfl) rfl (fun K hK => ?_)
        refine step_append_runI rfl (.tmp 53) (.tmp 57) 59 rfl _ _ rfl rfl (ap _).1 ?_
        have k2 := (ap 0).2.2
        have H5 : Hid (NodeR (w4.setCells lib (nl + 1) Q) nb ib cb ns nk (S1 ++ .pointer sv :: S2 ++ rS) (K1 ++ .pointer (some ⟨lb, 0, none⟩) :: .pointer (some ⟨rb, 0, none⟩) :: K2 ++ rK) ∧ NodeR (w4.setCells lib (nl + 1) Q) lb lib lcb nl ml (P ++ .pointer sv :: Q ++ R2) (KP ++ V1 ++ V2) ∧ NodeR (w4.setCells lib (nl + 1) Q) rb rib rcb nr mr (Q ++ T) (KQ ++ U) ∧ Kep (fun k => k = nb ∨ k = ib ∨ k = cb ∨ k = lb ∨ k = lib ∨ k = lcb) w (w4.setCells lib (nl + 1) Q)) := ⟨H4.out.1.kep k2 HN.out.2.2.2.2.2.2.2.2.2.2.1 HN.out.2.2.2.1 (Ne.symm HN.out.2.2.2.2.2.2.2.2.2.2.2.2.2.2.2.2.2.2.2.2.2.2.2.2.2.2.2.2.2.2.1), ⟨H4.out.2.1.node.kep k2 HN.out.2.2.2.2.2.2.2.2.2.2.2.2.2.2.2.2.1, (by have := (ap 0).2.1; simpa using this), H4.out.2.1.kid.kep k2 (Ne.symm HN.out.2.2.2.2.2.2.2.2.2.2.2.2.2.2.2.2.2.2.2.2.2.2.2.2.2.2.2.2.2.2.2.1)⟩, H4.out.2.2.1.kep k2 HN.out.2.2.2.2.2.2.2.2.2.2.2.2.2.2.2.2.2.2.2.2.2.2.1 (Ne.symm HN.out.2.2.2.2.2.1) (Ne.symm HN.out.2.2.2.2.2.2.2.2.2.2.2.2.2.2.2.2.2.2.2.2.2.2.2.2.2.2.2.2.2.2.2.2.1), H4.out.2.2.2.trans k2 (fun j hj e => by simp [e])⟩
        refine hK.out _ _ trivial (fun _ => ⟨H5.out.2.1.c0, H5.out.1.c0, by rw [H5.out.1.row.cell, HE.out.2.2.2.2.2.1]; simp, H5.out.2.2.1.c0⟩) ?_
        clear hK k2 ap H4
        generalize w4.setCells lib (nl + 1) Q = w5 at *
        try simp only [Act.put, List.getElem_toArray, List.getElem_cons_succ, List.getElem_cons_zero, List.setIfInBounds_toArray, List.set_cons_zero, List.set_cons_succ]
        have HA : Hid (w5.cell? ⟨lb, 0, none⟩ = some (.slice (some ⟨lib, 0, none⟩) nl 63) ∧ w5.cell? ⟨nb, 0, none⟩ = some (.slice (some ⟨ib, 0, none⟩) ns 63) ∧ w5.cell? ⟨ib, i, none⟩ = some (.pointer sv) ∧ w5.cell? ⟨rb, 0, none⟩ = some (.slice (some ⟨rib, 0, none⟩) nr 63)) := ⟨H5.out.2.1.c0, H5.out.1.c0, by rw [H5.out.1.row.cell, HE.out.2.2.2.2.2.1]; simp, H5.out.2.2.1.c0⟩
        refine wpAnyG_takeB (i := 19) (v := .pointer (some ⟨lb, 0, none⟩)) rfl (by kernel_rfl) (by kernel_rfl) (by kernel_rfl) (by kernel_rfl) (fun _ _ _ h => h) (fun _ => HA.out) trivial (Or.inl ⟨by rfl, fun w' hSw => by go_simp⟩) ?_
        try simp only [Act.put, List.getElem_toArray, List.getElem_cons_succ, List.getElem_cons_zero, List.setIfInBounds_toArray, List.set_cons_zero, List.set_cons_succ]
        refine wpAnyG_takeB (i := 20) (v := .pointer (some ⟨lb, 0, none⟩)) rfl (by kernel_rfl) (by kernel_rfl) (by kernel_rfl) (by kernel_rfl) (fun _ _ _ h => h) (fun _ => HA.out) trivial (Or.inl ⟨by rfl, fun w' hSw => by go_simp⟩) ?_
        try simp only [Act.put, List.getElem_toArray, List.getElem_cons_succ, List.getElem_cons_zero, List.setIfInBounds_toArray, List.set_cons_zero, List.set_cons_succ]
        have c0 := HA.out.1
        have f0 := H5.out.2.1.node.frozen 0
        refine wpAnyG_step (i := 21) (by kernel_rfl) rfl (fun K hK => ?_)
        go_simp
        refine hK.out _ _ trivial (fun h => not_early (by kernel_rfl) h) ?_
        clear hK c0 f0 HA
        have H6 : Hid (NodeR (w5.setCell ⟨lb, 0, none⟩ (.slice (some ⟨lib, 0, none⟩) (nl + 1 + nr) 63)) nb ib cb ns nk (S1 ++ .pointer sv :: S2 ++ rS) (K1 ++ .pointer (some ⟨lb, 0, none⟩) :: .pointer (some ⟨rb, 0, none⟩) :: K2 ++ rK) ∧ NodeR (w5.setCell ⟨lb, 0, none⟩ (.slice (some ⟨lib, 0, none⟩) (nl + 1 + nr) 63)) lb lib lcb (nl + 1 + nr) ml (P ++ .pointer sv :: Q ++ R2) (KP ++ V1 ++ V2) ∧ NodeR (w5.setCell ⟨lb, 0, none⟩ (.slice (some ⟨lib, 0, none⟩) (nl + 1 + nr) 63)) rb rib rcb nr mr (Q ++ T) (KQ ++ U) ∧ Kep (fun k => k = nb ∨ k = ib ∨ k = cb ∨ k = lb ∨ k = lib ∨ k = lcb) w (w5.setCell ⟨lb, 0, none⟩ (.slice (some ⟨lib, 0, none⟩) (nl + 1 + nr) 63))) := ⟨H5.out.1.kep (kep_set _ _ _ _) HN.out.1 (Ne.symm HN.out.2.2.2.2.2.2.2.2.2.2.2.2.2.2.2.1) (Ne.symm HN.out.2.2.2.2.2.2.2.2.2.2.2.2.2.2.2.2.2.2.1), H5.out.2.1.set0 _, H5.out.2.2.1.kep (kep_set _ _ _ _) (Ne.symm HN.out.2.2.1) (Ne.symm HN.out.2.2.2.2.2.2.2.2.2.2.2.2.2.2.2.2.2.1) (Ne.symm HN.out.2.2.2.2.2.2.2.2.2.2.2.2.2.2.2.2.2.2.2.2.1), H5.out.2.2.2.trans (kep_set _ _ _ _) (fun j hj e => by simp [e])⟩
        clear H5
        generalize w5.setCell ⟨lb, 0, none⟩ (.slice (some ⟨lib, 0, none⟩) (nl + 1 + nr) 63) = w6 at *
        try simp only [Act.put, List.getElem_toArray, List.getElem_cons_succ, List.getElem_cons_zero, List.setIfInBounds_toArray, List.set_cons_zero, List.set_cons_succ]
        refine wpAnyG_done (by kernel_rfl) ?_ _
        refine NoPanic.normal ?_
        go_wp2_with fail
        go_meet
        case rel => exact H6.out
      case rest =>
        have H2 : Hid (NodeR wc nb ib cb ns nk (S1 ++ .pointer sv :: S2 ++ rS) (K1 ++ .pointer (some ⟨lb, 0, none⟩) :: .pointer (some ⟨rb, 0, none⟩) :: K2 ++ rK) ∧ NodeR wc lb lib lcb (nl + 1 + nr) ml (P ++ .pointer sv :: Q ++ R2) (KP ++ V1 ++ V2) ∧ NodeR wc rb rib rcb nr mr (Q ++ T) (KQ ++ U) ∧ Kep (fun k => k = nb ∨ k = ib ∨ k = cb ∨ k = lb ∨ k = lib ∨ k = lcb) w wc) := hcut
        clear hcut H1 l1
        go_upto_region 4 with fail
        refine wp_region_G (fun w' => w'.cell? ⟨lb, 1, none⟩ = some (.slice (some ⟨lcb, 0, none⟩) ml 64) ∧ w'.cell? ⟨rb, 1, none⟩ = some (.slice (some ⟨rcb, 0, none⟩) mr 64)) (fun _ => True) [12] (by kernel_rfl) ?_
        have H3 : Hid (NodeR (wc.drew) nb ib cb ns nk (S1 ++ .pointer sv :: S2 ++ rS) (K1 ++ .pointer (some ⟨lb, 0, none⟩) :: .pointer (some ⟨rb, 0, none⟩) :: K2 ++ rK) ∧ NodeR (wc.drew) lb lib lcb (nl + 1 + nr) ml (P ++ .pointer sv :: Q ++ R2) (KP ++ V1 ++ V2) ∧ NodeR (wc.drew) rb rib rcb nr mr (Q ++ T) (KQ ++ U) ∧ Kep (fun k => k = nb ∨ k = ib ∨ k = cb ∨ k = lb ∨ k = lib ∨ k = lcb) w (wc.drew)) := ⟨H2.out.1.kep ((Kep.refl (fun _ => False) wc).drew) id id id, H2.out.2.1.kep ((Kep.refl (fun _ => False) wc).drew) id id id, H2.out.2.2.1.kep ((Kep.refl (fun _ => False) wc).drew) id id id, H2.out.2.2.2.trans ((Kep.refl (fun _ => False) wc).drew) (fun _ _ h => h.elim)⟩
        clear H2
        generalize wc.drew = w2 at *
        have HA : Hid (w2.cell? ⟨lb, 1, none⟩ = some (.slice (some ⟨lcb, 0, none⟩) ml 64) ∧ w2.cell? ⟨rb, 1, none⟩ = some (.slice (some ⟨rcb, 0, none⟩) mr 64)) := ⟨H3.out.2.1.c1, H3.out.2.2.1.c1⟩
        refine wpAnyG_takeB (i := 0) (v := .pointer (some ⟨lb, 0, none⟩)) rfl (by kernel_rfl) (by kernel_rfl) (by kernel_rfl) (by kernel_rfl) (fun _ _ _ h => h) (fun _ => HA.out) trivial (Or.inl ⟨by rfl, fun w' hSw => by kernel_rfl⟩) ?_
        try simp only [Act.put, List.getElem_toArray, List.getElem_cons_succ, List.getElem_cons_zero, List.setIfInBounds_toArray, List.set_cons_zero, List.set_cons_succ]
        refine wpAnyG_takeB (i := 1) (v := .pointer (some ⟨lb, 0, none⟩)) rfl (by kernel_rfl) (by kernel_rfl) (by kernel_rfl) (by kernel_rfl) (fun _ _ _ h => h) (fun _ => HA.out) trivial (Or.inl ⟨by rfl, fun w' hSw => by kernel_rfl⟩) ?_
        try simp only [Act.put, List.getElem_toArray, List.getElem_cons_succ, List.getElem_cons_zero, List.setIfInBounds_toArray, List.set_cons_zero, List.set_cons_succ]
        refine wpAnyG_takeB (i := 2) (v := .pointer (some ⟨lb, 0, none⟩)) rfl (by kernel_rfl) (by kernel_rfl) (by kernel_rfl) (by kernel_rfl) (fun _ _ _ h => h) (fun _ => HA.out) trivial (Or.inl ⟨by rfl, fun w' hSw => by go_simp⟩) ?_
        try simp only [Act.put, List.getElem_toArray, List.getElem_cons_succ, List.getElem_cons_zero, List.setIfInBounds_toArray, List.set_cons_zero, List.set_cons_succ]
        refine wpAnyG_takeB (i := 3) (v := .pointer (some ⟨lb, 1, none⟩)) rfl (by kernel_rfl) (by kernel_rfl) (by kernel_rfl) (by kernel_rfl) (fun _ _ _ h => h) (fun _ => HA.out) trivial (Or.inl ⟨by rfl, fun w' hSw => by go_simp⟩) ?_
        try simp only [Act.put, List.getElem_toArray, List.getElem_cons_succ, List.getElem_cons_zero, List.setIfInBounds_toArray, List.set_cons_zero, List.set_cons_succ]
        refine wpAnyG_take (i := 4) (v := .slice (some ⟨lcb, 0, none⟩) ml 64) rfl (by kernel_rfl) (by kernel_rfl) (by kernel_rfl) (by kernel_rfl) (fun _ _ _ h => h) HA.out trivial (Or.inl ⟨by rfl, fun w' hSw => by (have h := hSw.1.1; go_simp)⟩) ?_
        try simp only [Act.put, List.getElem_toArray, List.getElem_cons_succ, List.getElem_cons_zero, List.setIfInBounds_toArray, List.set_cons_zero, List.set_cons_succ]
        refine wpAnyG_takeB (i := 5) (v := .pointer (some ⟨rb, 0, none⟩)) rfl (by kernel_rfl) (by kernel_rfl) (by kernel_rfl) (by kernel_rfl) (fun _ _ _ h => h) (fun _ => HA.out) trivial (Or.inl ⟨by rfl, fun w' hSw => by kernel_rfl⟩) ?_
        try simp only [Act.put, List.getElem_toArray, List.getElem_cons_succ, List.getElem_cons_zero, List.setIfInBounds_toArray, List.set_cons_zero, List.set_cons_succ]
        refine wpAnyG_takeB (i := 6) (v := .pointer (some ⟨rb, 0, none⟩)) rfl (by kernel_rfl) (by kernel_rfl) (by kernel_rfl) (by kernel_rfl) (fun _ _ _ h => h) (fun _ => HA.out) trivial (Or.inl ⟨by rfl, fun w' hSw => by go_simp⟩) ?_
        try simp only [Act.put, List.getElem_toArray, List.getElem_cons_succ, List.getElem_cons_zero, List.setIfInBounds_toArray, List.set_cons_zero, List.set_cons_succ]
        refine wpAnyG_takeB (i := 7) (v := .pointer (some ⟨rb, 1, none⟩)) rfl (by kernel_rfl) (by kernel_rfl) (by kernel_rfl) (by kernel_rfl) (fun _ _ _ h => h) (fun _ => HA.out) trivial (Or.inl ⟨by rfl, fun w' hSw => by go_simp⟩) ?_
        try simp only [Act.put, List.getElem_toArray, List.getElem_cons_succ, List.getElem_cons_zero, List.setIfInBounds_toArray, List.set_cons_zero, List.set_cons_succ]
        refine wpAnyG_take (i := 8) (v := .slice (some ⟨rcb, 0, none⟩) mr 64) rfl (by kernel_rfl) (by kernel_rfl) (by kernel_rfl) (by kernel_rfl) (fun _ _ _ h => h) HA.out trivial (Or.inl ⟨by rfl, fun w' hSw => by (have h := hSw.1.2; go_simp)⟩) ?_
        try simp only [Act.put, List.getElem_toArray, List.getElem_cons_succ, List.getElem_cons_zero, List.setIfInBounds_toArray, List.set_cons_zero, List.set_cons_succ]
        have ap : ∀ ty, (Builtin.append_ #[60, 60] ty #[.slice (some ⟨lcb, 0, none⟩) ml 64, .slice (some ⟨rcb, 0, none⟩) mr 64]).run Try.prog w2 = .ok (.slice (some ⟨lcb, 0, none⟩) (ml + mr) 64) (w2.setCells lcb ml KQ) ∧ RowB (w2.setCells lcb ml KQ) lcb 55 (KP ++ KQ ++ V2) ∧ Kep (fun k => k = lcb) w2 (w2.setCells lcb ml KQ) := fun ty =>
          append60 (X := KP) (R1 := V1) (R2 := V2) (A := []) (news := KQ) (A2 := U) H3.out.2.1.kid HE.out.2.2.2.2.2.2.2.2.2.2.2.1 HE.out.2.2.2.2.2.2.2.2.2.2.2.2.2.2.1 HE.out.2.2.2.2.2.2.2.2.2.2.2.2.1 HE.out.2.2.2.2.2.2.2.2.2.2.2.2.2.1 H3.out.2.2.1.kid rfl HO.out.2.2.2 ty 64
        refine wpAnyG_step (i := 9) (by kernel_rfl) rfl (fun K hK => ?_)
        refine step_append_runI rfl (.tmp 65) (.tmp 69) 60 rfl _ _ rfl rfl (ap _).1 ?_
        have k2 := (ap 0).2.2
        have H4 : Hid (NodeR (w2.setCells lcb ml KQ) nb ib cb ns nk (S1 ++ .pointer sv :: S2 ++ rS) (K1 ++ .pointer (some ⟨lb, 0, none⟩) :: .pointer (some ⟨rb, 0, none⟩) :: K2 ++ rK) ∧ NodeR (w2.setCells lcb ml KQ) lb lib lcb (nl + 1 + nr) ml (P ++ .pointer sv :: Q ++ R2) (KP ++ KQ ++ V2) ∧ NodeR (w2.setCells lcb ml KQ) rb rib rcb nr mr (Q ++ T) (KQ ++ U) ∧ Kep (fun k => k = nb ∨ k = ib ∨ k = cb ∨ k = lb ∨ k = lib ∨ k = lcb) w (w2.setCells lcb ml KQ)) := ⟨H3.out.1.kep k2 HN.out.2.2.2.2.2.2.2.2.2.2.2.2.2.1 HN.out.2.2.2.2.2.2.2.2.2.2.2.2.2.2.2.2.2.2.2.2.2.2.2.2.2.2.2.2.1 HN.out.2.2.2.2.2.2.1, ⟨H3.out.2.1.node.kep k2 HN.out.2.2.2.2.2.2.2.2.2.2.2.2.2.2.2.2.2.2.2.1, H3.out.2.1.row.kep k2 HN.out.2.2.2.2.2.2.2.2.2.2.2.2.2.2.2.2.2.2.2.2.2.2.2.2.2.2.2.2.2.2.2.1, (ap 0).2.1⟩, H3.out.2.2.1.kep k2 HN.out.2.2.2.2.2.2.2.2.2.2.2.2.2.2.2.2.2.2.2.2.2.2.2.2.2.1 HN.out.2.2.2.2.2.2.2.2.2.2.2.2.2.2.2.2.2.2.2.2.2.2.2.2.2.2.2.2.2.2.2.2.2.2.1 (Ne.symm HN.out.2.2.2.2.2.2.2.2.1), H3.out.2.2.2.trans k2 (fun j hj e => by simp [e])⟩
        refine hK.out _ _ trivial (fun _ => ⟨H4.out.2.1.c1, H4.out.2.2.1.c1⟩) ?_
        clear hK k2 ap H3 HA
        generalize w2.setCells lcb ml KQ = w3 at *
        try simp only [Act.put, List.getElem_toArray, List.getElem_cons_succ, List.getElem_cons_zero, List.setIfInBounds_toArray, List.set_cons_zero, List.set_cons_succ]
        have HA : Hid (w3.cell? ⟨lb, 1, none⟩ = some (.slice (some ⟨lcb, 0, none⟩) ml 64) ∧ w3.cell? ⟨rb, 1, none⟩ = some (.slice (some ⟨rcb, 0, none⟩) mr 64)) := ⟨H4.out.2.1.c1, H4.out.2.2.1.c1⟩
        refine wpAnyG_takeB (i := 10) (v := .pointer (some ⟨lb, 0, none⟩)) rfl (by kernel_rfl) (by kernel_rfl) (by kernel_rfl) (by kernel_rfl) (fun _ _ _ h => h) (fun _ => HA.out) trivial (Or.inl ⟨by rfl, fun w' hSw => by go_simp⟩) ?_
        try simp only [Act.put, List.getElem_toArray, List.getElem_cons_succ, List.getElem_cons_zero, List.setIfInBounds_toArray, List.set_cons_zero, List.set_cons_succ]
        refine wpAnyG_takeB (i := 11) (v := .pointer (some ⟨lb, 1, none⟩)) rfl (by kernel_rfl) (by kernel_rfl) (by kernel_rfl) (by kernel_rfl) (fun _ _ _ h => h) (fun _ => HA.out) trivial (Or.inl ⟨by rfl, fun w' hSw => by go_simp⟩) ?_
        try simp only [Act.put, List.getElem_toArray, List.getElem_cons_succ, List.getElem_cons_zero, List.setIfInBounds_toArray, List.set_cons_zero, List.set_cons_succ]
        have c0 := HA.out.1
        have f0 := H4.out.2.1.node.frozen 1
        refine wpAnyG_step (i := 12) (by kernel_rfl) rfl (fun K hK => ?_)
        go_simp
        refine hK.out _ _ trivial (fun h => not_early (by kernel_rfl) h) ?_
        clear hK c0 f0 HA
        have H5 : Hid (NodeR (w3.setCell ⟨lb, 1, none⟩ (.slice (some ⟨lcb, 0, none⟩) (ml + mr) 64)) nb ib cb ns nk (S1 ++ .pointer sv :: S2 ++ rS) (K1 ++ .pointer (some ⟨lb, 0, none⟩) :: .pointer (some ⟨rb, 0, none⟩) :: K2 ++ rK) ∧ NodeR (w3.setCell ⟨lb, 1, none⟩ (.slice (some ⟨lcb, 0, none⟩) (ml + mr) 64)) lb lib lcb (nl + 1 + nr) (ml + mr) (P ++ .pointer sv :: Q ++ R2) (KP ++ KQ ++ V2) ∧ NodeR (w3.setCell ⟨lb, 1, none⟩ (.slice (some ⟨lcb, 0, none⟩) (ml + mr) 64)) rb rib rcb nr mr (Q ++ T) (KQ ++ U) ∧ Kep (fun k => k = nb ∨ k = ib ∨ k = cb ∨ k = lb ∨ k = lib ∨ k = lcb) w (w3.setCell ⟨lb, 1, none⟩ (.slice (some ⟨lcb, 0, none⟩) (ml + mr) 64))) := ⟨H4.out.1.kep (kep_set _ _ _ _) HN.out.1 (Ne.symm HN.out.2.2.2.2.2.2.2.2.2.2.2.2.2.2.2.1) (Ne.symm HN.out.2.2.2.2.2.2.2.2.2.2.2.2.2.2.2.2.2.2.1), H4.out.2.1.set1 _, H4.out.2.2.1.kep (kep_set _ _ _ _) (Ne.symm HN.out.2.2.1) (Ne.symm HN.out.2.2.2.2.2.2.2.2.2.2.2.2.2.2.2.2.2.1) (Ne.symm HN.out.2.2.2.2.2.2.2.2.2.2.2.2.2.2.2.2.2.2.2.2.1), H4.out.2.2.2.trans (kep_set _ _ _ _) (fun j hj e => by simp [e])⟩
        clear H4
        generalize w3.setCell ⟨lb, 1, none⟩ (.slice (some ⟨lcb, 0, none⟩) (ml + mr) 64) = w4 at *
        try simp only [Act.put, List.getElem_toArray, List.getElem_cons_succ, List.getElem_cons_zero, List.setIfInBounds_toArray, List.set_cons_zero, List.set_cons_succ]
        refine wpAnyG_done (by kernel_rfl) ?_ _
        refine NoPanic.normal ?_
        go_wp2_with fail
        go_meet
        case rel => exact H5.out
    case rest =>
      have H9 : Hid (NodeR wc nb ib cb ns nk (S1 ++ .pointer sv :: S2 ++ rS) (K1 ++ .pointer (some ⟨lb, 0, none⟩) :: .pointer (some ⟨rb, 0, none⟩) :: K2 ++ rK) ∧ NodeR wc lb lib lcb (nl + 1 + nr) (ml + mr) (P ++ .pointer sv :: Q ++ R2) (KP ++ KQ ++ V2) ∧ NodeR wc rb rib rcb nr mr (Q ++ T) (KQ ++ U) ∧ Kep (fun k => k = nb ∨ k = ib ∨ k = cb ∨ k = lb ∨ k = lib ∨ k = lcb) w wc) := hcut
      have n0 := hcut.1.c0
      clear hcut H1 l1
      go_wp2_with fail
      refine (delete37 (A := S1) (B := S2) (x := .pointer sv) (rest := rS) H9.out.1.row HE.out.2.2.2.2.2.1 HE.out.1 HE.out.2.1 (by omega) HO.out.1).mono ?_
      rintro e w7 ⟨rfl, hr7, k7⟩
      have H10 : Hid (NodeR w7 nb ib cb ns nk (S1 ++ S2 ++ .pointer none :: rS) (K1 ++ .pointer (some ⟨lb, 0, none⟩) :: .pointer (some ⟨rb, 0, none⟩) :: K2 ++ rK) ∧ NodeR w7 lb lib lcb (nl + 1 + nr) (ml + mr) (P ++ .pointer sv :: Q ++ R2) (KP ++ KQ ++ V2) ∧ NodeR w7 rb rib rcb nr mr (Q ++ T) (KQ ++ U) ∧ Kep (fun k => k = nb ∨ k = ib ∨ k = cb ∨ k = lb ∨ k = lib ∨ k = lcb) w w7) := ⟨⟨H9.out.1.node.kep k7 HN.out.2.2.2.2.2.2.2.2.2.1, hr7, H9.out.1.kid.kep k7 (Ne.symm HN.out.2.2.2.2.2.2.2.2.2.2.2.2.2.2.2.2.2.2.2.2.2.2.2.2.2.2.2.1)⟩, H9.out.2.1.kep k7 HN.out.2.2.2.2.2.2.2.2.2.2.2.2.2.2.2.1 (Ne.symm HN.out.2.2.2.1) (Ne.symm HN.out.2.2.2.2.2.2.2.2.2.2.2.2.2.2.2.2.2.2.2.2.2.2.2.2.2.2.2.2.1), H9.out.2.2.1.kep k7 HN.out.2.2.2.2.2.2.2.2.2.2.2.2.2.2.2.2.2.2.2.2.2.1 (Ne.symm HN.out.2.2.2.2.1) (Ne.symm HN.out.2.2.2.2.2.2.2.2.2.2.2.2.2.2.2.2.2.2.2.2.2.2.2.2.2.2.2.2.2.1), H9.out.2.2.2.trans k7 (fun j hj e => by simp [e])⟩
      have n0 := H10.out.1.c0
      have f0 := H10.out.1.node.frozen 0
      clear H9 hr7 k7
      go_upto_region 6 with fail
      have H11 : Hid (NodeR (w7.setCell ⟨nb, 0, none⟩ (.slice (some ⟨ib, 0, none⟩) (ns - 1) 63)) nb ib cb (ns - 1) nk (S1 ++ S2 ++ .pointer none :: rS) (K1 ++ .pointer (some ⟨lb, 0, none⟩) :: .pointer (some ⟨rb, 0, none⟩) :: K2 ++ rK) ∧ NodeR (w7.setCell ⟨nb, 0, none⟩ (.slice (some ⟨ib, 0, none⟩) (ns - 1) 63)) lb lib lcb (nl + 1 + nr) (ml + mr) (P ++ .pointer sv :: Q ++ R2) (KP ++ KQ ++ V2) ∧ NodeR (w7.setCell ⟨nb, 0, none⟩ (.slice (some ⟨ib, 0, none⟩) (ns - 1) 63)) rb rib rcb nr mr (Q ++ T) (KQ ++ U) ∧ Kep (fun k => k = nb ∨ k = ib ∨ k = cb ∨ k = lb ∨ k = lib ∨ k = lcb) w (w7.setCell ⟨nb, 0, none⟩ (.slice (some ⟨ib, 0, none⟩) (ns - 1) 63))) := ⟨H10.out.1.set0 _, H10.out.2.1.kep (kep_set _ _ _ _) (Ne.symm HN.out.1) (Ne.symm HN.out.2.2.2.2.2.2.2.2.2.2.1) (Ne.symm HN.out.2.2.2.2.2.2.2.2.2.2.2.2.2.1), H10.out.2.2.1.kep (kep_set _ _ _ _) (Ne.symm HN.out.2.1) (Ne.symm HN.out.2.2.2.2.2.2.2.2.2.2.2.1) (Ne.symm HN.out.2.2.2.2.2.2.2.2.2.2.2.2.2.2.1), H10.out.2.2.2.trans (kep_set _ _ _ _) (fun j hj e => by simp [e])⟩
      clear H10 f0 n0
      generalize w7.setCell ⟨nb, 0, none⟩ (.slice (some ⟨ib, 0, none⟩) (ns - 1) 63) = w8 at *
      have n1 := H11.out.1.c1
      go_wp2_with fail
      have hd := delete44 (i := i + 1) (n := nk) (c := 64) (A := K1 ++ [.pointer (some ⟨lb, 0, none⟩)]) (B := K2) (x := .pointer (some ⟨rb, 0, none⟩)) (rest := rK) (by have := H11.out.1.kid; simpa using this) (by have := HE.out.2.2.2.2.1; simp; omega) (by have := HE.out.2.2.1; simp; omega) HE.out.2.2.2.1 (by omega) HO.out.2.1
      have e2 : ((i + 1 : Nat) : Int) + 1 = (i : Int) + 2 := by omega
      have e1 : ((i + 1 : Nat) : Int) = (i : Int) + 1 := by omega
      rw [e2, e1] at hd
      clear e1 e2
      refine hd.mono ?_
      clear hd
      rintro e w9 ⟨rfl, hr9, k9⟩
      have H12 : Hid (NodeR w9 nb ib cb (ns - 1) nk (S1 ++ S2 ++ .pointer none :: rS) (K1 ++ .pointer (some ⟨lb, 0, none⟩) :: K2 ++ .pointer none :: rK) ∧ NodeR w9 lb lib lcb (nl + 1 + nr) (ml + mr) (P ++ .pointer sv :: Q ++ R2) (KP ++ KQ ++ V2) ∧ NodeR w9 rb rib rcb nr mr (Q ++ T) (KQ ++ U) ∧ Kep (fun k => k = nb ∨ k = ib ∨ k = cb ∨ k = lb ∨ k = lib ∨ k = lcb) w w9) := ⟨⟨H11.out.1.node.kep k9 HN.out.2.2.2.2.2.2.2.2.2.2.2.2.1, H11.out.1.row.kep k9 HN.out.2.2.2.2.2.2.2.2.2.2.2.2.2.2.2.2.2.2.2.2.2.2.2.2.2.2.2.1, by simpa using hr9⟩, H11.out.2.1.kep k9 HN.out.2.2.2.2.2.2.2.2.2.2.2.2.2.2.2.2.2.2.1 HN.out.2.2.2.2.2.2.2.2.2.2.2.2.2.2.2.2.2.2.2.2.2.2.2.2.2.2.2.2.2.2.1 (Ne.symm HN.out.2.2.2.2.2.2.1), H11.out.2.2.1.kep k9 HN.out.2.2.2.2.2.2.2.2.2.2.2.2.2.2.2.2.2.2.2.2.2.2.2.2.1 HN.out.2.2.2.2.2.2.2.2.2.2.2.2.2.2.2.2.2.2.2.2.2.2.2.2.2.2.2.2.2.2.2.2.2.1 (Ne.symm HN.out.2.2.2.2.2.2.2.1), H11.out.2.2.2.trans k9 (fun j hj e => by simp [e])⟩
      have n1 := H12.out.1.c1
      have f1 := H12.out.1.node.frozen 1
      clear H11 hr9 k9
      go_wp2_with fail
      go_end0
      have H13 : Hid (NodeR (w9.setCell ⟨nb, 1, none⟩ (.slice (some ⟨cb, 0, none⟩) (nk - 1) 64)) nb ib cb (ns - 1) (nk - 1) (S1 ++ S2 ++ .pointer none :: rS) (K1 ++ .pointer (some ⟨lb, 0, none⟩) :: K2 ++ .pointer none :: rK) ∧ NodeR (w9.setCell ⟨nb, 1, none⟩ (.slice (some ⟨cb, 0, none⟩) (nk - 1) 64)) lb lib lcb (nl + 1 + nr) (ml + mr) (P ++ .pointer sv :: Q ++ R2) (KP ++ KQ ++ V2) ∧ NodeR (w9.setCell ⟨nb, 1, none⟩ (.slice (some ⟨cb, 0, none⟩) (nk - 1) 64)) rb rib rcb nr mr (Q ++ T) (KQ ++ U) ∧ Kep (fun k => k = nb ∨ k = ib ∨ k = cb ∨ k = lb ∨ k = lib ∨ k = lcb) w (w9.setCell ⟨nb, 1, none⟩ (.slice (some ⟨cb, 0, none⟩) (nk - 1) 64))) := ⟨H12.out.1.set1 _, H12.out.2.1.kep (kep_set _ _ _ _) (Ne.symm HN.out.1) (Ne.symm HN.out.2.2.2.2.2.2.2.2.2.2.1) (Ne.symm HN.out.2.2.2.2.2.2.2.2.2.2.2.2.2.1), H12.out.2.2.1.kep (kep_set _ _ _ _) (Ne.symm HN.out.2.1) (Ne.symm HN.out.2.2.2.2.2.2.2.2.2.2.2.1) (Ne.symm HN.out.2.2.2.2.2.2.2.2.2.2.2.2.2.2.1), H12.out.2.2.2.trans (kep_set _ _ _ _) (fun j hj e => by simp [e])⟩
      exact ⟨rfl, H13.out⟩
end Go.Proofs.Qxb6615764a
