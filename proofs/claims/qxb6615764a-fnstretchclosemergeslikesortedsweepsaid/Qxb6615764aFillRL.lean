/-
  The walk of fill (36): a neighbour gives one.
-/
import Derived.Test.Qxb6615764aFillLL
import Derived.Deep.CutRange
namespace Go.Proofs.Qxb6615764a
open Go.RowKit Go.Lib
set_option linter.unusedVariables false
set_option linter.unusedSimpArgs false

set_option maxHeartbeats 4000000 in
set_option maxRecDepth 100000 in
theorem fill_rl {w : World} {tv : Value} {nb ib cb i ns nk zc zl nl nc rb rib xb xib : Nat} {S1 S2 rS K1 K2 rK : List Value} {P R Q T : List Value} {sv q0 : Value} {p0 p1 : Option Addr}
    (hN : NodeR w nb ib cb ns nk (S1 ++ sv :: S2 ++ rS) (K1 ++ .pointer (some ⟨xb, 0, none⟩) :: .pointer (some ⟨rb, 0, none⟩) :: K2 ++ rK)) (hL : LeafR w rb rib nl (.pointer p0 :: .pointer p1 :: P ++ R)) (hC : LeafR w xb xib nc (Q ++ q0 :: T))
    (hns : ns = S1.length + 1 + S2.length) (hS63 : 63 = ns + rS.length) (hnk : nk = K1.length + 2 + K2.length) (hK64 : 64 = nk + rK.length) (hi : i = K1.length) (hjS : i = S1.length) (hnl : nl = P.length + 2) (hl64 : 64 = nl + R.length) (hnc : nc = Q.length) (hc64 : 64 = nc + 1 + T.length)
    (hP1 : ∀ u ∈ P, u.oneCell' = true) (hnbrb : nb ≠ rb) (hnbxb : nb ≠ xb) (hrbxb : rb ≠ xb) (hibrib : ib ≠ rib) (hibxib : ib ≠ xib) (hribxib : rib ≠ xib) (hsc : SizeIs w xb zc) (hzc : (zc : Int) ≤ 32) (hsl : SizeIs w rb zl) (hzl : (32 : Int) < (zl : Int)) (hleft : (i : Int) = 0 ∨ ∃ j y zy : Nat, (i : Int) - 1 = (j : Int) ∧ K1[j]? = some (.pointer (some ⟨y, 0, none⟩)) ∧ SizeIs w y zy ∧ (zy : Int) ≤ 32) :
    Calls Try.prog 36 #[tv, .pointer (some ⟨nb, 0, none⟩), .int .i64 (i : Int)] w fun e w' => e = .returned (.int .i64 (i : Int)) ∧ NodeR w' nb ib cb ns nk (S1 ++ .pointer p1 :: S2 ++ rS) (K1 ++ .pointer (some ⟨xb, 0, none⟩) :: .pointer (some ⟨rb, 0, none⟩) :: K2 ++ rK) ∧ LeafR w' rb rib (nl - 1) (.pointer p1 :: P ++ .pointer none :: R) ∧ LeafR w' xb xib (nc + 1) (Q ++ .pointer p0 :: T) ∧ Kep (fun k => k = ib ∨ k = rb ∨ k = rib ∨ k = xb ∨ k = xib) w w' := by
  have n1 := hN.c1
  have l0 := hL.c0
  have c1 := hC.c1
  have hik : (i : Int) < (nk : Int) := by omega
  have hi64 : (i : Int) ≤ 64 := by omega
  have hki : w.cell? ⟨cb, i, none⟩ = some (.pointer (some ⟨xb, 0, none⟩)) := by rw [hN.kid.cell, hi]; simp
  have hkj : w.cell? ⟨cb, i + 1, none⟩ = some (.pointer (some ⟨rb, 0, none⟩)) := by rw [hN.kid.cell, hi]; simp [List.getElem?_append_right]
  have hik1 : (i : Int) + 1 < (nk : Int) := by omega
  have his : (i : Int) < (ns : Int) := by omega
  have hnl0 : (0 : Int) < (nl : Int) := by omega
  have hnl1 : (1 : Int) < (nl : Int) := by omega
  have HK : Hid ((i : Int) = 0 ∨ ∃ j y zy : Nat, (i : Int) - 1 = (j : Int) ∧ w.cell? ⟨cb, j, none⟩ = some (.pointer (some ⟨y, 0, none⟩)) ∧ SizeIs w y zy ∧ (zy : Int) ≤ 32) := hleft.imp id fun ⟨j, y, zy, h1, h2, h3⟩ => ⟨j, y, zy, h1, by rw [hN.kid.cell, List.append_assoc, List.getElem?_append_left (List.getElem?_eq_some_iff.1 h2).1]; exact h2, h3⟩
  have hzc' : ¬ (32 : Int) < (zc : Int) := by omega
  have H0 : Hid (NodeR w nb ib cb ns nk (S1 ++ sv :: S2 ++ rS) (K1 ++ .pointer (some ⟨xb, 0, none⟩) :: .pointer (some ⟨rb, 0, none⟩) :: K2 ++ rK) ∧ LeafR w rb rib nl (.pointer p0 :: .pointer p1 :: P ++ R) ∧ LeafR w xb xib nc (Q ++ q0 :: T) ∧ Kep (fun k => k = ib ∨ k = rb ∨ k = rib ∨ k = xb ∨ k = xib) w w) := ⟨hN, hL, hC, Kep.refl _ _⟩
  have HE : Hid (ns = S1.length + 1 + S2.length ∧ 63 = ns + rS.length ∧ nk = K1.length + 2 + K2.length ∧ 64 = nk + rK.length ∧ i = K1.length ∧ i = S1.length ∧ nl = P.length + 2 ∧ 64 = nl + R.length ∧ nc = Q.length ∧ 64 = nc + 1 + T.length) := ⟨hns, hS63, hnk, hK64, hi, hjS, hnl, hl64, hnc, hc64⟩
  have HO : Hid ((∀ u ∈ P, u.oneCell' = true)) := hP1
  have HN : Hid (nb ≠ rb ∧ nb ≠ xb ∧ rb ≠ xb ∧ ib ≠ rib ∧ ib ≠ xib ∧ rib ≠ xib ∧ nb ≠ ib ∧ nb ≠ rib ∧ nb ≠ xib ∧ nb ≠ cb ∧ rb ≠ ib ∧ rb ≠ rib ∧ rb ≠ xib ∧ rb ≠ cb ∧ xb ≠ ib ∧ xb ≠ rib ∧ xb ≠ xib ∧ xb ≠ cb ∧ ib ≠ cb ∧ rib ≠ cb ∧ xib ≠ cb) := ⟨hnbrb, hnbxb, hrbxb, hibrib, hibxib, hribxib, row_ne hN.node hN.row (by decide), row_ne hN.node hL.row (by decide), row_ne hN.node hC.row (by decide), row_ne hN.node hN.kid (by decide), row_ne hL.node hN.row (by decide), row_ne hL.node hL.row (by decide), row_ne hL.node hC.row (by decide), row_ne hL.node hN.kid (by decide), row_ne hC.node hN.row (by decide), row_ne hC.node hL.row (by decide), row_ne hC.node hC.row (by decide), row_ne hC.node hN.kid (by decide), row_ne hN.row hN.kid (by decide), row_ne hL.row hN.kid (by decide), row_ne hC.row hN.kid (by decide)⟩
  have HZ : Hid (SizeIs w xb zc ∧ SizeIs w rb zl) := ⟨hsc, hsl⟩
  clear hN hL hC hns hS63 hnk hK64 hi hjS hnl hl64 hnc hc64 hP1 hnbrb hnbxb hrbxb hibrib hibxib hribxib hsc hsl hzc hleft
  go_enter Try.func36, Try.ntmps36
  go_wp2_with fail
  refine HZ.out.1.mono ?_
  rintro e w' ⟨rfl, hw⟩
  obtain rfl := hw.symm
  clear hw
  go_upto_region 5 with fail
  go_cut [26] from 27 to 40 (fun s26 wd => s26 = .bool false ∧ wd = w)
  case first =>
    rcases HK.out with hi0 | ⟨j, y, zy, hij, hyc, hys, hzy⟩
    · clear HK
      go_wp2_with fail
      go_meet
      case rel => exact ⟨by simp, rfl⟩
    · have hi0 : (0 : Int) < (i : Int) := by omega
      have hjk : (j : Int) < (nk : Int) := by omega
      have hjw : IntKind.i64.wrap (j : Int) = (j : Int) := by rw [IntKind.wrap_i64]; omega
      have hzy' : ¬ (32 : Int) < (zy : Int) := by omega
      have HY : Hid (SizeIs w y zy) := hys
      clear HK hys
      go_wp2_with fail
      refine HY.out.mono ?_
      rintro e w' ⟨rfl, hw⟩
      obtain rfl := hw.symm
      clear hw
      go_wp2_with fail
      go_meet
      case rel => exact ⟨by simp [hzy'], rfl⟩
  case rest =>
    obtain ⟨rfl, hww⟩ := hcut
    obtain rfl := hww.symm
    clear HK hww
    go_wp2_with fail
    refine HZ.out.2.mono ?_
    rintro e w' ⟨rfl, hw⟩
    obtain rfl := hw.symm
    clear hw
    go_upto_region 19 with fail
    clear l0 c1 n1 hki hkj
    refine wp_region_G (fun w' => w'.cell? ⟨xb, 0, none⟩ = some (.slice (some ⟨xib, 0, none⟩) nc 64) ∧ w'.cell? ⟨rb, 0, none⟩ = some (.slice (some ⟨rib, 0, none⟩) nl 64) ∧ w'.cell? ⟨rib, 0, none⟩ = some (.pointer p0)) (fun _ => True) [15] (by kernel_rfl) ?_
    have H1 : Hid (NodeR (w.drew) nb ib cb ns nk (S1 ++ sv :: S2 ++ rS) (K1 ++ .pointer (some ⟨xb, 0, none⟩) :: .pointer (some ⟨rb, 0, none⟩) :: K2 ++ rK) ∧ LeafR (w.drew) rb rib nl (.pointer p0 :: .pointer p1 :: P ++ R) ∧ LeafR (w.drew) xb xib nc (Q ++ q0 :: T) ∧ Kep (fun k => k = ib ∨ k = rb ∨ k = rib ∨ k = xb ∨ k = xib) w (w.drew)) := ⟨H0.out.1.kep ((Kep.refl (fun _ => False) w).drew) id id id, H0.out.2.1.kep ((Kep.refl (fun _ => False) w).drew) id id, H0.out.2.2.1.kep ((Kep.refl (fun _ => False) w).drew) id id, H0.out.2.2.2.trans ((Kep.refl (fun _ => False) w).drew) (fun _ _ h => h.elim)⟩
    clear H0
    generalize w.drew = w2 at *
    have HA : Hid (w2.cell? ⟨xb, 0, none⟩ = some (.slice (some ⟨xib, 0, none⟩) nc 64) ∧ w2.cell? ⟨rb, 0, none⟩ = some (.slice (some ⟨rib, 0, none⟩) nl 64) ∧ w2.cell? ⟨rib, 0, none⟩ = some (.pointer p0)) := ⟨H1.out.2.2.1.c0, H1.out.2.1.c0, by rw [H1.out.2.1.row.cell]; rfl⟩
    refine takeB (i := 0) (v := .pointer (some ⟨xb, 0, none⟩)) (d := 205) (listed' := #[true, false, false, false, false, false, false, false, false, false, false, false, false, false, false, false]) rfl rfl (by kernel_rfl) (by kernel_rfl) (by kernel_rfl) (by kernel_rfl) (by kernel_rfl) rfl (fun _ _ _ h => h) (fun _ => HA.out) trivial (fun w' _ => ex_move (x := .tmp 7) (v := .pointer (some ⟨xb, 0, none⟩)) rfl (by kernel_rfl)) ?_
    dsimp only [List.set_cons_zero, List.set_cons_succ]
    refine takeB (i := 1) (v := .pointer (some ⟨xb, 0, none⟩)) (d := 206) (listed' := #[true, true, false, false, false, false, false, false, false, false, false, false, false, false, false, false]) rfl rfl (by kernel_rfl) (by kernel_rfl) (by kernel_rfl) (by kernel_rfl) (by kernel_rfl) rfl (fun _ _ _ h => h) (fun _ => HA.out) trivial (fun w' _ => ex_move (x := .tmp 7) (v := .pointer (some ⟨xb, 0, none⟩)) rfl (by kernel_rfl)) ?_
    dsimp only [List.set_cons_zero, List.set_cons_succ]
    refine takeB (i := 2) (v := .pointer (some ⟨xb, 0, none⟩)) (d := 207) (listed' := #[true, true, true, false, false, false, false, false, false, false, false, false, false, false, false, false]) rfl rfl (by kernel_rfl) (by kernel_rfl) (by kernel_rfl) (by kernel_rfl) (by kernel_rfl) rfl (fun _ _ _ h => h) (fun _ => HA.out) trivial (fun w' _ => ex_nil (x := .tmp 206) (a := ⟨xb, 0, none⟩) rfl (by kernel_rfl)) ?_
    dsimp only [List.set_cons_zero, List.set_cons_succ]
    refine takeB (i := 3) (v := .pointer (some ⟨xb, 0, none⟩)) (d := 208) (listed' := #[true, true, true, true, false, false, false, false, false, false, false, false, false, false, false, false]) rfl rfl (by kernel_rfl) (by kernel_rfl) (by kernel_rfl) (by kernel_rfl) (by kernel_rfl) rfl (fun _ _ _ h => h) (fun _ => HA.out) trivial (fun w' _ => ex_f62_0 (b := xb) (x := .tmp 207) rfl (by kernel_rfl)) ?_
    dsimp only [List.set_cons_zero, List.set_cons_succ]
    refine takeA (i := 4) (v := .slice (some ⟨xib, 0, none⟩) nc 64) (d := 209) (listed' := #[true, true, true, true, true, false, false, false, false, false, false, false, false, false, false, false]) rfl rfl (by kernel_rfl) (by kernel_rfl) (by kernel_rfl) (by kernel_rfl) (by kernel_rfl) rfl (fun _ _ _ h => h) HA.out trivial (fun w' hSw => ex_load59 (x := .tmp 208) (a := ⟨xb, 0, none⟩) rfl (by kernel_rfl) hSw.1.1) ?_
    dsimp only [List.set_cons_zero, List.set_cons_succ]
    refine takeB (i := 5) (v := .pointer (some ⟨rb, 0, none⟩)) (d := 210) (listed' := #[true, true, true, true, true, true, false, false, false, false, false, false, false, false, false, false]) rfl rfl (by kernel_rfl) (by kernel_rfl) (by kernel_rfl) (by kernel_rfl) (by kernel_rfl) rfl (fun _ _ _ h => h) (fun _ => HA.out) trivial (fun w' _ => ex_move (x := .tmp 10) (v := .pointer (some ⟨rb, 0, none⟩)) rfl (by kernel_rfl)) ?_
    dsimp only [List.set_cons_zero, List.set_cons_succ]
    refine takeB (i := 6) (v := .pointer (some ⟨rb, 0, none⟩)) (d := 211) (listed' := #[true, true, true, true, true, true, true, false, false, false, false, false, false, false, false, false]) rfl rfl (by kernel_rfl) (by kernel_rfl) (by kernel_rfl) (by kernel_rfl) (by kernel_rfl) rfl (fun _ _ _ h => h) (fun _ => HA.out) trivial (fun w' _ => ex_nil (x := .tmp 210) (a := ⟨rb, 0, none⟩) rfl (by kernel_rfl)) ?_
    dsimp only [List.set_cons_zero, List.set_cons_succ]
    refine takeB (i := 7) (v := .pointer (some ⟨rb, 0, none⟩)) (d := 212) (listed' := #[true, true, true, true, true, true, true, true, false, false, false, false, false, false, false, false]) rfl rfl (by kernel_rfl) (by kernel_rfl) (by kernel_rfl) (by kernel_rfl) (by kernel_rfl) rfl (fun _ _ _ h => h) (fun _ => HA.out) trivial (fun w' _ => ex_f62_0 (b := rb) (x := .tmp 211) rfl (by kernel_rfl)) ?_
    dsimp only [List.set_cons_zero, List.set_cons_succ]
    refine takeA (i := 8) (v := .slice (some ⟨rib, 0, none⟩) nl 64) (d := 213) (listed' := #[true, true, true, true, true, true, true, true, true, false, false, false, false, false, false, false]) rfl rfl (by kernel_rfl) (by kernel_rfl) (by kernel_rfl) (by kernel_rfl) (by kernel_rfl) rfl (fun _ _ _ h => h) HA.out trivial (fun w' hSw => ex_load59 (x := .tmp 212) (a := ⟨rb, 0, none⟩) rfl (by kernel_rfl) hSw.1.2.1) ?_
    dsimp only [List.set_cons_zero, List.set_cons_succ]
    refine takeB (i := 9) (v := .pointer (some ⟨rib, 0, none⟩)) (d := 214) (listed' := #[true, true, true, true, true, true, true, true, true, true, false, false, false, false, false, false]) rfl rfl (by kernel_rfl) (by kernel_rfl) (by kernel_rfl) (by kernel_rfl) (by kernel_rfl) rfl (fun _ _ _ h => h) (fun _ => HA.out) trivial (fun w' _ => ex_index59 (b := rib) (n := nl) (c := 64) (x := .tmp 213) (y := .const (.int .i64 0)) (k := 0) rfl (by kernel_rfl) (by kernel_rfl) (by first | assumption | omega)) ?_
    dsimp only [List.set_cons_zero, List.set_cons_succ]
    refine takeA (i := 10) (v := .pointer p0) (d := 215) (listed' := #[true, true, true, true, true, true, true, true, true, true, true, false, false, false, false, false]) rfl rfl (by kernel_rfl) (by kernel_rfl) (by kernel_rfl) (by kernel_rfl) (by kernel_rfl) rfl (fun _ _ _ h => h) HA.out trivial (fun w' hSw => ex_load46 (x := .tmp 214) (a := ⟨rib, 0, none⟩) rfl (by kernel_rfl) hSw.1.2.2) ?_
    dsimp only [List.set_cons_zero, List.set_cons_succ]
    refine wpAnyG_step (i := 11) (by kernel_rfl) rfl (fun K hK => ?_)
    go_simp
    have k2 : Kep (fun _ => False) w2 (w2.alloc (.cells #[.pointer p0] 46)) := (Kep.refl _ _).alloc _
    have hv : RowB (w2.alloc (.cells #[.pointer p0] 46)) w2.heap.size 46 [.pointer p0] := row_new w2 46 [.pointer p0]
    have hvl : w2.heap.size ≠ xib := Nat.ne_of_gt H1.out.2.2.1.row.lt
    have H2 : Hid (NodeR (w2.alloc (.cells #[.pointer p0] 46)) nb ib cb ns nk (S1 ++ sv :: S2 ++ rS) (K1 ++ .pointer (some ⟨xb, 0, none⟩) :: .pointer (some ⟨rb, 0, none⟩) :: K2 ++ rK) ∧ LeafR (w2.alloc (.cells #[.pointer p0] 46)) rb rib nl (.pointer p0 :: .pointer p1 :: P ++ R) ∧ LeafR (w2.alloc (.cells #[.pointer p0] 46)) xb xib nc (Q ++ q0 :: T) ∧ Kep (fun k => k = ib ∨ k = rb ∨ k = rib ∨ k = xb ∨ k = xib) w (w2.alloc (.cells #[.pointer p0] 46))) := ⟨H1.out.1.kep k2 id id id, H1.out.2.1.kep k2 id id, H1.out.2.2.1.kep k2 id id, H1.out.2.2.2.trans k2 (fun _ _ h => h.elim)⟩
    refine hK.out _ _ trivial (fun _ => ⟨H2.out.2.2.1.c0, H2.out.2.1.c0, by rw [H2.out.2.1.row.cell]; rfl⟩) ?_
    clear hK k2 H1 HA
    generalize w2.heap.size = vb at *
    generalize w2.alloc (.cells #[.pointer p0] 46) = w3 at *
    try simp only [Act.put, List.getElem_toArray, List.getElem_cons_succ, List.getElem_cons_zero, List.setIfInBounds_toArray, List.set_cons_zero, List.set_cons_succ]
    have ap : ∀ ty, (Builtin.append_ #[59, 59] ty #[.slice (some ⟨xib, 0, none⟩) nc 64, .slice (some ⟨vb, 0, none⟩) 1 1]).run Try.prog w3 = .ok (.slice (some ⟨xib, 0, none⟩) (nc + 1) 64) (w3.setCells xib nc [.pointer p0]) ∧ RowB (w3.setCells xib nc [.pointer p0]) xib 46 (Q ++ [.pointer p0] ++ T) ∧ Kep (fun k => k = xib) w3 (w3.setCells xib nc [.pointer p0]) := fun ty =>
      append59 (X := Q) (R1 := [q0]) (R2 := T) (A := []) (news := [.pointer p0]) (A2 := []) (by have := H2.out.2.2.1.row; simpa using this) HE.out.2.2.2.2.2.2.2.2.1 (by have := HE.out; first | omega | (simp; omega)) rfl rfl hv rfl (fun u hu => by simp at hu; subst hu; rfl) ty 1
    refine wpAnyG_step (i := 12) (by kernel_rfl) rfl (fun K hK => ?_)
    refine step_append_runI rfl (.tmp 209) (.tmp 216) 59 rfl _ _ rfl rfl (ap _).1 ?_
    have k4 := (ap 0).2.2
    have hr4 := (ap 0).2.1
    have H3 : Hid (NodeR (w3.setCells xib nc [.pointer p0]) nb ib cb ns nk (S1 ++ sv :: S2 ++ rS) (K1 ++ .pointer (some ⟨xb, 0, none⟩) :: .pointer (some ⟨rb, 0, none⟩) :: K2 ++ rK) ∧ LeafR (w3.setCells xib nc [.pointer p0]) rb rib nl (.pointer p0 :: .pointer p1 :: P ++ R) ∧ LeafR (w3.setCells xib nc [.pointer p0]) xb xib nc (Q ++ .pointer p0 :: T) ∧ Kep (fun k => k = ib ∨ k = rb ∨ k = rib ∨ k = xb ∨ k = xib) w (w3.setCells xib nc [.pointer p0])) := ⟨H2.out.1.kep k4 HN.out.2.2.2.2.2.2.2.2.1 HN.out.2.2.2.2.1 (Ne.symm HN.out.2.2.2.2.2.2.2.2.2.2.2.2.2.2.2.2.2.2.2.2), H2.out.2.1.kep k4 HN.out.2.2.2.2.2.2.2.2.2.2.2.2.1 HN.out.2.2.2.2.2.1, ⟨H2.out.2.2.1.node.kep k4 HN.out.2.2.2.2.2.2.2.2.2.2.2.2.2.2.2.2.1, by simpa using hr4⟩, H2.out.2.2.2.trans k4 (fun j hj e => by simp [e])⟩
    refine hK.out _ _ trivial (fun _ => ⟨H3.out.2.2.1.c0, H3.out.2.1.c0, by rw [H3.out.2.1.row.cell]; rfl⟩) ?_
    clear hK hr4 k4 hv hvl ap H2
    generalize w3.setCells xib nc [.pointer p0] = w4 at *
    try simp only [Act.put, List.getElem_toArray, List.getElem_cons_succ, List.getElem_cons_zero, List.setIfInBounds_toArray, List.set_cons_zero, List.set_cons_succ]
    have HA : Hid (w4.cell? ⟨xb, 0, none⟩ = some (.slice (some ⟨xib, 0, none⟩) nc 64) ∧ w4.cell? ⟨rb, 0, none⟩ = some (.slice (some ⟨rib, 0, none⟩) nl 64) ∧ w4.cell? ⟨rib, 0, none⟩ = some (.pointer p0)) := ⟨H3.out.2.2.1.c0, H3.out.2.1.c0, by rw [H3.out.2.1.row.cell]; rfl⟩
    refine takeB (i := 13) (v := .pointer (some ⟨xb, 0, none⟩)) (d := 218) (listed' := #[true, true, true, true, true, true, true, true, true, true, true, true, true, true, false, false]) rfl rfl (by kernel_rfl) (by kernel_rfl) (by kernel_rfl) (by kernel_rfl) (by kernel_rfl) rfl (fun _ _ _ h => h) (fun _ => HA.out) trivial (fun w' _ => ex_nil (x := .tmp 205) (a := ⟨xb, 0, none⟩) rfl (by kernel_rfl)) ?_
    dsimp only [List.set_cons_zero, List.set_cons_succ]
    refine takeB (i := 14) (v := .pointer (some ⟨xb, 0, none⟩)) (d := 219) (listed' := #[true, true, true, true, true, true, true, true, true, true, true, true, true, true, true, false]) rfl rfl (by kernel_rfl) (by kernel_rfl) (by kernel_rfl) (by kernel_rfl) (by kernel_rfl) rfl (fun _ _ _ h => h) (fun _ => HA.out) trivial (fun w' _ => ex_f62_0 (b := xb) (x := .tmp 218) rfl (by kernel_rfl)) ?_
    dsimp only [List.set_cons_zero, List.set_cons_succ]
    have c0 := H3.out.2.2.1.c0
    have f0 := H3.out.2.2.1.node.frozen 0
    refine wpAnyG_step (i := 15) (by kernel_rfl) rfl (fun K hK => ?_)
    go_simp
    refine hK.out _ _ trivial (fun h => not_early (by kernel_rfl) h) ?_
    clear hK c0 f0 HA
    have H4 : Hid (NodeR (w4.setCell ⟨xb, 0, none⟩ (.slice (some ⟨xib, 0, none⟩) (nc + 1) 64)) nb ib cb ns nk (S1 ++ sv :: S2 ++ rS) (K1 ++ .pointer (some ⟨xb, 0, none⟩) :: .pointer (some ⟨rb, 0, none⟩) :: K2 ++ rK) ∧ LeafR (w4.setCell ⟨xb, 0, none⟩ (.slice (some ⟨xib, 0, none⟩) (nc + 1) 64)) rb rib nl (.pointer p0 :: .pointer p1 :: P ++ R) ∧ LeafR (w4.setCell ⟨xb, 0, none⟩ (.slice (some ⟨xib, 0, none⟩) (nc + 1) 64)) xb xib (nc + 1) (Q ++ .pointer p0 :: T) ∧ Kep (fun k => k = ib ∨ k = rb ∨ k = rib ∨ k = xb ∨ k = xib) w (w4.setCell ⟨xb, 0, none⟩ (.slice (some ⟨xib, 0, none⟩) (nc + 1) 64))) := ⟨H3.out.1.kep (kep_set _ _ _ _) HN.out.2.1 (Ne.symm HN.out.2.2.2.2.2.2.2.2.2.2.2.2.2.2.1) (Ne.symm HN.out.2.2.2.2.2.2.2.2.2.2.2.2.2.2.2.2.2.1), H3.out.2.1.kep (kep_set _ _ _ _) HN.out.2.2.1 (Ne.symm HN.out.2.2.2.2.2.2.2.2.2.2.2.2.2.2.2.1), H3.out.2.2.1.set0 _, H3.out.2.2.2.trans (kep_set _ _ _ _) (fun j hj e => by simp [e])⟩
    clear H3
    generalize w4.setCell ⟨xb, 0, none⟩ (.slice (some ⟨xib, 0, none⟩) (nc + 1) 64) = w5 at *
    try simp only [Act.put, List.getElem_toArray, List.getElem_cons_succ, List.getElem_cons_zero, List.setIfInBounds_toArray, List.set_cons_zero, List.set_cons_succ]
    refine wpAnyG_done (by kernel_rfl) ?_ _
    refine NoPanic.normal ?_
    go_upto_region 20 with fail
    refine wp_region_G (fun w' => w'.cell? ⟨nb, 0, none⟩ = some (.slice (some ⟨ib, 0, none⟩) ns 63) ∧ w'.cell? ⟨rb, 0, none⟩ = some (.slice (some ⟨rib, 0, none⟩) nl 64) ∧ w'.cell? ⟨rib, 1, none⟩ = some (.pointer p1)) (fun _ => True) [12] (by kernel_rfl) ?_
    have H5 : Hid (NodeR (w5.drew) nb ib cb ns nk (S1 ++ sv :: S2 ++ rS) (K1 ++ .pointer (some ⟨xb, 0, none⟩) :: .pointer (some ⟨rb, 0, none⟩) :: K2 ++ rK) ∧ LeafR (w5.drew) rb rib nl (.pointer p0 :: .pointer p1 :: P ++ R) ∧ LeafR (w5.drew) xb xib (nc + 1) (Q ++ .pointer p0 :: T) ∧ Kep (fun k => k = ib ∨ k = rb ∨ k = rib ∨ k = xb ∨ k = xib) w (w5.drew)) := ⟨H4.out.1.kep ((Kep.refl (fun _ => False) w5).drew) id id id, H4.out.2.1.kep ((Kep.refl (fun _ => False) w5).drew) id id, H4.out.2.2.1.kep ((Kep.refl (fun _ => False) w5).drew) id id, H4.out.2.2.2.trans ((Kep.refl (fun _ => False) w5).drew) (fun _ _ h => h.elim)⟩
    clear H4
    generalize w5.drew = w6 at *
    have HA : Hid (w6.cell? ⟨nb, 0, none⟩ = some (.slice (some ⟨ib, 0, none⟩) ns 63) ∧ w6.cell? ⟨rb, 0, none⟩ = some (.slice (some ⟨rib, 0, none⟩) nl 64) ∧ w6.cell? ⟨rib, 1, none⟩ = some (.pointer p1)) := ⟨H5.out.1.c0, H5.out.2.1.c0, by rw [H5.out.2.1.row.cell]; rfl⟩
    refine takeB (i := 0) (v := .pointer (some ⟨nb, 0, none⟩)) (d := 220) (listed' := #[true, false, false, false, false, false, false, false, false, false, false, false, false]) rfl rfl (by kernel_rfl) (by kernel_rfl) (by kernel_rfl) (by kernel_rfl) (by kernel_rfl) rfl (fun _ _ _ h => h) (fun _ => HA.out) trivial (fun w' _ => ex_move (x := .tmp 1) (v := .pointer (some ⟨nb, 0, none⟩)) rfl (by kernel_rfl)) ?_
    dsimp only [List.set_cons_zero, List.set_cons_succ]
    refine takeB (i := 1) (v := .pointer (some ⟨nb, 0, none⟩)) (d := 221) (listed' := #[true, true, false, false, false, false, false, false, false, false, false, false, false]) rfl rfl (by kernel_rfl) (by kernel_rfl) (by kernel_rfl) (by kernel_rfl) (by kernel_rfl) rfl (fun _ _ _ h => h) (fun _ => HA.out) trivial (fun w' _ => ex_nil (x := .tmp 220) (a := ⟨nb, 0, none⟩) rfl (by kernel_rfl)) ?_
    dsimp only [List.set_cons_zero, List.set_cons_succ]
    refine takeB (i := 2) (v := .pointer (some ⟨nb, 0, none⟩)) (d := 222) (listed' := #[true, true, true, false, false, false, false, false, false, false, false, false, false]) rfl rfl (by kernel_rfl) (by kernel_rfl) (by kernel_rfl) (by kernel_rfl) (by kernel_rfl) rfl (fun _ _ _ h => h) (fun _ => HA.out) trivial (fun w' _ => ex_f62_0 (b := nb) (x := .tmp 221) rfl (by kernel_rfl)) ?_
    dsimp only [List.set_cons_zero, List.set_cons_succ]
    refine takeA (i := 3) (v := .slice (some ⟨ib, 0, none⟩) ns 63) (d := 223) (listed' := #[true, true, true, true, false, false, false, false, false, false, false, false, false]) rfl rfl (by kernel_rfl) (by kernel_rfl) (by kernel_rfl) (by kernel_rfl) (by kernel_rfl) rfl (fun _ _ _ h => h) HA.out trivial (fun w' hSw => ex_load59 (x := .tmp 222) (a := ⟨nb, 0, none⟩) rfl (by kernel_rfl) hSw.1.1) ?_
    dsimp only [List.set_cons_zero, List.set_cons_succ]
    refine takeB (i := 4) (v := .int .i64 (i : Int)) (d := 224) (listed' := #[true, true, true, true, true, false, false, false, false, false, false, false, false]) rfl rfl (by kernel_rfl) (by kernel_rfl) (by kernel_rfl) (by kernel_rfl) (by kernel_rfl) rfl (fun _ _ _ h => h) (fun _ => HA.out) trivial (fun w' _ => ex_move (x := .tmp 2) (v := .int .i64 (i : Int)) rfl (by kernel_rfl)) ?_
    dsimp only [List.set_cons_zero, List.set_cons_succ]
    refine takeB (i := 5) (v := .pointer (some ⟨rb, 0, none⟩)) (d := 225) (listed' := #[true, true, true, true, true, true, false, false, false, false, false, false, false]) rfl rfl (by kernel_rfl) (by kernel_rfl) (by kernel_rfl) (by kernel_rfl) (by kernel_rfl) rfl (fun _ _ _ h => h) (fun _ => HA.out) trivial (fun w' _ => ex_move (x := .tmp 10) (v := .pointer (some ⟨rb, 0, none⟩)) rfl (by kernel_rfl)) ?_
    dsimp only [List.set_cons_zero, List.set_cons_succ]
    refine takeB (i := 6) (v := .pointer (some ⟨rb, 0, none⟩)) (d := 226) (listed' := #[true, true, true, true, true, true, true, false, false, false, false, false, false]) rfl rfl (by kernel_rfl) (by kernel_rfl) (by kernel_rfl) (by kernel_rfl) (by kernel_rfl) rfl (fun _ _ _ h => h) (fun _ => HA.out) trivial (fun w' _ => ex_nil (x := .tmp 225) (a := ⟨rb, 0, none⟩) rfl (by kernel_rfl)) ?_
    dsimp only [List.set_cons_zero, List.set_cons_succ]
    refine takeB (i := 7) (v := .pointer (some ⟨rb, 0, none⟩)) (d := 227) (listed' := #[true, true, true, true, true, true, true, true, false, false, false, false, false]) rfl rfl (by kernel_rfl) (by kernel_rfl) (by kernel_rfl) (by kernel_rfl) (by kernel_rfl) rfl (fun _ _ _ h => h) (fun _ => HA.out) trivial (fun w' _ => ex_f62_0 (b := rb) (x := .tmp 226) rfl (by kernel_rfl)) ?_
    dsimp only [List.set_cons_zero, List.set_cons_succ]
    refine takeA (i := 8) (v := .slice (some ⟨rib, 0, none⟩) nl 64) (d := 228) (listed' := #[true, true, true, true, true, true, true, true, true, false, false, false, false]) rfl rfl (by kernel_rfl) (by kernel_rfl) (by kernel_rfl) (by kernel_rfl) (by kernel_rfl) rfl (fun _ _ _ h => h) HA.out trivial (fun w' hSw => ex_load59 (x := .tmp 227) (a := ⟨rb, 0, none⟩) rfl (by kernel_rfl) hSw.1.2.1) ?_
    dsimp only [List.set_cons_zero, List.set_cons_succ]
    refine takeB (i := 9) (v := .pointer (some ⟨rib, 1, none⟩)) (d := 229) (listed' := #[true, true, true, true, true, true, true, true, true, true, false, false, false]) rfl rfl (by kernel_rfl) (by kernel_rfl) (by kernel_rfl) (by kernel_rfl) (by kernel_rfl) rfl (fun _ _ _ h => h) (fun _ => HA.out) trivial (fun w' _ => ex_index59 (b := rib) (n := nl) (c := 64) (x := .tmp 228) (y := .const (.int .i64 1)) (k := 1) rfl (by kernel_rfl) (by kernel_rfl) (by first | assumption | omega)) ?_
    dsimp only [List.set_cons_zero, List.set_cons_succ]
    refine takeA (i := 10) (v := .pointer p1) (d := 230) (listed' := #[true, true, true, true, true, true, true, true, true, true, true, false, false]) rfl rfl (by kernel_rfl) (by kernel_rfl) (by kernel_rfl) (by kernel_rfl) (by kernel_rfl) rfl (fun _ _ _ h => h) HA.out trivial (fun w' hSw => ex_load46 (x := .tmp 229) (a := ⟨rib, 1, none⟩) rfl (by kernel_rfl) hSw.1.2.2) ?_
    dsimp only [List.set_cons_zero, List.set_cons_succ]
    refine takeB (i := 11) (v := .pointer (some ⟨ib, i, none⟩)) (d := 231) (listed' := #[true, true, true, true, true, true, true, true, true, true, true, true, false]) rfl rfl (by kernel_rfl) (by kernel_rfl) (by kernel_rfl) (by kernel_rfl) (by kernel_rfl) rfl (fun _ _ _ h => h) (fun _ => HA.out) trivial (fun w' _ => ex_index59 (b := ib) (n := ns) (c := 63) (x := .tmp 223) (y := .tmp 224) (k := i) rfl (by kernel_rfl) (by kernel_rfl) (by first | assumption | omega)) ?_
    dsimp only [List.set_cons_zero, List.set_cons_succ]
    have c0 := (show w6.cell? ⟨ib, i, none⟩ = some (sv) by rw [H5.out.1.row.cell, HE.out.2.2.2.2.2.1]; simp)
    have f0 := H5.out.1.row.frozen i
    refine wpAnyG_step (i := 12) (by kernel_rfl) rfl (fun K hK => ?_)
    go_simp
    refine hK.out _ _ trivial (fun h => not_early (by kernel_rfl) h) ?_
    clear hK c0 f0 HA
    have H6 : Hid (NodeR (w6.setCell ⟨ib, i, none⟩ (.pointer p1)) nb ib cb ns nk (S1 ++ .pointer p1 :: S2 ++ rS) (K1 ++ .pointer (some ⟨xb, 0, none⟩) :: .pointer (some ⟨rb, 0, none⟩) :: K2 ++ rK) ∧ LeafR (w6.setCell ⟨ib, i, none⟩ (.pointer p1)) rb rib nl (.pointer p0 :: .pointer p1 :: P ++ R) ∧ LeafR (w6.setCell ⟨ib, i, none⟩ (.pointer p1)) xb xib (nc + 1) (Q ++ .pointer p0 :: T) ∧ Kep (fun k => k = ib ∨ k = rb ∨ k = rib ∨ k = xb ∨ k = xib) w (w6.setCell ⟨ib, i, none⟩ (.pointer p1))) := ⟨⟨H5.out.1.node.kep (kep_set _ _ _ _) HN.out.2.2.2.2.2.2.1, H5.out.1.row.setSep HE.out.2.2.2.2.2.1, H5.out.1.kid.kep (kep_set _ _ _ _) (Ne.symm HN.out.2.2.2.2.2.2.2.2.2.2.2.2.2.2.2.2.2.2.1)⟩, H5.out.2.1.kep (kep_set _ _ _ _) HN.out.2.2.2.2.2.2.2.2.2.2.1 (Ne.symm HN.out.2.2.2.1), H5.out.2.2.1.kep (kep_set _ _ _ _) HN.out.2.2.2.2.2.2.2.2.2.2.2.2.2.2.1 (Ne.symm HN.out.2.2.2.2.1), H5.out.2.2.2.trans (kep_set _ _ _ _) (fun j hj e => by simp [e])⟩
    clear H5
    generalize w6.setCell ⟨ib, i, none⟩ (.pointer p1) = w7 at *
    try simp only [Act.put, List.getElem_toArray, List.getElem_cons_succ, List.getElem_cons_zero, List.setIfInBounds_toArray, List.set_cons_zero, List.set_cons_succ]
    refine wpAnyG_done (by kernel_rfl) ?_ _
    refine NoPanic.normal ?_
    have l0 := H6.out.2.1.c0
    go_wp2_with fail
    have hdel := delete37 (i := 0) (n := nl) (c := 64) (A := []) (B := .pointer p1 :: P) (x := .pointer p0) (rest := R) (by have := H6.out.2.1.row; simpa using this) rfl (by have := HE.out; first | omega | (simp; omega)) HE.out.2.2.2.2.2.2.2.1 (by omega) (fun u hu => by rcases List.mem_cons.1 hu with rfl | hu; exact rfl; exact HO.out u hu)
    refine Calls.mono hdel ?_
    clear hdel
    rintro e w90 ⟨rfl, hr9, k9⟩
    have H7 : Hid (NodeR w90 nb ib cb ns nk (S1 ++ .pointer p1 :: S2 ++ rS) (K1 ++ .pointer (some ⟨xb, 0, none⟩) :: .pointer (some ⟨rb, 0, none⟩) :: K2 ++ rK) ∧ LeafR w90 rb rib nl (.pointer p1 :: P ++ .pointer none :: R) ∧ LeafR w90 xb xib (nc + 1) (Q ++ .pointer p0 :: T) ∧ Kep (fun k => k = ib ∨ k = rb ∨ k = rib ∨ k = xb ∨ k = xib) w w90) := ⟨H6.out.1.kep k9 HN.out.2.2.2.2.2.2.2.1 HN.out.2.2.2.1 (Ne.symm HN.out.2.2.2.2.2.2.2.2.2.2.2.2.2.2.2.2.2.2.2.1), ⟨H6.out.2.1.node.kep k9 HN.out.2.2.2.2.2.2.2.2.2.2.2.1, by simpa using hr9⟩, H6.out.2.2.1.kep k9 HN.out.2.2.2.2.2.2.2.2.2.2.2.2.2.2.2.1 (Ne.symm HN.out.2.2.2.2.2.1), H6.out.2.2.2.trans k9 (fun j hj e => by simp [e])⟩
    have l0 := H7.out.2.1.c0
    have f0 := H7.out.2.1.node.frozen 0
    clear H6 hr9 k9
    go_wp2
    go_ret
    have H8 : Hid (NodeR (w90.setCell ⟨rb, 0, none⟩ (.slice (some ⟨rib, 0, none⟩) (nl - 1) 64)) nb ib cb ns nk (S1 ++ .pointer p1 :: S2 ++ rS) (K1 ++ .pointer (some ⟨xb, 0, none⟩) :: .pointer (some ⟨rb, 0, none⟩) :: K2 ++ rK) ∧ LeafR (w90.setCell ⟨rb, 0, none⟩ (.slice (some ⟨rib, 0, none⟩) (nl - 1) 64)) rb rib (nl - 1) (.pointer p1 :: P ++ .pointer none :: R) ∧ LeafR (w90.setCell ⟨rb, 0, none⟩ (.slice (some ⟨rib, 0, none⟩) (nl - 1) 64)) xb xib (nc + 1) (Q ++ .pointer p0 :: T) ∧ Kep (fun k => k = ib ∨ k = rb ∨ k = rib ∨ k = xb ∨ k = xib) w (w90.setCell ⟨rb, 0, none⟩ (.slice (some ⟨rib, 0, none⟩) (nl - 1) 64))) := ⟨H7.out.1.kep (kep_set _ _ _ _) HN.out.1 (Ne.symm HN.out.2.2.2.2.2.2.2.2.2.2.1) (Ne.symm HN.out.2.2.2.2.2.2.2.2.2.2.2.2.2.1), H7.out.2.1.set0 _, H7.out.2.2.1.kep (kep_set _ _ _ _) (Ne.symm HN.out.2.2.1) (Ne.symm HN.out.2.2.2.2.2.2.2.2.2.2.2.2.1), H7.out.2.2.2.trans (kep_set _ _ _ _) (fun j hj e => by simp [e])⟩
    exact ⟨rfl, H8.out⟩
end Go.Proofs.Qxb6615764a
