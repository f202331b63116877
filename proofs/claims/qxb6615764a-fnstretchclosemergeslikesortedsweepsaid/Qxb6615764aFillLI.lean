/-
  The walk of fill (36): a neighbour gives one.
-/
import Derived.Test.Qxb6615764aFillLL
import Derived.Deep.CutRange
namespace Go.Proofs.Qxb6615764a
open Go.RowKit Go.Lib
set_option linter.unusedVariables false
set_option linter.unusedSimpArgs false

set_option maxHeartbeats 4000000 in
set_option maxRecDepth 100000 in
theorem fill_li {w : World} {tv : Value} {nb ib cb i j ns nk zc zl m mk nl ml nc mc lb lib lcb xb xib xcb : Nat} {S1 S2 rS K1 K2 rK : List Value} {P R Q T KP KR KQ U : List Value} {q0 u0 : Value} {sv p0 k0 : Option Addr}
    (hN : NodeR w nb ib cb ns nk (S1 ++ .pointer sv :: S2 ++ rS) (K1 ++ .pointer (some ⟨lb, 0, none⟩) :: .pointer (some ⟨xb, 0, none⟩) :: K2 ++ rK)) (hL : NodeR w lb lib lcb nl ml (P ++ .pointer p0 :: R) (KP ++ .pointer k0 :: KR)) (hC : NodeR w xb xib xcb nc mc (Q ++ q0 :: T) (KQ ++ u0 :: U))
    (hns : ns = S1.length + 1 + S2.length) (hS63 : 63 = ns + rS.length) (hnk : nk = K1.length + 2 + K2.length) (hK64 : 64 = nk + rK.length) (hi : i = K1.length + 1) (hjS : j = S1.length) (hjK : j = K1.length) (hm : m = P.length) (hnl : nl = P.length + 1) (hl63 : 63 = nl + R.length) (hnc : nc = Q.length) (hc63 : 63 = nc + 1 + T.length) (hmk : mk = KP.length) (hml : ml = KP.length + 1) (hml64 : 64 = ml + KR.length) (hmc : mc = KQ.length) (hmc64 : 64 = mc + 1 + U.length)
    (hQ1 : ∀ u ∈ Q, u.oneCell' = true) (hKQ1 : ∀ u ∈ KQ, u.oneCell' = true) (hnblb : nb ≠ lb) (hnbxb : nb ≠ xb) (hlbxb : lb ≠ xb) (hiblib : ib ≠ lib) (hibxib : ib ≠ xib) (hlibxib : lib ≠ xib) (hcblcb : cb ≠ lcb) (hcbxcb : cb ≠ xcb) (hlcbxcb : lcb ≠ xcb) (hsc : SizeIs w xb zc) (hzc : (zc : Int) ≤ 32) (hsl : SizeIs w lb zl) (hzl : (32 : Int) < (zl : Int)) :
    Calls Try.prog 36 #[tv, .pointer (some ⟨nb, 0, none⟩), .int .i64 (i : Int)] w fun e w' => e = .returned (.int .i64 (i : Int)) ∧ NodeR w' nb ib cb ns nk (S1 ++ .pointer p0 :: S2 ++ rS) (K1 ++ .pointer (some ⟨lb, 0, none⟩) :: .pointer (some ⟨xb, 0, none⟩) :: K2 ++ rK) ∧ NodeR w' lb lib lcb (nl - 1) (ml - 1) (P ++ .pointer none :: R) (KP ++ .pointer none :: KR) ∧ NodeR w' xb xib xcb (nc + 1) (mc + 1) (.pointer sv :: Q ++ T) (.pointer k0 :: KQ ++ U) ∧ Kep (fun k => k = ib ∨ k = lb ∨ k = lib ∨ k = lcb ∨ k = xb ∨ k = xib ∨ k = xcb) w w' := by
  have n1 := hN.c1
  have l0 := hL.c0
  have c1 := hC.c1
  have hik : (i : Int) < (nk : Int) := by omega
  have hi64 : (i : Int) ≤ 64 := by omega
  have hki : w.cell? ⟨cb, i, none⟩ = some (.pointer (some ⟨xb, 0, none⟩)) := by rw [hN.kid.cell, hi]; simp [List.getElem?_append_right]
  have hkj : w.cell? ⟨cb, j, none⟩ = some (.pointer (some ⟨lb, 0, none⟩)) := by rw [hN.kid.cell, hjK]; simp
  have hij : (i : Int) - 1 = (j : Int) := by omega
  have hi0 : (0 : Int) < (i : Int) := by omega
  have hjk : (j : Int) < (nk : Int) := by omega
  have hjs : (j : Int) < (ns : Int) := by omega
  have hjw : IntKind.i64.wrap (j : Int) = (j : Int) := by rw [IntKind.wrap_i64]; omega
  have hlast : (nl : Int) - 1 = (m : Int) := by omega
  have hml2 : (m : Int) < (nl : Int) := by omega
  have hm64 : (m : Int) ≤ 64 := by omega
  have hnl64 : (nl : Int) ≤ 64 := by omega
  have hlp : w.cell? ⟨lib, m, none⟩ = some (.pointer p0) := by rw [hL.row.cell, hm]; simp
  have hzc' : ¬ (32 : Int) < (zc : Int) := by omega
  have H0 : Hid (NodeR w nb ib cb ns nk (S1 ++ .pointer sv :: S2 ++ rS) (K1 ++ .pointer (some ⟨lb, 0, none⟩) :: .pointer (some ⟨xb, 0, none⟩) :: K2 ++ rK) ∧ NodeR w lb lib lcb nl ml (P ++ .pointer p0 :: R) (KP ++ .pointer k0 :: KR) ∧ NodeR w xb xib xcb nc mc (Q ++ q0 :: T) (KQ ++ u0 :: U) ∧ Kep (fun k => k = ib ∨ k = lb ∨ k = lib ∨ k = lcb ∨ k = xb ∨ k = xib ∨ k = xcb) w w) := ⟨hN, hL, hC, Kep.refl _ _⟩
  have HE : Hid (ns = S1.length + 1 + S2.length ∧ 63 = ns + rS.length ∧ nk = K1.length + 2 + K2.length ∧ 64 = nk + rK.length ∧ i = K1.length + 1 ∧ j = S1.length ∧ j = K1.length ∧ m = P.length ∧ nl = P.length + 1 ∧ 63 = nl + R.length ∧ nc = Q.length ∧ 63 = nc + 1 + T.length ∧ mk = KP.length ∧ ml = KP.length + 1 ∧ 64 = ml + KR.length ∧ mc = KQ.length ∧ 64 = mc + 1 + U.length) := ⟨hns, hS63, hnk, hK64, hi, hjS, hjK, hm, hnl, hl63, hnc, hc63, hmk, hml, hml64, hmc, hmc64⟩
  have HO : Hid ((∀ u ∈ Q, u.oneCell' = true) ∧ (∀ u ∈ KQ, u.oneCell' = true)) := ⟨hQ1, hKQ1⟩
  have HN : Hid (nb ≠ lb ∧ nb ≠ xb ∧ lb ≠ xb ∧ ib ≠ lib ∧ ib ≠ xib ∧ lib ≠ xib ∧ cb ≠ lcb ∧ cb ≠ xcb ∧ lcb ≠ xcb ∧ nb ≠ ib ∧ nb ≠ lib ∧ nb ≠ xib ∧ nb ≠ cb ∧ nb ≠ lcb ∧ nb ≠ xcb ∧ lb ≠ ib ∧ lb ≠ lib ∧ lb ≠ xib ∧ lb ≠ cb ∧ lb ≠ lcb ∧ lb ≠ xcb ∧ xb ≠ ib ∧ xb ≠ lib ∧ xb ≠ xib ∧ xb ≠ cb ∧ xb ≠ lcb ∧ xb ≠ xcb ∧ ib ≠ cb ∧ ib ≠ lcb ∧ ib ≠ xcb ∧ lib ≠ cb ∧ lib ≠ lcb ∧ lib ≠ xcb ∧ xib ≠ cb ∧ xib ≠ lcb ∧ xib ≠ xcb) := ⟨hnblb, hnbxb, hlbxb, hiblib, hibxib, hlibxib, hcblcb, hcbxcb, hlcbxcb, row_ne hN.node hN.row (by decide), row_ne hN.node hL.row (by decide), row_ne hN.node hC.row (by decide), row_ne hN.node hN.kid (by decide), row_ne hN.node hL.kid (by decide), row_ne hN.node hC.kid (by decide), row_ne hL.node hN.row (by decide), row_ne hL.node hL.row (by decide), row_ne hL.node hC.row (by decide), row_ne hL.node hN.kid (by decide), row_ne hL.node hL.kid (by decide), row_ne hL.node hC.kid (by decide), row_ne hC.node hN.row (by decide), row_ne hC.node hL.row (by decide), row_ne hC.node hC.row (by decide), row_ne hC.node hN.kid (by decide), row_ne hC.node hL.kid (by decide), row_ne hC.node hC.kid (by decide), row_ne hN.row hN.kid (by decide), row_ne hN.row hL.kid (by decide), row_ne hN.row hC.kid (by decide), row_ne hL.row hN.kid (by decide), row_ne hL.row hL.kid (by decide), row_ne hL.row hC.kid (by decide), row_ne hC.row hN.kid (by decide), row_ne hC.row hL.kid (by decide), row_ne hC.row hC.kid (by decide)⟩
  have HZ : Hid (SizeIs w xb zc ∧ SizeIs w lb zl) := ⟨hsc, hsl⟩
  clear hN hL hC hns hS63 hnk hK64 hi hjS hjK hm hnl hl63 hnc hc63 hmk hml hml64 hmc hmc64 hQ1 hKQ1 hnblb hnbxb hlbxb hiblib hibxib hlibxib hcblcb hcbxcb hlcbxcb hsc hsl hzc
  go_enter Try.func36, Try.ntmps36
  go_wp2_with fail
  refine HZ.out.1.mono ?_
  rintro e w' ⟨rfl, hw⟩
  obtain rfl := hw.symm
  clear hw
  go_wp2_with fail
  refine HZ.out.2.mono ?_
  rintro e w' ⟨rfl, hw⟩
  obtain rfl := hw.symm
  clear hw
  go_upto_region 11 with fail
  clear l0 c1 n1 hki hkj hlp
  have hlk : (ml : Int) - 1 = (mk : Int) := (by have := HE.out; first | omega | (simp; omega))
  have hmk2 : (mk : Int) < (ml : Int) := (by have := HE.out; first | omega | (simp; omega))
  have hmk64 : (mk : Int) ≤ 64 := (by have := HE.out; first | omega | (simp; omega))
  have hml64 : (ml : Int) ≤ 64 := (by have := HE.out; first | omega | (simp; omega))
  have hmkw : IntKind.i64.wrap (mk : Int) = (mk : Int) := by rw [IntKind.wrap_i64]; omega
  refine wp_region_G (fun w' => w'.cell? ⟨xb, 0, none⟩ = some (.slice (some ⟨xib, 0, none⟩) nc 63) ∧ w'.cell? ⟨nb, 0, none⟩ = some (.slice (some ⟨ib, 0, none⟩) ns 63) ∧ w'.cell? ⟨ib, j, none⟩ = some (.pointer sv)) (fun _ => True) [17] (by kernel_rfl) ?_
  have H1 : Hid (NodeR (w.drew) nb ib cb ns nk (S1 ++ .pointer sv :: S2 ++ rS) (K1 ++ .pointer (some ⟨lb, 0, none⟩) :: .pointer (some ⟨xb, 0, none⟩) :: K2 ++ rK) ∧ NodeR (w.drew) lb lib lcb nl ml (P ++ .pointer p0 :: R) (KP ++ .pointer k0 :: KR) ∧ NodeR (w.drew) xb xib xcb nc mc (Q ++ q0 :: T) (KQ ++ u0 :: U) ∧ Kep (fun k => k = ib ∨ k = lb ∨ k = lib ∨ k = lcb ∨ k = xb ∨ k = xib ∨ k = xcb) w (w.drew)) := ⟨H0.out.1.kep ((Kep.refl (fun _ => False) w).drew) id id id, H0.out.2.1.kep ((Kep.refl (fun _ => False) w).drew) id id id, H0.out.2.2.1.kep ((Kep.refl (fun _ => False) w).drew) id id id, H0.out.2.2.2.trans ((Kep.refl (fun _ => False) w).drew) (fun _ _ h => h.elim)⟩
  clear H0
  generalize w.drew = w2 at *
  have HA : Hid (w2.cell? ⟨xb, 0, none⟩ = some (.slice (some ⟨xib, 0, none⟩) nc 63) ∧ w2.cell? ⟨nb, 0, none⟩ = some (.slice (some ⟨ib, 0, none⟩) ns 63) ∧ w2.cell? ⟨ib, j, none⟩ = some (.pointer sv)) := ⟨H1.out.2.2.1.c0, H1.out.1.c0, by rw [H1.out.1.row.cell, HE.out.2.2.2.2.2.1]; simp⟩
  refine takeB (i := 0) (v := .pointer (some ⟨xb, 0, none⟩)) (d := 89) (listed' := #[true, false, false, false, false, false, false, false, false, false, false, false, false, false, false, false, false, false]) rfl rfl (by kernel_rfl) (by kernel_rfl) (by kernel_rfl) (by kernel_rfl) (by kernel_rfl) rfl (fun _ _ _ h => h) (fun _ => HA.out) trivial (fun w' _ => ex_move (x := .tmp 7) (v := .pointer (some ⟨xb, 0, none⟩)) rfl (by kernel_rfl)) ?_
  dsimp only [List.set_cons_zero, List.set_cons_succ]
  refine takeB (i := 1) (v := .pointer (some ⟨xb, 0, none⟩)) (d := 90) (listed' := #[true, true, false, false, false, false, false, false, false, false, false, false, false, false, false, false, false, false]) rfl rfl (by kernel_rfl) (by kernel_rfl) (by kernel_rfl) (by kernel_rfl) (by kernel_rfl) rfl (fun _ _ _ h => h) (fun _ => HA.out) trivial (fun w' _ => ex_move (x := .tmp 7) (v := .pointer (some ⟨xb, 0, none⟩)) rfl (by kernel_rfl)) ?_
  dsimp only [List.set_cons_zero, List.set_cons_succ]
  refine takeB (i := 2) (v := .pointer (some ⟨xb, 0, none⟩)) (d := 91) (listed' := #[true, true, true, false, false, false, false, false, false, false, false, false, false, false, false, false, false, false]) rfl rfl (by kernel_rfl) (by kernel_rfl) (by kernel_rfl) (by kernel_rfl) (by kernel_rfl) rfl (fun _ _ _ h => h) (fun _ => HA.out) trivial (fun w' _ => ex_nil (x := .tmp 90) (a := ⟨xb, 0, none⟩) rfl (by kernel_rfl)) ?_
  dsimp only [List.set_cons_zero, List.set_cons_succ]
  refine takeB (i := 3) (v := .pointer (some ⟨xb, 0, none⟩)) (d := 92) (listed' := #[true, true, true, true, false, false, false, false, false, false, false, false, false, false, false, false, false, false]) rfl rfl (by kernel_rfl) (by kernel_rfl) (by kernel_rfl) (by kernel_rfl) (by kernel_rfl) rfl (fun _ _ _ h => h) (fun _ => HA.out) trivial (fun w' _ => ex_f62_0 (b := xb) (x := .tmp 91) rfl (by kernel_rfl)) ?_
  dsimp only [List.set_cons_zero, List.set_cons_succ]
  refine takeA (i := 4) (v := .slice (some ⟨xib, 0, none⟩) nc 63) (d := 93) (listed' := #[true, true, true, true, true, false, false, false, false, false, false, false, false, false, false, false, false, false]) rfl rfl (by kernel_rfl) (by kernel_rfl) (by kernel_rfl) (by kernel_rfl) (by kernel_rfl) rfl (fun _ _ _ h => h) HA.out trivial (fun w' hSw => ex_load59 (x := .tmp 92) (a := ⟨xb, 0, none⟩) rfl (by kernel_rfl) hSw.1.1) ?_
  dsimp only [List.set_cons_zero, List.set_cons_succ]
  refine takeB (i := 5) (v := .pointer (some ⟨nb, 0, none⟩)) (d := 94) (listed' := #[true, true, true, true, true, true, false, false, false, false, false, false, false, false, false, false, false, false]) rfl rfl (by kernel_rfl) (by kernel_rfl) (by kernel_rfl) (by kernel_rfl) (by kernel_rfl) rfl (fun _ _ _ h => h) (fun _ => HA.out) trivial (fun w' _ => ex_move (x := .tmp 1) (v := .pointer (some ⟨nb, 0, none⟩)) rfl (by kernel_rfl)) ?_
  dsimp only [List.set_cons_zero, List.set_cons_succ]
  refine takeB (i := 6) (v := .pointer (some ⟨nb, 0, none⟩)) (d := 95) (listed' := #[true, true, true, true, true, true, true, false, false, false, false, false, false, false, false, false, false, false]) rfl rfl (by kernel_rfl) (by kernel_rfl) (by kernel_rfl) (by kernel_rfl) (by kernel_rfl) rfl (fun _ _ _ h => h) (fun _ => HA.out) trivial (fun w' _ => ex_nil (x := .tmp 94) (a := ⟨nb, 0, none⟩) rfl (by kernel_rfl)) ?_
  dsimp only [List.set_cons_zero, List.set_cons_succ]
  refine takeB (i := 7) (v := .pointer (some ⟨nb, 0, none⟩)) (d := 96) (listed' := #[true, true, true, true, true, true, true, true, false, false, false, false, false, false, false, false, false, false]) rfl rfl (by kernel_rfl) (by kernel_rfl) (by kernel_rfl) (by kernel_rfl) (by kernel_rfl) rfl (fun _ _ _ h => h) (fun _ => HA.out) trivial (fun w' _ => ex_f62_0 (b := nb) (x := .tmp 95) rfl (by kernel_rfl)) ?_
  dsimp only [List.set_cons_zero, List.set_cons_succ]
  refine takeA (i := 8) (v := .slice (some ⟨ib, 0, none⟩) ns 63) (d := 97) (listed' := #[true, true, true, true, true, true, true, true, true, false, false, false, false, false, false, false, false, false]) rfl rfl (by kernel_rfl) (by kernel_rfl) (by kernel_rfl) (by kernel_rfl) (by kernel_rfl) rfl (fun _ _ _ h => h) HA.out trivial (fun w' hSw => ex_load59 (x := .tmp 96) (a := ⟨nb, 0, none⟩) rfl (by kernel_rfl) hSw.1.2.1) ?_
  dsimp only [List.set_cons_zero, List.set_cons_succ]
  refine takeB (i := 9) (v := .int .i64 (i : Int)) (d := 98) (listed' := #[true, true, true, true, true, true, true, true, true, true, false, false, false, false, false, false, false, false]) rfl rfl (by kernel_rfl) (by kernel_rfl) (by kernel_rfl) (by kernel_rfl) (by kernel_rfl) rfl (fun _ _ _ h => h) (fun _ => HA.out) trivial (fun w' _ => ex_move (x := .tmp 2) (v := .int .i64 (i : Int)) rfl (by kernel_rfl)) ?_
  dsimp only [List.set_cons_zero, List.set_cons_succ]
  refine takeB (i := 10) (v := .int .i64 (j : Int)) (d := 99) (listed' := #[true, true, true, true, true, true, true, true, true, true, true, false, false, false, false, false, false, false]) rfl rfl (by kernel_rfl) (by kernel_rfl) (by kernel_rfl) (by kernel_rfl) (by kernel_rfl) rfl (fun _ _ _ h => h) (fun _ => HA.out) trivial (fun w' _ => ex_sub1 (x := .tmp 98) rfl (by kernel_rfl) rfl (by assumption) (by omega)) ?_
  dsimp only [List.set_cons_zero, List.set_cons_succ]
  refine takeB (i := 11) (v := .pointer (some ⟨ib, j, none⟩)) (d := 100) (listed' := #[true, true, true, true, true, true, true, true, true, true, true, true, false, false, false, false, false, false]) rfl rfl (by kernel_rfl) (by kernel_rfl) (by kernel_rfl) (by kernel_rfl) (by kernel_rfl) rfl (fun _ _ _ h => h) (fun _ => HA.out) trivial (fun w' _ => ex_index59 (b := ib) (n := ns) (c := 63) (x := .tmp 97) (y := .tmp 99) (k := j) rfl (by kernel_rfl) (by kernel_rfl) (by first | assumption | omega)) ?_
  dsimp only [List.set_cons_zero, List.set_cons_succ]
  refine takeA (i := 12) (v := .pointer sv) (d := 101) (listed' := #[true, true, true, true, true, true, true, true, true, true, true, true, true, false, false, false, false, false]) rfl rfl (by kernel_rfl) (by kernel_rfl) (by kernel_rfl) (by kernel_rfl) (by kernel_rfl) rfl (fun _ _ _ h => h) HA.out trivial (fun w' hSw => ex_load46 (x := .tmp 100) (a := ⟨ib, j, none⟩) rfl (by kernel_rfl) hSw.1.2.2) ?_
  dsimp only [List.set_cons_zero, List.set_cons_succ]
  refine wpAnyG_step (i := 13) (by kernel_rfl) rfl (fun K hK => ?_)
  go_simp
  have k2 : Kep (fun _ => False) w2 (w2.alloc (.cells #[.pointer sv] 46)) := (Kep.refl _ _).alloc _
  have hv : RowB (w2.alloc (.cells #[.pointer sv] 46)) w2.heap.size 46 [.pointer sv] := row_new w2 46 [.pointer sv]
  have hvl : w2.heap.size ≠ xib := Nat.ne_of_gt H1.out.2.2.1.row.lt
  have H2 : Hid (NodeR (w2.alloc (.cells #[.pointer sv] 46)) nb ib cb ns nk (S1 ++ .pointer sv :: S2 ++ rS) (K1 ++ .pointer (some ⟨lb, 0, none⟩) :: .pointer (some ⟨xb, 0, none⟩) :: K2 ++ rK) ∧ NodeR (w2.alloc (.cells #[.pointer sv] 46)) lb lib lcb nl ml (P ++ .pointer p0 :: R) (KP ++ .pointer k0 :: KR) ∧ NodeR (w2.alloc (.cells #[.pointer sv] 46)) xb xib xcb nc mc (Q ++ q0 :: T) (KQ ++ u0 :: U) ∧ Kep (fun k => k = ib ∨ k = lb ∨ k = lib ∨ k = lcb ∨ k = xb ∨ k = xib ∨ k = xcb) w (w2.alloc (.cells #[.pointer sv] 46))) := ⟨H1.out.1.kep k2 id id id, H1.out.2.1.kep k2 id id id, H1.out.2.2.1.kep k2 id id id, H1.out.2.2.2.trans k2 (fun _ _ h => h.elim)⟩
  refine hK.out _ _ trivial (fun _ => ⟨H2.out.2.2.1.c0, H2.out.1.c0, by rw [H2.out.1.row.cell, HE.out.2.2.2.2.2.1]; simp⟩) ?_
  clear hK k2 H1 HA
  generalize w2.heap.size = vb at *
  generalize w2.alloc (.cells #[.pointer sv] 46) = w3 at *
  try simp only [Act.put, List.getElem_toArray, List.getElem_cons_succ, List.getElem_cons_zero, List.setIfInBounds_toArray, List.set_cons_zero, List.set_cons_succ]
  refine wpAnyG_step (i := 14) (by kernel_rfl) rfl (fun K hK => ?_)
  go_simp
  have hins := insert41 (i := 0) (A := []) (B := Q) (r := q0) (rest := T) H2.out.2.2.1.row rfl (by have := HE.out; first | omega | (simp; omega)) HE.out.2.2.2.2.2.2.2.2.2.2.2.1 (by omega) HO.out.1 hv rfl hvl
  refine Calls.mono hins ?_
  clear hins
  rintro e w4 ⟨rfl, hr4, k4⟩
  have H3 : Hid (NodeR w4 nb ib cb ns nk (S1 ++ .pointer sv :: S2 ++ rS) (K1 ++ .pointer (some ⟨lb, 0, none⟩) :: .pointer (some ⟨xb, 0, none⟩) :: K2 ++ rK) ∧ NodeR w4 lb lib lcb nl ml (P ++ .pointer p0 :: R) (KP ++ .pointer k0 :: KR) ∧ NodeR w4 xb xib xcb nc mc (.pointer sv :: Q ++ T) (KQ ++ u0 :: U) ∧ Kep (fun k => k = ib ∨ k = lb ∨ k = lib ∨ k = lcb ∨ k = xb ∨ k = xib ∨ k = xcb) w w4) := ⟨H2.out.1.kep k4 HN.out.2.2.2.2.2.2.2.2.2.2.2.1 HN.out.2.2.2.2.1 (Ne.symm HN.out.2.2.2.2.2.2.2.2.2.2.2.2.2.2.2.2.2.2.2.2.2.2.2.2.2.2.2.2.2.2.2.2.2.1), H2.out.2.1.kep k4 HN.out.2.2.2.2.2.2.2.2.2.2.2.2.2.2.2.2.2.1 HN.out.2.2.2.2.2.1 (Ne.symm HN.out.2.2.2.2.2.2.2.2.2.2.2.2.2.2.2.2.2.2.2.2.2.2.2.2.2.2.2.2.2.2.2.2.2.2.1), ⟨H2.out.2.2.1.node.kep k4 HN.out.2.2.2.2.2.2.2.2.2.2.2.2.2.2.2.2.2.2.2.2.2.2.2.1, hr4, H2.out.2.2.1.kid.kep k4 (Ne.symm HN.out.2.2.2.2.2.2.2.2.2.2.2.2.2.2.2.2.2.2.2.2.2.2.2.2.2.2.2.2.2.2.2.2.2.2.2)⟩, H2.out.2.2.2.trans k4 (fun j hj e => by simp [e])⟩
  refine hK.out _ _ trivial (fun _ => ⟨H3.out.2.2.1.c0, H3.out.1.c0, by rw [H3.out.1.row.cell, HE.out.2.2.2.2.2.1]; simp⟩) ?_
  clear hK hr4 k4 hv hvl H2
  try simp only [Act.put, List.getElem_toArray, List.getElem_cons_succ, List.getElem_cons_zero, List.setIfInBounds_toArray, List.set_cons_zero, List.set_cons_succ]
  have HA : Hid (w4.cell? ⟨xb, 0, none⟩ = some (.slice (some ⟨xib, 0, none⟩) nc 63) ∧ w4.cell? ⟨nb, 0, none⟩ = some (.slice (some ⟨ib, 0, none⟩) ns 63) ∧ w4.cell? ⟨ib, j, none⟩ = some (.pointer sv)) := ⟨H3.out.2.2.1.c0, H3.out.1.c0, by rw [H3.out.1.row.cell, HE.out.2.2.2.2.2.1]; simp⟩
  refine takeB (i := 15) (v := .pointer (some ⟨xb, 0, none⟩)) (d := 104) (listed' := #[true, true, true, true, true, true, true, true, true, true, true, true, true, true, true, true, false, false]) rfl rfl (by kernel_rfl) (by kernel_rfl) (by kernel_rfl) (by kernel_rfl) (by kernel_rfl) rfl (fun _ _ _ h => h) (fun _ => HA.out) trivial (fun w' _ => ex_nil (x := .tmp 89) (a := ⟨xb, 0, none⟩) rfl (by kernel_rfl)) ?_
  dsimp only [List.set_cons_zero, List.set_cons_succ]
  refine takeB (i := 16) (v := .pointer (some ⟨xb, 0, none⟩)) (d := 105) (listed' := #[true, true, true, true, true, true, true, true, true, true, true, true, true, true, true, true, true, false]) rfl rfl (by kernel_rfl) (by kernel_rfl) (by kernel_rfl) (by kernel_rfl) (by kernel_rfl) rfl (fun _ _ _ h => h) (fun _ => HA.out) trivial (fun w' _ => ex_f62_0 (b := xb) (x := .tmp 104) rfl (by kernel_rfl)) ?_
  dsimp only [List.set_cons_zero, List.set_cons_succ]
  have c0 := H3.out.2.2.1.c0
  have f0 := H3.out.2.2.1.node.frozen 0
  refine wpAnyG_step (i := 17) (by kernel_rfl) rfl (fun K hK => ?_)
  go_simp
  refine hK.out _ _ trivial (fun h => not_early (by kernel_rfl) h) ?_
  clear hK c0 f0 HA
  have H4 : Hid (NodeR (w4.setCell ⟨xb, 0, none⟩ (.slice (some ⟨xib, 0, none⟩) (nc + 1) 63)) nb ib cb ns nk (S1 ++ .pointer sv :: S2 ++ rS) (K1 ++ .pointer (some ⟨lb, 0, none⟩) :: .pointer (some ⟨xb, 0, none⟩) :: K2 ++ rK) ∧ NodeR (w4.setCell ⟨xb, 0, none⟩ (.slice (some ⟨xib, 0, none⟩) (nc + 1) 63)) lb lib lcb nl ml (P ++ .pointer p0 :: R) (KP ++ .pointer k0 :: KR) ∧ NodeR (w4.setCell ⟨xb, 0, none⟩ (.slice (some ⟨xib, 0, none⟩) (nc + 1) 63)) xb xib xcb (nc + 1) mc (.pointer sv :: Q ++ T) (KQ ++ u0 :: U) ∧ Kep (fun k => k = ib ∨ k = lb ∨ k = lib ∨ k = lcb ∨ k = xb ∨ k = xib ∨ k = xcb) w (w4.setCell ⟨xb, 0, none⟩ (.slice (some ⟨xib, 0, none⟩) (nc + 1) 63))) := ⟨H3.out.1.kep (kep_set _ _ _ _) HN.out.2.1 (Ne.symm HN.out.2.2.2.2.2.2.2.2.2.2.2.2.2.2.2.2.2.2.2.2.2.1) (Ne.symm HN.out.2.2.2.2.2.2.2.2.2.2.2.2.2.2.2.2.2.2.2.2.2.2.2.2.1), H3.out.2.1.kep (kep_set _ _ _ _) HN.out.2.2.1 (Ne.symm HN.out.2.2.2.2.2.2.2.2.2.2.2.2.2.2.2.2.2.2.2.2.2.2.1) (Ne.symm HN.out.2.2.2.2.2.2.2.2.2.2.2.2.2.2.2.2.2.2.2.2.2.2.2.2.2.1), H3.out.2.2.1.set0 _, H3.out.2.2.2.trans (kep_set _ _ _ _) (fun j hj e => by simp [e])⟩
  clear H3
  generalize w4.setCell ⟨xb, 0, none⟩ (.slice (some ⟨xib, 0, none⟩) (nc + 1) 63) = w5 at *
  try simp only [Act.put, List.getElem_toArray, List.getElem_cons_succ, List.getElem_cons_zero, List.setIfInBounds_toArray, List.set_cons_zero, List.set_cons_succ]
  refine wpAnyG_done (by kernel_rfl) ?_ _
  refine NoPanic.normal ?_
  go_upto_region 12 with fail
  refine wp_region_G (fun w' => w'.cell? ⟨xb, 1, none⟩ = some (.slice (some ⟨xcb, 0, none⟩) mc 64) ∧ w'.cell? ⟨lb, 1, none⟩ = some (.slice (some ⟨lcb, 0, none⟩) ml 64) ∧ w'.cell? ⟨lcb, mk, none⟩ = some (.pointer k0)) (fun _ => True) [21] (by kernel_rfl) ?_
  have H5 : Hid (NodeR (w5.drew) nb ib cb ns nk (S1 ++ .pointer sv :: S2 ++ rS) (K1 ++ .pointer (some ⟨lb, 0, none⟩) :: .pointer (some ⟨xb, 0, none⟩) :: K2 ++ rK) ∧ NodeR (w5.drew) lb lib lcb nl ml (P ++ .pointer p0 :: R) (KP ++ .pointer k0 :: KR) ∧ NodeR (w5.drew) xb xib xcb (nc + 1) mc (.pointer sv :: Q ++ T) (KQ ++ u0 :: U) ∧ Kep (fun k => k = ib ∨ k = lb ∨ k = lib ∨ k = lcb ∨ k = xb ∨ k = xib ∨ k = xcb) w (w5.drew)) := ⟨H4.out.1.kep ((Kep.refl (fun _ => False) w5).drew) id id id, H4.out.2.1.kep ((Kep.refl (fun _ => False) w5).drew) id id id, H4.out.2.2.1.kep ((Kep.refl (fun _ => False) w5).drew) id id id, H4.out.2.2.2.trans ((Kep.refl (fun _ => False) w5).drew) (fun _ _ h => h.elim)⟩
  clear H4
  generalize w5.drew = w6 at *
  have HA : Hid (w6.cell? ⟨xb, 1, none⟩ = some (.slice (some ⟨xcb, 0, none⟩) mc 64) ∧ w6.cell? ⟨lb, 1, none⟩ = some (.slice (some ⟨lcb, 0, none⟩) ml 64) ∧ w6.cell? ⟨lcb, mk, none⟩ = some (.pointer k0)) := ⟨H5.out.2.2.1.c1, H5.out.2.1.c1, by rw [H5.out.2.1.kid.cell, HE.out.2.2.2.2.2.2.2.2.2.2.2.2.1]; simp⟩
  refine takeB (i := 0) (v := .pointer (some ⟨xb, 0, none⟩)) (d := 106) (listed' := #[true, false, false, false, false, false, false, false, false, false, false, false, false, false, false, false, false, false, false, false, false, false]) rfl rfl (by kernel_rfl) (by kernel_rfl) (by kernel_rfl) (by kernel_rfl) (by kernel_rfl) rfl (fun _ _ _ h => h) (fun _ => HA.out) trivial (fun w' _ => ex_move (x := .tmp 7) (v := .pointer (some ⟨xb, 0, none⟩)) rfl (by kernel_rfl)) ?_
  dsimp only [List.set_cons_zero, List.set_cons_succ]
  refine takeB (i := 1) (v := .pointer (some ⟨xb, 0, none⟩)) (d := 107) (listed' := #[true, true, false, false, false, false, false, false, false, false, false, false, false, false, false, false, false, false, false, false, false, false]) rfl rfl (by kernel_rfl) (by kernel_rfl) (by kernel_rfl) (by kernel_rfl) (by kernel_rfl) rfl (fun _ _ _ h => h) (fun _ => HA.out) trivial (fun w' _ => ex_move (x := .tmp 7) (v := .pointer (some ⟨xb, 0, none⟩)) rfl (by kernel_rfl)) ?_
  dsimp only [List.set_cons_zero, List.set_cons_succ]
  refine takeB (i := 2) (v := .pointer (some ⟨xb, 0, none⟩)) (d := 108) (listed' := #[true, true, true, false, false, false, false, false, false, false, false, false, false, false, false, false, false, false, false, false, false, false]) rfl rfl (by kernel_rfl) (by kernel_rfl) (by kernel_rfl) (by kernel_rfl) (by kernel_rfl) rfl (fun _ _ _ h => h) (fun _ => HA.out) trivial (fun w' _ => ex_nil (x := .tmp 107) (a := ⟨xb, 0, none⟩) rfl (by kernel_rfl)) ?_
  dsimp only [List.set_cons_zero, List.set_cons_succ]
  refine takeB (i := 3) (v := .pointer (some ⟨xb, 1, none⟩)) (d := 109) (listed' := #[true, true, true, true, false, false, false, false, false, false, false, false, false, false, false, false, false, false, false, false, false, false]) rfl rfl (by kernel_rfl) (by kernel_rfl) (by kernel_rfl) (by kernel_rfl) (by kernel_rfl) rfl (fun _ _ _ h => h) (fun _ => HA.out) trivial (fun w' _ => ex_f62_1 (b := xb) (x := .tmp 108) rfl (by kernel_rfl)) ?_
  dsimp only [List.set_cons_zero, List.set_cons_succ]
  refine takeA (i := 4) (v := .slice (some ⟨xcb, 0, none⟩) mc 64) (d := 110) (listed' := #[true, true, true, true, true, false, false, false, false, false, false, false, false, false, false, false, false, false, false, false, false, false]) rfl rfl (by kernel_rfl) (by kernel_rfl) (by kernel_rfl) (by kernel_rfl) (by kernel_rfl) rfl (fun _ _ _ h => h) HA.out trivial (fun w' hSw => ex_load60 (x := .tmp 109) (a := ⟨xb, 1, none⟩) rfl (by kernel_rfl) hSw.1.1) ?_
  dsimp only [List.set_cons_zero, List.set_cons_succ]
  refine takeB (i := 5) (v := .pointer (some ⟨lb, 0, none⟩)) (d := 111) (listed' := #[true, true, true, true, true, true, false, false, false, false, false, false, false, false, false, false, false, false, false, false, false, false]) rfl rfl (by kernel_rfl) (by kernel_rfl) (by kernel_rfl) (by kernel_rfl) (by kernel_rfl) rfl (fun _ _ _ h => h) (fun _ => HA.out) trivial (fun w' _ => ex_move (x := .tmp 8) (v := .pointer (some ⟨lb, 0, none⟩)) rfl (by kernel_rfl)) ?_
  dsimp only [List.set_cons_zero, List.set_cons_succ]
  refine takeB (i := 6) (v := .pointer (some ⟨lb, 0, none⟩)) (d := 112) (listed' := #[true, true, true, true, true, true, true, false, false, false, false, false, false, false, false, false, false, false, false, false, false, false]) rfl rfl (by kernel_rfl) (by kernel_rfl) (by kernel_rfl) (by kernel_rfl) (by kernel_rfl) rfl (fun _ _ _ h => h) (fun _ => HA.out) trivial (fun w' _ => ex_nil (x := .tmp 111) (a := ⟨lb, 0, none⟩) rfl (by kernel_rfl)) ?_
  dsimp only [List.set_cons_zero, List.set_cons_succ]
  refine takeB (i := 7) (v := .pointer (some ⟨lb, 1, none⟩)) (d := 113) (listed' := #[true, true, true, true, true, true, true, true, false, false, false, false, false, false, false, false, false, false, false, false, false, false]) rfl rfl (by kernel_rfl) (by kernel_rfl) (by kernel_rfl) (by kernel_rfl) (by kernel_rfl) rfl (fun _ _ _ h => h) (fun _ => HA.out) trivial (fun w' _ => ex_f62_1 (b := lb) (x := .tmp 112) rfl (by kernel_rfl)) ?_
  dsimp only [List.set_cons_zero, List.set_cons_succ]
  refine takeA (i := 8) (v := .slice (some ⟨lcb, 0, none⟩) ml 64) (d := 114) (listed' := #[true, true, true, true, true, true, true, true, true, false, false, false, false, false, false, false, false, false, false, false, false, false]) rfl rfl (by kernel_rfl) (by kernel_rfl) (by kernel_rfl) (by kernel_rfl) (by kernel_rfl) rfl (fun _ _ _ h => h) HA.out trivial (fun w' hSw => ex_load60 (x := .tmp 113) (a := ⟨lb, 1, none⟩) rfl (by kernel_rfl) hSw.1.2.1) ?_
  dsimp only [List.set_cons_zero, List.set_cons_succ]
  refine takeB (i := 9) (v := .pointer (some ⟨lb, 0, none⟩)) (d := 115) (listed' := #[true, true, true, true, true, true, true, true, true, true, false, false, false, false, false, false, false, false, false, false, false, false]) rfl rfl (by kernel_rfl) (by kernel_rfl) (by kernel_rfl) (by kernel_rfl) (by kernel_rfl) rfl (fun _ _ _ h => h) (fun _ => HA.out) trivial (fun w' _ => ex_move (x := .tmp 8) (v := .pointer (some ⟨lb, 0, none⟩)) rfl (by kernel_rfl)) ?_
  dsimp only [List.set_cons_zero, List.set_cons_succ]
  refine takeB (i := 10) (v := .pointer (some ⟨lb, 0, none⟩)) (d := 116) (listed' := #[true, true, true, true, true, true, true, true, true, true, true, false, false, false, false, false, false, false, false, false, false, false]) rfl rfl (by kernel_rfl) (by kernel_rfl) (by kernel_rfl) (by kernel_rfl) (by kernel_rfl) rfl (fun _ _ _ h => h) (fun _ => HA.out) trivial (fun w' _ => ex_nil (x := .tmp 115) (a := ⟨lb, 0, none⟩) rfl (by kernel_rfl)) ?_
  dsimp only [List.set_cons_zero, List.set_cons_succ]
  refine takeB (i := 11) (v := .pointer (some ⟨lb, 1, none⟩)) (d := 117) (listed' := #[true, true, true, true, true, true, true, true, true, true, true, true, false, false, false, false, false, false, false, false, false, false]) rfl rfl (by kernel_rfl) (by kernel_rfl) (by kernel_rfl) (by kernel_rfl) (by kernel_rfl) rfl (fun _ _ _ h => h) (fun _ => HA.out) trivial (fun w' _ => ex_f62_1 (b := lb) (x := .tmp 116) rfl (by kernel_rfl)) ?_
  dsimp only [List.set_cons_zero, List.set_cons_succ]
  refine takeA (i := 12) (v := .slice (some ⟨lcb, 0, none⟩) ml 64) (d := 118) (listed' := #[true, true, true, true, true, true, true, true, true, true, true, true, true, false, false, false, false, false, false, false, false, false]) rfl rfl (by kernel_rfl) (by kernel_rfl) (by kernel_rfl) (by kernel_rfl) (by kernel_rfl) rfl (fun _ _ _ h => h) HA.out trivial (fun w' hSw => ex_load60 (x := .tmp 117) (a := ⟨lb, 1, none⟩) rfl (by kernel_rfl) hSw.1.2.1) ?_
  dsimp only [List.set_cons_zero, List.set_cons_succ]
  refine takeB (i := 13) (v := .int .i64 (ml : Int)) (d := 119) (listed' := #[true, true, true, true, true, true, true, true, true, true, true, true, true, true, false, false, false, false, false, false, false, false]) rfl rfl (by kernel_rfl) (by kernel_rfl) (by kernel_rfl) (by kernel_rfl) (by kernel_rfl) rfl (fun _ _ _ h => h) (fun _ => HA.out) trivial (fun w' _ => ex_len60 (a := (some ⟨lcb, 0, none⟩)) (n := ml) (c := 64) (x := .tmp 118) rfl (by kernel_rfl)) ?_
  dsimp only [List.set_cons_zero, List.set_cons_succ]
  refine takeB (i := 14) (v := .int .i64 (mk : Int)) (d := 120) (listed' := #[true, true, true, true, true, true, true, true, true, true, true, true, true, true, true, false, false, false, false, false, false, false]) rfl rfl (by kernel_rfl) (by kernel_rfl) (by kernel_rfl) (by kernel_rfl) (by kernel_rfl) rfl (fun _ _ _ h => h) (fun _ => HA.out) trivial (fun w' _ => ex_sub1 (x := .tmp 119) rfl (by kernel_rfl) rfl (by assumption) (by omega)) ?_
  dsimp only [List.set_cons_zero, List.set_cons_succ]
  refine takeB (i := 15) (v := .pointer (some ⟨lcb, mk, none⟩)) (d := 121) (listed' := #[true, true, true, true, true, true, true, true, true, true, true, true, true, true, true, true, false, false, false, false, false, false]) rfl rfl (by kernel_rfl) (by kernel_rfl) (by kernel_rfl) (by kernel_rfl) (by kernel_rfl) rfl (fun _ _ _ h => h) (fun _ => HA.out) trivial (fun w' _ => ex_index60 (b := lcb) (n := ml) (c := 64) (x := .tmp 114) (y := .tmp 120) (k := mk) rfl (by kernel_rfl) (by kernel_rfl) (by first | assumption | omega)) ?_
  dsimp only [List.set_cons_zero, List.set_cons_succ]
  refine takeA (i := 16) (v := .pointer k0) (d := 122) (listed' := #[true, true, true, true, true, true, true, true, true, true, true, true, true, true, true, true, true, false, false, false, false, false]) rfl rfl (by kernel_rfl) (by kernel_rfl) (by kernel_rfl) (by kernel_rfl) (by kernel_rfl) rfl (fun _ _ _ h => h) HA.out trivial (fun w' hSw => ex_load55 (x := .tmp 121) (a := ⟨lcb, mk, none⟩) rfl (by kernel_rfl) hSw.1.2.2) ?_
  dsimp only [List.set_cons_zero, List.set_cons_succ]
  refine wpAnyG_step (i := 17) (by kernel_rfl) rfl (fun K hK => ?_)
  go_simp
  have k2 : Kep (fun _ => False) w6 (w6.alloc (.cells #[.pointer k0] 55)) := (Kep.refl _ _).alloc _
  have hv : RowB (w6.alloc (.cells #[.pointer k0] 55)) w6.heap.size 55 [.pointer k0] := row_new w6 55 [.pointer k0]
  have hvl : w6.heap.size ≠ xcb := Nat.ne_of_gt H5.out.2.2.1.kid.lt
  have H6 : Hid (NodeR (w6.alloc (.cells #[.pointer k0] 55)) nb ib cb ns nk (S1 ++ .pointer sv :: S2 ++ rS) (K1 ++ .pointer (some ⟨lb, 0, none⟩) :: .pointer (some ⟨xb, 0, none⟩) :: K2 ++ rK) ∧ NodeR (w6.alloc (.cells #[.pointer k0] 55)) lb lib lcb nl ml (P ++ .pointer p0 :: R) (KP ++ .pointer k0 :: KR) ∧ NodeR (w6.alloc (.cells #[.pointer k0] 55)) xb xib xcb (nc + 1) mc (.pointer sv :: Q ++ T) (KQ ++ u0 :: U) ∧ Kep (fun k => k = ib ∨ k = lb ∨ k = lib ∨ k = lcb ∨ k = xb ∨ k = xib ∨ k = xcb) w (w6.alloc (.cells #[.pointer k0] 55))) := ⟨H5.out.1.kep k2 id id id, H5.out.2.1.kep k2 id id id, H5.out.2.2.1.kep k2 id id id, H5.out.2.2.2.trans k2 (fun _ _ h => h.elim)⟩
  refine hK.out _ _ trivial (fun _ => ⟨H6.out.2.2.1.c1, H6.out.2.1.c1, by rw [H6.out.2.1.kid.cell, HE.out.2.2.2.2.2.2.2.2.2.2.2.2.1]; simp⟩) ?_
  clear hK k2 H5 HA
  generalize w6.heap.size = vb at *
  generalize w6.alloc (.cells #[.pointer k0] 55) = w7 at *
  try simp only [Act.put, List.getElem_toArray, List.getElem_cons_succ, List.getElem_cons_zero, List.setIfInBounds_toArray, List.set_cons_zero, List.set_cons_succ]
  refine wpAnyG_step (i := 18) (by kernel_rfl) rfl (fun K hK => ?_)
  go_simp
  have hins := insert43 (i := 0) (A := []) (B := KQ) (r := u0) (rest := U) H6.out.2.2.1.kid rfl (by have := HE.out; first | omega | (simp; omega)) HE.out.2.2.2.2.2.2.2.2.2.2.2.2.2.2.2.2 (by omega) HO.out.2 hv rfl hvl
  refine Calls.mono hins ?_
  clear hins
  rintro e w8 ⟨rfl, hr4, k4⟩
  have H7 : Hid (NodeR w8 nb ib cb ns nk (S1 ++ .pointer sv :: S2 ++ rS) (K1 ++ .pointer (some ⟨lb, 0, none⟩) :: .pointer (some ⟨xb, 0, none⟩) :: K2 ++ rK) ∧ NodeR w8 lb lib lcb nl ml (P ++ .pointer p0 :: R) (KP ++ .pointer k0 :: KR) ∧ NodeR w8 xb xib xcb (nc + 1) mc (.pointer sv :: Q ++ T) (.pointer k0 :: KQ ++ U) ∧ Kep (fun k => k = ib ∨ k = lb ∨ k = lib ∨ k = lcb ∨ k = xb ∨ k = xib ∨ k = xcb) w w8) := ⟨H6.out.1.kep k4 HN.out.2.2.2.2.2.2.2.2.2.2.2.2.2.2.1 HN.out.2.2.2.2.2.2.2.2.2.2.2.2.2.2.2.2.2.2.2.2.2.2.2.2.2.2.2.2.2.1 HN.out.2.2.2.2.2.2.2.1, H6.out.2.1.kep k4 HN.out.2.2.2.2.2.2.2.2.2.2.2.2.2.2.2.2.2.2.2.2.1 HN.out.2.2.2.2.2.2.2.2.2.2.2.2.2.2.2.2.2.2.2.2.2.2.2.2.2.2.2.2.2.2.2.2.1 HN.out.2.2.2.2.2.2.2.2.1, ⟨H6.out.2.2.1.node.kep k4 HN.out.2.2.2.2.2.2.2.2.2.2.2.2.2.2.2.2.2.2.2.2.2.2.2.2.2.2.1, H6.out.2.2.1.row.kep k4 HN.out.2.2.2.2.2.2.2.2.2.2.2.2.2.2.2.2.2.2.2.2.2.2.2.2.2.2.2.2.2.2.2.2.2.2.2, hr4⟩, H6.out.2.2.2.trans k4 (fun j hj e => by simp [e])⟩
  refine hK.out _ _ trivial (fun _ => ⟨H7.out.2.2.1.c1, H7.out.2.1.c1, by rw [H7.out.2.1.kid.cell, HE.out.2.2.2.2.2.2.2.2.2.2.2.2.1]; simp⟩) ?_
  clear hK hr4 k4 hv hvl H6
  try simp only [Act.put, List.getElem_toArray, List.getElem_cons_succ, List.getElem_cons_zero, List.setIfInBounds_toArray, List.set_cons_zero, List.set_cons_succ]
  have HA : Hid (w8.cell? ⟨xb, 1, none⟩ = some (.slice (some ⟨xcb, 0, none⟩) mc 64) ∧ w8.cell? ⟨lb, 1, none⟩ = some (.slice (some ⟨lcb, 0, none⟩) ml 64) ∧ w8.cell? ⟨lcb, mk, none⟩ = some (.pointer k0)) := ⟨H7.out.2.2.1.c1, H7.out.2.1.c1, by rw [H7.out.2.1.kid.cell, HE.out.2.2.2.2.2.2.2.2.2.2.2.2.1]; simp⟩
  refine takeB (i := 19) (v := .pointer (some ⟨xb, 0, none⟩)) (d := 125) (listed' := #[true, true, true, true, true, true, true, true, true, true, true, true, true, true, true, true, true, true, true, true, false, false]) rfl rfl (by kernel_rfl) (by kernel_rfl) (by kernel_rfl) (by kernel_rfl) (by kernel_rfl) rfl (fun _ _ _ h => h) (fun _ => HA.out) trivial (fun w' _ => ex_nil (x := .tmp 106) (a := ⟨xb, 0, none⟩) rfl (by kernel_rfl)) ?_
  dsimp only [List.set_cons_zero, List.set_cons_succ]
  refine takeB (i := 20) (v := .pointer (some ⟨xb, 1, none⟩)) (d := 126) (listed' := #[true, true, true, true, true, true, true, true, true, true, true, true, true, true, true, true, true, true, true, true, true, false]) rfl rfl (by kernel_rfl) (by kernel_rfl) (by kernel_rfl) (by kernel_rfl) (by kernel_rfl) rfl (fun _ _ _ h => h) (fun _ => HA.out) trivial (fun w' _ => ex_f62_1 (b := xb) (x := .tmp 125) rfl (by kernel_rfl)) ?_
  dsimp only [List.set_cons_zero, List.set_cons_succ]
  have c0 := H7.out.2.2.1.c1
  have f0 := H7.out.2.2.1.node.frozen 1
  refine wpAnyG_step (i := 21) (by kernel_rfl) rfl (fun K hK => ?_)
  go_simp
  refine hK.out _ _ trivial (fun h => not_early (by kernel_rfl) h) ?_
  clear hK c0 f0 HA
  have H8 : Hid (NodeR (w8.setCell ⟨xb, 1, none⟩ (.slice (some ⟨xcb, 0, none⟩) (mc + 1) 64)) nb ib cb ns nk (S1 ++ .pointer sv :: S2 ++ rS) (K1 ++ .pointer (some ⟨lb, 0, none⟩) :: .pointer (some ⟨xb, 0, none⟩) :: K2 ++ rK) ∧ NodeR (w8.setCell ⟨xb, 1, none⟩ (.slice (some ⟨xcb, 0, none⟩) (mc + 1) 64)) lb lib lcb nl ml (P ++ .pointer p0 :: R) (KP ++ .pointer k0 :: KR) ∧ NodeR (w8.setCell ⟨xb, 1, none⟩ (.slice (some ⟨xcb, 0, none⟩) (mc + 1) 64)) xb xib xcb (nc + 1) (mc + 1) (.pointer sv :: Q ++ T) (.pointer k0 :: KQ ++ U) ∧ Kep (fun k => k = ib ∨ k = lb ∨ k = lib ∨ k = lcb ∨ k = xb ∨ k = xib ∨ k = xcb) w (w8.setCell ⟨xb, 1, none⟩ (.slice (some ⟨xcb, 0, none⟩) (mc + 1) 64))) := ⟨H7.out.1.kep (kep_set _ _ _ _) HN.out.2.1 (Ne.symm HN.out.2.2.2.2.2.2.2.2.2.2.2.2.2.2.2.2.2.2.2.2.2.1) (Ne.symm HN.out.2.2.2.2.2.2.2.2.2.2.2.2.2.2.2.2.2.2.2.2.2.2.2.2.1), H7.out.2.1.kep (kep_set _ _ _ _) HN.out.2.2.1 (Ne.symm HN.out.2.2.2.2.2.2.2.2.2.2.2.2.2.2.2.2.2.2.2.2.2.2.1) (Ne.symm HN.out.2.2.2.2.2.2.2.2.2.2.2.2.2.2.2.2.2.2.2.2.2.2.2.2.2.1), H7.out.2.2.1.set1 _, H7.out.2.2.2.trans (kep_set _ _ _ _) (fun j hj e => by simp [e])⟩
  clear H7
  generalize w8.setCell ⟨xb, 1, none⟩ (.slice (some ⟨xcb, 0, none⟩) (mc + 1) 64) = w9 at *
  try simp only [Act.put, List.getElem_toArray, List.getElem_cons_succ, List.getElem_cons_zero, List.setIfInBounds_toArray, List.set_cons_zero, List.set_cons_succ]
  refine wpAnyG_done (by kernel_rfl) ?_ _
  refine NoPanic.normal ?_
  go_upto_region 13 with fail
  refine wp_region_G (fun w' => w'.cell? ⟨nb, 0, none⟩ = some (.slice (some ⟨ib, 0, none⟩) ns 63) ∧ w'.cell? ⟨lb, 0, none⟩ = some (.slice (some ⟨lib, 0, none⟩) nl 63) ∧ w'.cell? ⟨lib, m, none⟩ = some (.pointer p0)) (fun _ => True) [14] (by kernel_rfl) ?_
  have H9 : Hid (NodeR (w9.drew) nb ib cb ns nk (S1 ++ .pointer sv :: S2 ++ rS) (K1 ++ .pointer (some ⟨lb, 0, none⟩) :: .pointer (some ⟨xb, 0, none⟩) :: K2 ++ rK) ∧ NodeR (w9.drew) lb lib lcb nl ml (P ++ .pointer p0 :: R) (KP ++ .pointer k0 :: KR) ∧ NodeR (w9.drew) xb xib xcb (nc + 1) (mc + 1) (.pointer sv :: Q ++ T) (.pointer k0 :: KQ ++ U) ∧ Kep (fun k => k = ib ∨ k = lb ∨ k = lib ∨ k = lcb ∨ k = xb ∨ k = xib ∨ k = xcb) w (w9.drew)) := ⟨H8.out.1.kep ((Kep.refl (fun _ => False) w9).drew) id id id, H8.out.2.1.kep ((Kep.refl (fun _ => False) w9).drew) id id id, H8.out.2.2.1.kep ((Kep.refl (fun _ => False) w9).drew) id id id, H8.out.2.2.2.trans ((Kep.refl (fun _ => False) w9).drew) (fun _ _ h => h.elim)⟩
  clear H8
  generalize w9.drew = w10 at *
  have HA : Hid (w10.cell? ⟨nb, 0, none⟩ = some (.slice (some ⟨ib, 0, none⟩) ns 63) ∧ w10.cell? ⟨lb, 0, none⟩ = some (.slice (some ⟨lib, 0, none⟩) nl 63) ∧ w10.cell? ⟨lib, m, none⟩ = some (.pointer p0)) := ⟨H9.out.1.c0, H9.out.2.1.c0, by rw [H9.out.2.1.row.cell, HE.out.2.2.2.2.2.2.2.1]; simp⟩
  refine takeB (i := 0) (v := .pointer (some ⟨nb, 0, none⟩)) (d := 127) (listed' := #[true, false, false, false, false, false, false, false, false, false, false, false, false, false, false]) rfl rfl (by kernel_rfl) (by kernel_rfl) (by kernel_rfl) (by kernel_rfl) (by kernel_rfl) rfl (fun _ _ _ h => h) (fun _ => HA.out) trivial (fun w' _ => ex_move (x := .tmp 1) (v := .pointer (some ⟨nb, 0, none⟩)) rfl (by kernel_rfl)) ?_
  dsimp only [List.set_cons_zero, List.set_cons_succ]
  refine takeB (i := 1) (v := .pointer (some ⟨nb, 0, none⟩)) (d := 128) (listed' := #[true, true, false, false, false, false, false, false, false, false, false, false, false, false, false]) rfl rfl (by kernel_rfl) (by kernel_rfl) (by kernel_rfl) (by kernel_rfl) (by kernel_rfl) rfl (fun _ _ _ h => h) (fun _ => HA.out) trivial (fun w' _ => ex_nil (x := .tmp 127) (a := ⟨nb, 0, none⟩) rfl (by kernel_rfl)) ?_
  dsimp only [List.set_cons_zero, List.set_cons_succ]
  refine takeB (i := 2) (v := .pointer (some ⟨nb, 0, none⟩)) (d := 129) (listed' := #[true, true, true, false, false, false, false, false, false, false, false, false, false, false, false]) rfl rfl (by kernel_rfl) (by kernel_rfl) (by kernel_rfl) (by kernel_rfl) (by kernel_rfl) rfl (fun _ _ _ h => h) (fun _ => HA.out) trivial (fun w' _ => ex_f62_0 (b := nb) (x := .tmp 128) rfl (by kernel_rfl)) ?_
  dsimp only [List.set_cons_zero, List.set_cons_succ]
  refine takeA (i := 3) (v := .slice (some ⟨ib, 0, none⟩) ns 63) (d := 130) (listed' := #[true, true, true, true, false, false, false, false, false, false, false, false, false, false, false]) rfl rfl (by kernel_rfl) (by kernel_rfl) (by kernel_rfl) (by kernel_rfl) (by kernel_rfl) rfl (fun _ _ _ h => h) HA.out trivial (fun w' hSw => ex_load59 (x := .tmp 129) (a := ⟨nb, 0, none⟩) rfl (by kernel_rfl) hSw.1.1) ?_
  dsimp only [List.set_cons_zero, List.set_cons_succ]
  refine takeB (i := 4) (v := .int .i64 (i : Int)) (d := 131) (listed' := #[true, true, true, true, true, false, false, false, false, false, false, false, false, false, false]) rfl rfl (by kernel_rfl) (by kernel_rfl) (by kernel_rfl) (by kernel_rfl) (by kernel_rfl) rfl (fun _ _ _ h => h) (fun _ => HA.out) trivial (fun w' _ => ex_move (x := .tmp 2) (v := .int .i64 (i : Int)) rfl (by kernel_rfl)) ?_
  dsimp only [List.set_cons_zero, List.set_cons_succ]
  refine takeB (i := 5) (v := .int .i64 (j : Int)) (d := 132) (listed' := #[true, true, true, true, true, true, false, false, false, false, false, false, false, false, false]) rfl rfl (by kernel_rfl) (by kernel_rfl) (by kernel_rfl) (by kernel_rfl) (by kernel_rfl) rfl (fun _ _ _ h => h) (fun _ => HA.out) trivial (fun w' _ => ex_sub1 (x := .tmp 131) rfl (by kernel_rfl) rfl (by assumption) (by omega)) ?_
  dsimp only [List.set_cons_zero, List.set_cons_succ]
  refine takeB (i := 6) (v := .pointer (some ⟨lb, 0, none⟩)) (d := 133) (listed' := #[true, true, true, true, true, true, true, false, false, false, false, false, false, false, false]) rfl rfl (by kernel_rfl) (by kernel_rfl) (by kernel_rfl) (by kernel_rfl) (by kernel_rfl) rfl (fun _ _ _ h => h) (fun _ => HA.out) trivial (fun w' _ => ex_move (x := .tmp 8) (v := .pointer (some ⟨lb, 0, none⟩)) rfl (by kernel_rfl)) ?_
  dsimp only [List.set_cons_zero, List.set_cons_succ]
  refine takeB (i := 7) (v := .pointer (some ⟨lb, 0, none⟩)) (d := 134) (listed' := #[true, true, true, true, true, true, true, true, false, false, false, false, false, false, false]) rfl rfl (by kernel_rfl) (by kernel_rfl) (by kernel_rfl) (by kernel_rfl) (by kernel_rfl) rfl (fun _ _ _ h => h) (fun _ => HA.out) trivial (fun w' _ => ex_nil (x := .tmp 133) (a := ⟨lb, 0, none⟩) rfl (by kernel_rfl)) ?_
  dsimp only [List.set_cons_zero, List.set_cons_succ]
  refine takeB (i := 8) (v := .pointer (some ⟨lb, 0, none⟩)) (d := 135) (listed' := #[true, true, true, true, true, true, true, true, true, false, false, false, false, false, false]) rfl rfl (by kernel_rfl) (by kernel_rfl) (by kernel_rfl) (by kernel_rfl) (by kernel_rfl) rfl (fun _ _ _ h => h) (fun _ => HA.out) trivial (fun w' _ => ex_f62_0 (b := lb) (x := .tmp 134) rfl (by kernel_rfl)) ?_
  dsimp only [List.set_cons_zero, List.set_cons_succ]
  refine takeA (i := 9) (v := .slice (some ⟨lib, 0, none⟩) nl 63) (d := 136) (listed' := #[true, true, true, true, true, true, true, true, true, true, false, false, false, false, false]) rfl rfl (by kernel_rfl) (by kernel_rfl) (by kernel_rfl) (by kernel_rfl) (by kernel_rfl) rfl (fun _ _ _ h => h) HA.out trivial (fun w' hSw => ex_load59 (x := .tmp 135) (a := ⟨lb, 0, none⟩) rfl (by kernel_rfl) hSw.1.2.1) ?_
  dsimp only [List.set_cons_zero, List.set_cons_succ]
  refine takeB (i := 10) (v := .int .i64 (m : Int)) (d := 137) (listed' := #[true, true, true, true, true, true, true, true, true, true, true, false, false, false, false]) rfl rfl (by kernel_rfl) (by kernel_rfl) (by kernel_rfl) (by kernel_rfl) (by kernel_rfl) rfl (fun _ _ _ h => h) (fun _ => HA.out) trivial (fun w' _ => ex_move (x := .tmp 9) (v := .int .i64 (m : Int)) rfl (by kernel_rfl)) ?_
  dsimp only [List.set_cons_zero, List.set_cons_succ]
  refine takeB (i := 11) (v := .pointer (some ⟨lib, m, none⟩)) (d := 138) (listed' := #[true, true, true, true, true, true, true, true, true, true, true, true, false, false, false]) rfl rfl (by kernel_rfl) (by kernel_rfl) (by kernel_rfl) (by kernel_rfl) (by kernel_rfl) rfl (fun _ _ _ h => h) (fun _ => HA.out) trivial (fun w' _ => ex_index59 (b := lib) (n := nl) (c := 63) (x := .tmp 136) (y := .tmp 137) (k := m) rfl (by kernel_rfl) (by kernel_rfl) (by first | assumption | omega)) ?_
  dsimp only [List.set_cons_zero, List.set_cons_succ]
  refine takeA (i := 12) (v := .pointer p0) (d := 139) (listed' := #[true, true, true, true, true, true, true, true, true, true, true, true, true, false, false]) rfl rfl (by kernel_rfl) (by kernel_rfl) (by kernel_rfl) (by kernel_rfl) (by kernel_rfl) rfl (fun _ _ _ h => h) HA.out trivial (fun w' hSw => ex_load46 (x := .tmp 138) (a := ⟨lib, m, none⟩) rfl (by kernel_rfl) hSw.1.2.2) ?_
  dsimp only [List.set_cons_zero, List.set_cons_succ]
  refine takeB (i := 13) (v := .pointer (some ⟨ib, j, none⟩)) (d := 140) (listed' := #[true, true, true, true, true, true, true, true, true, true, true, true, true, true, false]) rfl rfl (by kernel_rfl) (by kernel_rfl) (by kernel_rfl) (by kernel_rfl) (by kernel_rfl) rfl (fun _ _ _ h => h) (fun _ => HA.out) trivial (fun w' _ => ex_index59 (b := ib) (n := ns) (c := 63) (x := .tmp 130) (y := .tmp 132) (k := j) rfl (by kernel_rfl) (by kernel_rfl) (by first | assumption | omega)) ?_
  dsimp only [List.set_cons_zero, List.set_cons_succ]
  have c0 := (show w10.cell? ⟨ib, j, none⟩ = some (.pointer sv) by rw [H9.out.1.row.cell, HE.out.2.2.2.2.2.1]; simp)
  have f0 := H9.out.1.row.frozen j
  refine wpAnyG_step (i := 14) (by kernel_rfl) rfl (fun K hK => ?_)
  go_simp
  refine hK.out _ _ trivial (fun h => not_early (by kernel_rfl) h) ?_
  clear hK c0 f0 HA
  have H10 : Hid (NodeR (w10.setCell ⟨ib, j, none⟩ (.pointer p0)) nb ib cb ns nk (S1 ++ .pointer p0 :: S2 ++ rS) (K1 ++ .pointer (some ⟨lb, 0, none⟩) :: .pointer (some ⟨xb, 0, none⟩) :: K2 ++ rK) ∧ NodeR (w10.setCell ⟨ib, j, none⟩ (.pointer p0)) lb lib lcb nl ml (P ++ .pointer p0 :: R) (KP ++ .pointer k0 :: KR) ∧ NodeR (w10.setCell ⟨ib, j, none⟩ (.pointer p0)) xb xib xcb (nc + 1) (mc + 1) (.pointer sv :: Q ++ T) (.pointer k0 :: KQ ++ U) ∧ Kep (fun k => k = ib ∨ k = lb ∨ k = lib ∨ k = lcb ∨ k = xb ∨ k = xib ∨ k = xcb) w (w10.setCell ⟨ib, j, none⟩ (.pointer p0))) := ⟨⟨H9.out.1.node.kep (kep_set _ _ _ _) HN.out.2.2.2.2.2.2.2.2.2.1, H9.out.1.row.setSep HE.out.2.2.2.2.2.1, H9.out.1.kid.kep (kep_set _ _ _ _) (Ne.symm HN.out.2.2.2.2.2.2.2.2.2.2.2.2.2.2.2.2.2.2.2.2.2.2.2.2.2.2.2.1)⟩, H9.out.2.1.kep (kep_set _ _ _ _) HN.out.2.2.2.2.2.2.2.2.2.2.2.2.2.2.2.1 (Ne.symm HN.out.2.2.2.1) (Ne.symm HN.out.2.2.2.2.2.2.2.2.2.2.2.2.2.2.2.2.2.2.2.2.2.2.2.2.2.2.2.2.1), H9.out.2.2.1.kep (kep_set _ _ _ _) HN.out.2.2.2.2.2.2.2.2.2.2.2.2.2.2.2.2.2.2.2.2.2.1 (Ne.symm HN.out.2.2.2.2.1) (Ne.symm HN.out.2.2.2.2.2.2.2.2.2.2.2.2.2.2.2.2.2.2.2.2.2.2.2.2.2.2.2.2.2.1), H9.out.2.2.2.trans (kep_set _ _ _ _) (fun j hj e => by simp [e])⟩
  clear H9
  generalize w10.setCell ⟨ib, j, none⟩ (.pointer p0) = w11 at *
  try simp only [Act.put, List.getElem_toArray, List.getElem_cons_succ, List.getElem_cons_zero, List.setIfInBounds_toArray, List.set_cons_zero, List.set_cons_succ]
  refine wpAnyG_done (by kernel_rfl) ?_ _
  refine NoPanic.normal ?_
  go_upto_region 14 with fail
  refine wp_region_G (fun w' => w'.cell? ⟨lb, 1, none⟩ = some (.slice (some ⟨lcb, 0, none⟩) ml 64)) (fun _ => True) [19] (by kernel_rfl) ?_
  have H11 : Hid (NodeR (w11.drew) nb ib cb ns nk (S1 ++ .pointer p0 :: S2 ++ rS) (K1 ++ .pointer (some ⟨lb, 0, none⟩) :: .pointer (some ⟨xb, 0, none⟩) :: K2 ++ rK) ∧ NodeR (w11.drew) lb lib lcb nl ml (P ++ .pointer p0 :: R) (KP ++ .pointer k0 :: KR) ∧ NodeR (w11.drew) xb xib xcb (nc + 1) (mc + 1) (.pointer sv :: Q ++ T) (.pointer k0 :: KQ ++ U) ∧ Kep (fun k => k = ib ∨ k = lb ∨ k = lib ∨ k = lcb ∨ k = xb ∨ k = xib ∨ k = xcb) w (w11.drew)) := ⟨H10.out.1.kep ((Kep.refl (fun _ => False) w11).drew) id id id, H10.out.2.1.kep ((Kep.refl (fun _ => False) w11).drew) id id id, H10.out.2.2.1.kep ((Kep.refl (fun _ => False) w11).drew) id id id, H10.out.2.2.2.trans ((Kep.refl (fun _ => False) w11).drew) (fun _ _ h => h.elim)⟩
  clear H10
  generalize w11.drew = w12 at *
  have HA : Hid (w12.cell? ⟨lb, 1, none⟩ = some (.slice (some ⟨lcb, 0, none⟩) ml 64)) := H11.out.2.1.c1
  refine takeB (i := 0) (v := .pointer (some ⟨lb, 0, none⟩)) (d := 141) (listed' := #[true, false, false, false, false, false, false, false, false, false, false, false, false, false, false, false, false, false, false, false]) rfl rfl (by kernel_rfl) (by kernel_rfl) (by kernel_rfl) (by kernel_rfl) (by kernel_rfl) rfl (fun _ _ _ h => h) (fun _ => HA.out) trivial (fun w' _ => ex_move (x := .tmp 8) (v := .pointer (some ⟨lb, 0, none⟩)) rfl (by kernel_rfl)) ?_
  dsimp only [List.set_cons_zero, List.set_cons_succ]
  refine takeB (i := 1) (v := .pointer (some ⟨lb, 0, none⟩)) (d := 142) (listed' := #[true, true, false, false, false, false, false, false, false, false, false, false, false, false, false, false, false, false, false, false]) rfl rfl (by kernel_rfl) (by kernel_rfl) (by kernel_rfl) (by kernel_rfl) (by kernel_rfl) rfl (fun _ _ _ h => h) (fun _ => HA.out) trivial (fun w' _ => ex_move (x := .tmp 8) (v := .pointer (some ⟨lb, 0, none⟩)) rfl (by kernel_rfl)) ?_
  dsimp only [List.set_cons_zero, List.set_cons_succ]
  refine takeB (i := 2) (v := .pointer (some ⟨lb, 0, none⟩)) (d := 143) (listed' := #[true, true, true, false, false, false, false, false, false, false, false, false, false, false, false, false, false, false, false, false]) rfl rfl (by kernel_rfl) (by kernel_rfl) (by kernel_rfl) (by kernel_rfl) (by kernel_rfl) rfl (fun _ _ _ h => h) (fun _ => HA.out) trivial (fun w' _ => ex_nil (x := .tmp 142) (a := ⟨lb, 0, none⟩) rfl (by kernel_rfl)) ?_
  dsimp only [List.set_cons_zero, List.set_cons_succ]
  refine takeB (i := 3) (v := .pointer (some ⟨lb, 1, none⟩)) (d := 144) (listed' := #[true, true, true, true, false, false, false, false, false, false, false, false, false, false, false, false, false, false, false, false]) rfl rfl (by kernel_rfl) (by kernel_rfl) (by kernel_rfl) (by kernel_rfl) (by kernel_rfl) rfl (fun _ _ _ h => h) (fun _ => HA.out) trivial (fun w' _ => ex_f62_1 (b := lb) (x := .tmp 143) rfl (by kernel_rfl)) ?_
  dsimp only [List.set_cons_zero, List.set_cons_succ]
  refine takeA (i := 4) (v := .slice (some ⟨lcb, 0, none⟩) ml 64) (d := 145) (listed' := #[true, true, true, true, true, false, false, false, false, false, false, false, false, false, false, false, false, false, false, false]) rfl rfl (by kernel_rfl) (by kernel_rfl) (by kernel_rfl) (by kernel_rfl) (by kernel_rfl) rfl (fun _ _ _ h => h) HA.out trivial (fun w' hSw => ex_load60 (x := .tmp 144) (a := ⟨lb, 1, none⟩) rfl (by kernel_rfl) hSw.1) ?_
  dsimp only [List.set_cons_zero, List.set_cons_succ]
  refine takeB (i := 5) (v := .pointer (some ⟨lb, 0, none⟩)) (d := 146) (listed' := #[true, true, true, true, true, true, false, false, false, false, false, false, false, false, false, false, false, false, false, false]) rfl rfl (by kernel_rfl) (by kernel_rfl) (by kernel_rfl) (by kernel_rfl) (by kernel_rfl) rfl (fun _ _ _ h => h) (fun _ => HA.out) trivial (fun w' _ => ex_move (x := .tmp 8) (v := .pointer (some ⟨lb, 0, none⟩)) rfl (by kernel_rfl)) ?_
  dsimp only [List.set_cons_zero, List.set_cons_succ]
  refine takeB (i := 6) (v := .pointer (some ⟨lb, 0, none⟩)) (d := 147) (listed' := #[true, true, true, true, true, true, true, false, false, false, false, false, false, false, false, false, false, false, false, false]) rfl rfl (by kernel_rfl) (by kernel_rfl) (by kernel_rfl) (by kernel_rfl) (by kernel_rfl) rfl (fun _ _ _ h => h) (fun _ => HA.out) trivial (fun w' _ => ex_nil (x := .tmp 146) (a := ⟨lb, 0, none⟩) rfl (by kernel_rfl)) ?_
  dsimp only [List.set_cons_zero, List.set_cons_succ]
  refine takeB (i := 7) (v := .pointer (some ⟨lb, 1, none⟩)) (d := 148) (listed' := #[true, true, true, true, true, true, true, true, false, false, false, false, false, false, false, false, false, false, false, false]) rfl rfl (by kernel_rfl) (by kernel_rfl) (by kernel_rfl) (by kernel_rfl) (by kernel_rfl) rfl (fun _ _ _ h => h) (fun _ => HA.out) trivial (fun w' _ => ex_f62_1 (b := lb) (x := .tmp 147) rfl (by kernel_rfl)) ?_
  dsimp only [List.set_cons_zero, List.set_cons_succ]
  refine takeA (i := 8) (v := .slice (some ⟨lcb, 0, none⟩) ml 64) (d := 149) (listed' := #[true, true, true, true, true, true, true, true, true, false, false, false, false, false, false, false, false, false, false, false]) rfl rfl (by kernel_rfl) (by kernel_rfl) (by kernel_rfl) (by kernel_rfl) (by kernel_rfl) rfl (fun _ _ _ h => h) HA.out trivial (fun w' hSw => ex_load60 (x := .tmp 148) (a := ⟨lb, 1, none⟩) rfl (by kernel_rfl) hSw.1) ?_
  dsimp only [List.set_cons_zero, List.set_cons_succ]
  refine takeB (i := 9) (v := .int .i64 (ml : Int)) (d := 150) (listed' := #[true, true, true, true, true, true, true, true, true, true, false, false, false, false, false, false, false, false, false, false]) rfl rfl (by kernel_rfl) (by kernel_rfl) (by kernel_rfl) (by kernel_rfl) (by kernel_rfl) rfl (fun _ _ _ h => h) (fun _ => HA.out) trivial (fun w' _ => ex_len60 (a := (some ⟨lcb, 0, none⟩)) (n := ml) (c := 64) (x := .tmp 149) rfl (by kernel_rfl)) ?_
  dsimp only [List.set_cons_zero, List.set_cons_succ]
  refine takeB (i := 10) (v := .int .i64 (mk : Int)) (d := 151) (listed' := #[true, true, true, true, true, true, true, true, true, true, true, false, false, false, false, false, false, false, false, false]) rfl rfl (by kernel_rfl) (by kernel_rfl) (by kernel_rfl) (by kernel_rfl) (by kernel_rfl) rfl (fun _ _ _ h => h) (fun _ => HA.out) trivial (fun w' _ => ex_sub1 (x := .tmp 150) rfl (by kernel_rfl) rfl (by assumption) (by omega)) ?_
  dsimp only [List.set_cons_zero, List.set_cons_succ]
  refine takeB (i := 11) (v := .pointer (some ⟨lb, 0, none⟩)) (d := 152) (listed' := #[true, true, true, true, true, true, true, true, true, true, true, true, false, false, false, false, false, false, false, false]) rfl rfl (by kernel_rfl) (by kernel_rfl) (by kernel_rfl) (by kernel_rfl) (by kernel_rfl) rfl (fun _ _ _ h => h) (fun _ => HA.out) trivial (fun w' _ => ex_move (x := .tmp 8) (v := .pointer (some ⟨lb, 0, none⟩)) rfl (by kernel_rfl)) ?_
  dsimp only [List.set_cons_zero, List.set_cons_succ]
  refine takeB (i := 12) (v := .pointer (some ⟨lb, 0, none⟩)) (d := 153) (listed' := #[true, true, true, true, true, true, true, true, true, true, true, true, true, false, false, false, false, false, false, false]) rfl rfl (by kernel_rfl) (by kernel_rfl) (by kernel_rfl) (by kernel_rfl) (by kernel_rfl) rfl (fun _ _ _ h => h) (fun _ => HA.out) trivial (fun w' _ => ex_nil (x := .tmp 152) (a := ⟨lb, 0, none⟩) rfl (by kernel_rfl)) ?_
  dsimp only [List.set_cons_zero, List.set_cons_succ]
  refine takeB (i := 13) (v := .pointer (some ⟨lb, 1, none⟩)) (d := 154) (listed' := #[true, true, true, true, true, true, true, true, true, true, true, true, true, true, false, false, false, false, false, false]) rfl rfl (by kernel_rfl) (by kernel_rfl) (by kernel_rfl) (by kernel_rfl) (by kernel_rfl) rfl (fun _ _ _ h => h) (fun _ => HA.out) trivial (fun w' _ => ex_f62_1 (b := lb) (x := .tmp 153) rfl (by kernel_rfl)) ?_
  dsimp only [List.set_cons_zero, List.set_cons_succ]
  refine takeA (i := 14) (v := .slice (some ⟨lcb, 0, none⟩) ml 64) (d := 155) (listed' := #[true, true, true, true, true, true, true, true, true, true, true, true, true, true, true, false, false, false, false, false]) rfl rfl (by kernel_rfl) (by kernel_rfl) (by kernel_rfl) (by kernel_rfl) (by kernel_rfl) rfl (fun _ _ _ h => h) HA.out trivial (fun w' hSw => ex_load60 (x := .tmp 154) (a := ⟨lb, 1, none⟩) rfl (by kernel_rfl) hSw.1) ?_
  dsimp only [List.set_cons_zero, List.set_cons_succ]
  refine takeB (i := 15) (v := .int .i64 (ml : Int)) (d := 156) (listed' := #[true, true, true, true, true, true, true, true, true, true, true, true, true, true, true, true, false, false, false, false]) rfl rfl (by kernel_rfl) (by kernel_rfl) (by kernel_rfl) (by kernel_rfl) (by kernel_rfl) rfl (fun _ _ _ h => h) (fun _ => HA.out) trivial (fun w' _ => ex_len60 (a := (some ⟨lcb, 0, none⟩)) (n := ml) (c := 64) (x := .tmp 155) rfl (by kernel_rfl)) ?_
  dsimp only [List.set_cons_zero, List.set_cons_succ]
  refine wpAnyG_step (i := 16) (by kernel_rfl) rfl (fun K hK => ?_)
  go_simp
  have hdel := delete44 (i := mk) (n := ml) (c := 64) (A := KP) (B := []) (x := .pointer k0) (rest := KR) (by have := H11.out.2.1.kid; simpa using this) HE.out.2.2.2.2.2.2.2.2.2.2.2.2.1 (by have := HE.out; first | omega | (simp; omega)) HE.out.2.2.2.2.2.2.2.2.2.2.2.2.2.2.1 (by omega) (fun u hu => by cases hu)
  have e2 : ((mk : Nat) : Int) + 1 = (ml : Int) := by omega
  rw [e2] at hdel
  clear e2
  refine Calls.mono hdel ?_
  clear hdel
  rintro e w13 ⟨rfl, hr4, k4⟩
  have H12 : Hid (NodeR w13 nb ib cb ns nk (S1 ++ .pointer p0 :: S2 ++ rS) (K1 ++ .pointer (some ⟨lb, 0, none⟩) :: .pointer (some ⟨xb, 0, none⟩) :: K2 ++ rK) ∧ NodeR w13 lb lib lcb nl ml (P ++ .pointer p0 :: R) (KP ++ .pointer none :: KR) ∧ NodeR w13 xb xib xcb (nc + 1) (mc + 1) (.pointer sv :: Q ++ T) (.pointer k0 :: KQ ++ U) ∧ Kep (fun k => k = ib ∨ k = lb ∨ k = lib ∨ k = lcb ∨ k = xb ∨ k = xib ∨ k = xcb) w w13) := ⟨H11.out.1.kep k4 HN.out.2.2.2.2.2.2.2.2.2.2.2.2.2.1 HN.out.2.2.2.2.2.2.2.2.2.2.2.2.2.2.2.2.2.2.2.2.2.2.2.2.2.2.2.2.1 HN.out.2.2.2.2.2.2.1, ⟨H11.out.2.1.node.kep k4 HN.out.2.2.2.2.2.2.2.2.2.2.2.2.2.2.2.2.2.2.2.1, H11.out.2.1.row.kep k4 HN.out.2.2.2.2.2.2.2.2.2.2.2.2.2.2.2.2.2.2.2.2.2.2.2.2.2.2.2.2.2.2.2.1, by simpa using hr4⟩, H11.out.2.2.1.kep k4 HN.out.2.2.2.2.2.2.2.2.2.2.2.2.2.2.2.2.2.2.2.2.2.2.2.2.2.1 HN.out.2.2.2.2.2.2.2.2.2.2.2.2.2.2.2.2.2.2.2.2.2.2.2.2.2.2.2.2.2.2.2.2.2.2.1 (Ne.symm HN.out.2.2.2.2.2.2.2.2.1), H11.out.2.2.2.trans k4 (fun j hj e => by simp [e])⟩
  refine hK.out _ _ trivial (fun _ => H12.out.2.1.c1) ?_
  clear hK hr4 k4 H11
  try simp only [Act.put, List.getElem_toArray, List.getElem_cons_succ, List.getElem_cons_zero, List.setIfInBounds_toArray, List.set_cons_zero, List.set_cons_succ]
  have HA : Hid (w13.cell? ⟨lb, 1, none⟩ = some (.slice (some ⟨lcb, 0, none⟩) ml 64)) := H12.out.2.1.c1
  refine takeB (i := 17) (v := .pointer (some ⟨lb, 0, none⟩)) (d := 158) (listed' := #[true, true, true, true, true, true, true, true, true, true, true, true, true, true, true, true, true, true, false, false]) rfl rfl (by kernel_rfl) (by kernel_rfl) (by kernel_rfl) (by kernel_rfl) (by kernel_rfl) rfl (fun _ _ _ h => h) (fun _ => HA.out) trivial (fun w' _ => ex_nil (x := .tmp 141) (a := ⟨lb, 0, none⟩) rfl (by kernel_rfl)) ?_
  dsimp only [List.set_cons_zero, List.set_cons_succ]
  refine takeB (i := 18) (v := .pointer (some ⟨lb, 1, none⟩)) (d := 159) (listed' := #[true, true, true, true, true, true, true, true, true, true, true, true, true, true, true, true, true, true, true, false]) rfl rfl (by kernel_rfl) (by kernel_rfl) (by kernel_rfl) (by kernel_rfl) (by kernel_rfl) rfl (fun _ _ _ h => h) (fun _ => HA.out) trivial (fun w' _ => ex_f62_1 (b := lb) (x := .tmp 158) rfl (by kernel_rfl)) ?_
  dsimp only [List.set_cons_zero, List.set_cons_succ]
  have c0 := H12.out.2.1.c1
  have f0 := H12.out.2.1.node.frozen 1
  refine wpAnyG_step (i := 19) (by kernel_rfl) rfl (fun K hK => ?_)
  go_simp
  refine hK.out _ _ trivial (fun h => not_early (by kernel_rfl) h) ?_
  clear hK c0 f0 HA
  have H13 : Hid (NodeR (w13.setCell ⟨lb, 1, none⟩ (.slice (some ⟨lcb, 0, none⟩) (ml - 1) 64)) nb ib cb ns nk (S1 ++ .pointer p0 :: S2 ++ rS) (K1 ++ .pointer (some ⟨lb, 0, none⟩) :: .pointer (some ⟨xb, 0, none⟩) :: K2 ++ rK) ∧ NodeR (w13.setCell ⟨lb, 1, none⟩ (.slice (some ⟨lcb, 0, none⟩) (ml - 1) 64)) lb lib lcb nl (ml - 1) (P ++ .pointer p0 :: R) (KP ++ .pointer none :: KR) ∧ NodeR (w13.setCell ⟨lb, 1, none⟩ (.slice (some ⟨lcb, 0, none⟩) (ml - 1) 64)) xb xib xcb (nc + 1) (mc + 1) (.pointer sv :: Q ++ T) (.pointer k0 :: KQ ++ U) ∧ Kep (fun k => k = ib ∨ k = lb ∨ k = lib ∨ k = lcb ∨ k = xb ∨ k = xib ∨ k = xcb) w (w13.setCell ⟨lb, 1, none⟩ (.slice (some ⟨lcb, 0, none⟩) (ml - 1) 64))) := ⟨H12.out.1.kep (kep_set _ _ _ _) HN.out.1 (Ne.symm HN.out.2.2.2.2.2.2.2.2.2.2.2.2.2.2.2.1) (Ne.symm HN.out.2.2.2.2.2.2.2.2.2.2.2.2.2.2.2.2.2.2.1), H12.out.2.1.set1 _, H12.out.2.2.1.kep (kep_set _ _ _ _) (Ne.symm HN.out.2.2.1) (Ne.symm HN.out.2.2.2.2.2.2.2.2.2.2.2.2.2.2.2.2.2.1) (Ne.symm HN.out.2.2.2.2.2.2.2.2.2.2.2.2.2.2.2.2.2.2.2.2.1), H12.out.2.2.2.trans (kep_set _ _ _ _) (fun j hj e => by simp [e])⟩
  clear H12
  generalize w13.setCell ⟨lb, 1, none⟩ (.slice (some ⟨lcb, 0, none⟩) (ml - 1) 64) = w14 at *
  try simp only [Act.put, List.getElem_toArray, List.getElem_cons_succ, List.getElem_cons_zero, List.setIfInBounds_toArray, List.set_cons_zero, List.set_cons_succ]
  refine wpAnyG_done (by kernel_rfl) ?_ _
  refine NoPanic.normal ?_
  have l0 := H13.out.2.1.c0
  go_wp2_with fail
  refine (delete37 (A := P) (B := []) (x := .pointer p0) (rest := R) (by have := H13.out.2.1.row; simpa using this) HE.out.2.2.2.2.2.2.2.1 (by have := HE.out; first | omega | (simp; omega)) HE.out.2.2.2.2.2.2.2.2.2.1 (by omega) (fun u hu => by cases hu)).mono ?_
  rintro e w90 ⟨rfl, hr9, k9⟩
  have H14 : Hid (NodeR w90 nb ib cb ns nk (S1 ++ .pointer p0 :: S2 ++ rS) (K1 ++ .pointer (some ⟨lb, 0, none⟩) :: .pointer (some ⟨xb, 0, none⟩) :: K2 ++ rK) ∧ NodeR w90 lb lib lcb nl (ml - 1) (P ++ .pointer none :: R) (KP ++ .pointer none :: KR) ∧ NodeR w90 xb xib xcb (nc + 1) (mc + 1) (.pointer sv :: Q ++ T) (.pointer k0 :: KQ ++ U) ∧ Kep (fun k => k = ib ∨ k = lb ∨ k = lib ∨ k = lcb ∨ k = xb ∨ k = xib ∨ k = xcb) w w90) := ⟨H13.out.1.kep k9 HN.out.2.2.2.2.2.2.2.2.2.2.1 HN.out.2.2.2.1 (Ne.symm HN.out.2.2.2.2.2.2.2.2.2.2.2.2.2.2.2.2.2.2.2.2.2.2.2.2.2.2.2.2.2.2.1), ⟨H13.out.2.1.node.kep k9 HN.out.2.2.2.2.2.2.2.2.2.2.2.2.2.2.2.2.1, by simpa using hr9, H13.out.2.1.kid.kep k9 (Ne.symm HN.out.2.2.2.2.2.2.2.2.2.2.2.2.2.2.2.2.2.2.2.2.2.2.2.2.2.2.2.2.2.2.2.1)⟩, H13.out.2.2.1.kep k9 HN.out.2.2.2.2.2.2.2.2.2.2.2.2.2.2.2.2.2.2.2.2.2.2.1 (Ne.symm HN.out.2.2.2.2.2.1) (Ne.symm HN.out.2.2.2.2.2.2.2.2.2.2.2.2.2.2.2.2.2.2.2.2.2.2.2.2.2.2.2.2.2.2.2.2.1), H13.out.2.2.2.trans k9 (fun j hj e => by simp [e])⟩
  have l0 := H14.out.2.1.c0
  have f0 := H14.out.2.1.node.frozen 0
  clear H13 hr9 k9
  go_wp2
  go_ret
  have H15 : Hid (NodeR (w90.setCell ⟨lb, 0, none⟩ (.slice (some ⟨lib, 0, none⟩) (nl - 1) 63)) nb ib cb ns nk (S1 ++ .pointer p0 :: S2 ++ rS) (K1 ++ .pointer (some ⟨lb, 0, none⟩) :: .pointer (some ⟨xb, 0, none⟩) :: K2 ++ rK) ∧ NodeR (w90.setCell ⟨lb, 0, none⟩ (.slice (some ⟨lib, 0, none⟩) (nl - 1) 63)) lb lib lcb (nl - 1) (ml - 1) (P ++ .pointer none :: R) (KP ++ .pointer none :: KR) ∧ NodeR (w90.setCell ⟨lb, 0, none⟩ (.slice (some ⟨lib, 0, none⟩) (nl - 1) 63)) xb xib xcb (nc + 1) (mc + 1) (.pointer sv :: Q ++ T) (.pointer k0 :: KQ ++ U) ∧ Kep (fun k => k = ib ∨ k = lb ∨ k = lib ∨ k = lcb ∨ k = xb ∨ k = xib ∨ k = xcb) w (w90.setCell ⟨lb, 0, none⟩ (.slice (some ⟨lib, 0, none⟩) (nl - 1) 63))) := ⟨H14.out.1.kep (kep_set _ _ _ _) HN.out.1 (Ne.symm HN.out.2.2.2.2.2.2.2.2.2.2.2.2.2.2.2.1) (Ne.symm HN.out.2.2.2.2.2.2.2.2.2.2.2.2.2.2.2.2.2.2.1), H14.out.2.1.set0 _, H14.out.2.2.1.kep (kep_set _ _ _ _) (Ne.symm HN.out.2.2.1) (Ne.symm HN.out.2.2.2.2.2.2.2.2.2.2.2.2.2.2.2.2.2.1) (Ne.symm HN.out.2.2.2.2.2.2.2.2.2.2.2.2.2.2.2.2.2.2.2.2.1), H14.out.2.2.2.trans (kep_set _ _ _ _) (fun j hj e => by simp [e])⟩
  exact ⟨rfl, H15.out⟩
end Go.Proofs.Qxb6615764a
