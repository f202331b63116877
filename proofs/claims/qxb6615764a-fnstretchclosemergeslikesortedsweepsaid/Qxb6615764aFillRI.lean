/-
  The walk of fill (36): a neighbour gives one.
-/
import Derived.Test.Qxb6615764aFillLL
import Derived.Deep.CutRange
namespace Go.Proofs.Qxb6615764a
open Go.RowKit Go.Lib
set_option linter.unusedVariables false
set_option linter.unusedSimpArgs false

set_option maxHeartbeats 4000000 in
set_option maxRecDepth 100000 in
theorem fill_ri {w : World} {tv : Value} {nb ib cb i ns nk zc zl nl ml nc mc rb rib rcb xb xib xcb : Nat} {S1 S2 rS K1 K2 rK : List Value} {P R Q T KP KR KQ U : List Value} {q0 u0 : Value} {sv p0 k0 : Option Addr}
    (hN : NodeR w nb ib cb ns nk (S1 ++ .pointer sv :: S2 ++ rS) (K1 ++ .pointer (some ⟨xb, 0, none⟩) :: .pointer (some ⟨rb, 0, none⟩) :: K2 ++ rK)) (hL : NodeR w rb rib rcb nl ml (.pointer p0 :: P ++ R) (.pointer k0 :: KP ++ KR)) (hC : NodeR w xb xib xcb nc mc (Q ++ q0 :: T) (KQ ++ u0 :: U))
    (hns : ns = S1.length + 1 + S2.length) (hS63 : 63 = ns + rS.length) (hnk : nk = K1.length + 2 + K2.length) (hK64 : 64 = nk + rK.length) (hi : i = K1.length) (hjS : i = S1.length) (hnl : nl = P.length + 1) (hl63 : 63 = nl + R.length) (hnc : nc = Q.length) (hc63 : 63 = nc + 1 + T.length) (hml : ml = KP.length + 1) (hml64 : 64 = ml + KR.length) (hmc : mc = KQ.length) (hmc64 : 64 = mc + 1 + U.length)
    (hP1 : ∀ u ∈ P, u.oneCell' = true) (hKP1 : ∀ u ∈ KP, u.oneCell' = true) (hnbrb : nb ≠ rb) (hnbxb : nb ≠ xb) (hrbxb : rb ≠ xb) (hibrib : ib ≠ rib) (hibxib : ib ≠ xib) (hribxib : rib ≠ xib) (hcbrcb : cb ≠ rcb) (hcbxcb : cb ≠ xcb) (hrcbxcb : rcb ≠ xcb) (hsc : SizeIs w xb zc) (hzc : (zc : Int) ≤ 32) (hsl : SizeIs w rb zl) (hzl : (32 : Int) < (zl : Int)) (hleft : (i : Int) = 0 ∨ ∃ j y zy : Nat, (i : Int) - 1 = (j : Int) ∧ K1[j]? = some (.pointer (some ⟨y, 0, none⟩)) ∧ SizeIs w y zy ∧ (zy : Int) ≤ 32) :
    Calls Try.prog 36 #[tv, .pointer (some ⟨nb, 0, none⟩), .int .i64 (i : Int)] w fun e w' => e = .returned (.int .i64 (i : Int)) ∧ NodeR w' nb ib cb ns nk (S1 ++ .pointer p0 :: S2 ++ rS) (K1 ++ .pointer (some ⟨xb, 0, none⟩) :: .pointer (some ⟨rb, 0, none⟩) :: K2 ++ rK) ∧ NodeR w' rb rib rcb (nl - 1) (ml - 1) (P ++ .pointer none :: R) (KP ++ .pointer none :: KR) ∧ NodeR w' xb xib xcb (nc + 1) (mc + 1) (Q ++ .pointer sv :: T) (KQ ++ .pointer k0 :: U) ∧ Kep (fun k => k = ib ∨ k = rb ∨ k = rib ∨ k = rcb ∨ k = xb ∨ k = xib ∨ k = xcb) w w' := by
  have n1 := hN.c1
  have l0 := hL.c0
  have c1 := hC.c1
  have hik : (i : Int) < (nk : Int) := by omega
  have hi64 : (i : Int) ≤ 64 := by omega
  have hki : w.cell? ⟨cb, i, none⟩ = some (.pointer (some ⟨xb, 0, none⟩)) := by rw [hN.kid.cell, hi]; simp
  have hkj : w.cell? ⟨cb, i + 1, none⟩ = some (.pointer (some ⟨rb, 0, none⟩)) := by rw [hN.kid.cell, hi]; simp [List.getElem?_append_right]
  have hik1 : (i : Int) + 1 < (nk : Int) := by omega
  have his : (i : Int) < (ns : Int) := by omega
  have hnl0 : (0 : Int) < (nl : Int) := by omega
  have hml0 : (0 : Int) < (ml : Int) := by omega
  have HK : Hid ((i : Int) = 0 ∨ ∃ j y zy : Nat, (i : Int) - 1 = (j : Int) ∧ w.cell? ⟨cb, j, none⟩ = some (.pointer (some ⟨y, 0, none⟩)) ∧ SizeIs w y zy ∧ (zy : Int) ≤ 32) := hleft.imp id fun ⟨j, y, zy, h1, h2, h3⟩ => ⟨j, y, zy, h1, by rw [hN.kid.cell, List.append_assoc, List.getElem?_append_left (List.getElem?_eq_some_iff.1 h2).1]; exact h2, h3⟩
  have hzc' : ¬ (32 : Int) < (zc : Int) := by omega
  have H0 : Hid (NodeR w nb ib cb ns nk (S1 ++ .pointer sv :: S2 ++ rS) (K1 ++ .pointer (some ⟨xb, 0, none⟩) :: .pointer (some ⟨rb, 0, none⟩) :: K2 ++ rK) ∧ NodeR w rb rib rcb nl ml (.pointer p0 :: P ++ R) (.pointer k0 :: KP ++ KR) ∧ NodeR w xb xib xcb nc mc (Q ++ q0 :: T) (KQ ++ u0 :: U) ∧ Kep (fun k => k = ib ∨ k = rb ∨ k = rib ∨ k = rcb ∨ k = xb ∨ k = xib ∨ k = xcb) w w) := ⟨hN, hL, hC, Kep.refl _ _⟩
  have HE : Hid (ns = S1.length + 1 + S2.length ∧ 63 = ns + rS.length ∧ nk = K1.length + 2 + K2.length ∧ 64 = nk + rK.length ∧ i = K1.length ∧ i = S1.length ∧ nl = P.length + 1 ∧ 63 = nl + R.length ∧ nc = Q.length ∧ 63 = nc + 1 + T.length ∧ ml = KP.length + 1 ∧ 64 = ml + KR.length ∧ mc = KQ.length ∧ 64 = mc + 1 + U.length) := ⟨hns, hS63, hnk, hK64, hi, hjS, hnl, hl63, hnc, hc63, hml, hml64, hmc, hmc64⟩
  have HO : Hid ((∀ u ∈ P, u.oneCell' = true) ∧ (∀ u ∈ KP, u.oneCell' = true)) := ⟨hP1, hKP1⟩
  have HN : Hid (nb ≠ rb ∧ nb ≠ xb ∧ rb ≠ xb ∧ ib ≠ rib ∧ ib ≠ xib ∧ rib ≠ xib ∧ cb ≠ rcb ∧ cb ≠ xcb ∧ rcb ≠ xcb ∧ nb ≠ ib ∧ nb ≠ rib ∧ nb ≠ xib ∧ nb ≠ cb ∧ nb ≠ rcb ∧ nb ≠ xcb ∧ rb ≠ ib ∧ rb ≠ rib ∧ rb ≠ xib ∧ rb ≠ cb ∧ rb ≠ rcb ∧ rb ≠ xcb ∧ xb ≠ ib ∧ xb ≠ rib ∧ xb ≠ xib ∧ xb ≠ cb ∧ xb ≠ rcb ∧ xb ≠ xcb ∧ ib ≠ cb ∧ ib ≠ rcb ∧ ib ≠ xcb ∧ rib ≠ cb ∧ rib ≠ rcb ∧ rib ≠ xcb ∧ xib ≠ cb ∧ xib ≠ rcb ∧ xib ≠ xcb) := ⟨hnbrb, hnbxb, hrbxb, hibrib, hibxib, hribxib, hcbrcb, hcbxcb, hrcbxcb, row_ne hN.node hN.row (by decide), row_ne hN.node hL.row (by decide), row_ne hN.node hC.row (by decide), row_ne hN.node hN.kid (by decide), row_ne hN.node hL.kid (by decide), row_ne hN.node hC.kid (by decide), row_ne hL.node hN.row (by decide), row_ne hL.node hL.row (by decide), row_ne hL.node hC.row (by decide), row_ne hL.node hN.kid (by decide), row_ne hL.node hL.kid (by decide), row_ne hL.node hC.kid (by decide), row_ne hC.node hN.row (by decide), row_ne hC.node hL.row (by decide), row_ne hC.node hC.row (by decide), row_ne hC.node hN.kid (by decide), row_ne hC.node hL.kid (by decide), row_ne hC.node hC.kid (by decide), row_ne hN.row hN.kid (by decide), row_ne hN.row hL.kid (by decide), row_ne hN.row hC.kid (by decide), row_ne hL.row hN.kid (by decide), row_ne hL.row hL.kid (by decide), row_ne hL.row hC.kid (by decide), row_ne hC.row hN.kid (by decide), row_ne hC.row hL.kid (by decide), row_ne hC.row hC.kid (by decide)⟩
  have HZ : Hid (SizeIs w xb zc ∧ SizeIs w rb zl) := ⟨hsc, hsl⟩
  clear hN hL hC hns hS63 hnk hK64 hi hjS hnl hl63 hnc hc63 hml hml64 hmc hmc64 hP1 hKP1 hnbrb hnbxb hrbxb hibrib hibxib hribxib hcbrcb hcbxcb hrcbxcb hsc hsl hzc hleft
  go_enter Try.func36, Try.ntmps36
  go_wp2_with fail
  refine HZ.out.1.mono ?_
  rintro e w' ⟨rfl, hw⟩
  obtain rfl := hw.symm
  clear hw
  go_upto_region 5 with fail
  go_cut [26] from 27 to 40 (fun s26 wd => s26 = .bool false ∧ wd = w)
  case first =>
    rcases HK.out with hi0 | ⟨j, y, zy, hij, hyc, hys, hzy⟩
    · clear HK
      go_wp2_with fail
      go_meet
      case rel => exact ⟨by simp, rfl⟩
    · have hi0 : (0 : Int) < (i : Int) := by omega
      have hjk : (j : Int) < (nk : Int) := by omega
      have hjw : IntKind.i64.wrap (j : Int) = (j : Int) := by rw [IntKind.wrap_i64]; omega
      have hzy' : ¬ (32 : Int) < (zy : Int) := by omega
      have HY : Hid (SizeIs w y zy) := hys
      clear HK hys
      go_wp2_with fail
      refine HY.out.mono ?_
      rintro e w' ⟨rfl, hw⟩
      obtain rfl := hw.symm
      clear hw
      go_wp2_with fail
      go_meet
      case rel => exact ⟨by simp [hzy'], rfl⟩
  case rest =>
    obtain ⟨rfl, hww⟩ := hcut
    obtain rfl := hww.symm
    clear HK hww
    go_wp2_with fail
    refine HZ.out.2.mono ?_
    rintro e w' ⟨rfl, hw⟩
    obtain rfl := hw.symm
    clear hw
    go_upto_region 21 with fail
    clear l0 c1 n1 hki hkj
    refine wp_region_G (fun w' => w'.cell? ⟨xb, 0, none⟩ = some (.slice (some ⟨xib, 0, none⟩) nc 63) ∧ w'.cell? ⟨nb, 0, none⟩ = some (.slice (some ⟨ib, 0, none⟩) ns 63) ∧ w'.cell? ⟨ib, i, none⟩ = some (.pointer sv)) (fun _ => True) [16] (by kernel_rfl) ?_
    have H1 : Hid (NodeR (w.drew) nb ib cb ns nk (S1 ++ .pointer sv :: S2 ++ rS) (K1 ++ .pointer (some ⟨xb, 0, none⟩) :: .pointer (some ⟨rb, 0, none⟩) :: K2 ++ rK) ∧ NodeR (w.drew) rb rib rcb nl ml (.pointer p0 :: P ++ R) (.pointer k0 :: KP ++ KR) ∧ NodeR (w.drew) xb xib xcb nc mc (Q ++ q0 :: T) (KQ ++ u0 :: U) ∧ Kep (fun k => k = ib ∨ k = rb ∨ k = rib ∨ k = rcb ∨ k = xb ∨ k = xib ∨ k = xcb) w (w.drew)) := ⟨H0.out.1.kep ((Kep.refl (fun _ => False) w).drew) id id id, H0.out.2.1.kep ((Kep.refl (fun _ => False) w).drew) id id id, H0.out.2.2.1.kep ((Kep.refl (fun _ => False) w).drew) id id id, H0.out.2.2.2.trans ((Kep.refl (fun _ => False) w).drew) (fun _ _ h => h.elim)⟩
    clear H0
    generalize w.drew = w2 at *
    have HA : Hid (w2.cell? ⟨xb, 0, none⟩ = some (.slice (some ⟨xib, 0, none⟩) nc 63) ∧ w2.cell? ⟨nb, 0, none⟩ = some (.slice (some ⟨ib, 0, none⟩) ns 63) ∧ w2.cell? ⟨ib, i, none⟩ = some (.pointer sv)) := ⟨H1.out.2.2.1.c0, H1.out.1.c0, by rw [H1.out.1.row.cell, HE.out.2.2.2.2.2.1]; simp⟩
    refine takeB (i := 0) (v := .pointer (some ⟨xb, 0, none⟩)) (d := 232) (listed' := #[true, false, false, false, false, false, false, false, false, false, false, false, false, false, false, false, false]) rfl rfl (by kernel_rfl) (by kernel_rfl) (by kernel_rfl) (by kernel_rfl) (by kernel_rfl) rfl (fun _ _ _ h => h) (fun _ => HA.out) trivial (fun w' _ => ex_move (x := .tmp 7) (v := .pointer (some ⟨xb, 0, none⟩)) rfl (by kernel_rfl)) ?_
    dsimp only [List.set_cons_zero, List.set_cons_succ]
    refine takeB (i := 1) (v := .pointer (some ⟨xb, 0, none⟩)) (d := 233) (listed' := #[true, true, false, false, false, false, false, false, false, false, false, false, false, false, false, false, false]) rfl rfl (by kernel_rfl) (by kernel_rfl) (by kernel_rfl) (by kernel_rfl) (by kernel_rfl) rfl (fun _ _ _ h => h) (fun _ => HA.out) trivial (fun w' _ => ex_move (x := .tmp 7) (v := .pointer (some ⟨xb, 0, none⟩)) rfl (by kernel_rfl)) ?_
    dsimp only [List.set_cons_zero, List.set_cons_succ]
    refine takeB (i := 2) (v := .pointer (some ⟨xb, 0, none⟩)) (d := 234) (listed' := #[true, true, true, false, false, false, false, false, false, false, false, false, false, false, false, false, false]) rfl rfl (by kernel_rfl) (by kernel_rfl) (by kernel_rfl) (by kernel_rfl) (by kernel_rfl) rfl (fun _ _ _ h => h) (fun _ => HA.out) trivial (fun w' _ => ex_nil (x := .tmp 233) (a := ⟨xb, 0, none⟩) rfl (by kernel_rfl)) ?_
    dsimp only [List.set_cons_zero, List.set_cons_succ]
    refine takeB (i := 3) (v := .pointer (some ⟨xb, 0, none⟩)) (d := 235) (listed' := #[true, true, true, true, false, false, false, false, false, false, false, false, false, false, false, false, false]) rfl rfl (by kernel_rfl) (by kernel_rfl) (by kernel_rfl) (by kernel_rfl) (by kernel_rfl) rfl (fun _ _ _ h => h) (fun _ => HA.out) trivial (fun w' _ => ex_f62_0 (b := xb) (x := .tmp 234) rfl (by kernel_rfl)) ?_
    dsimp only [List.set_cons_zero, List.set_cons_succ]
    refine takeA (i := 4) (v := .slice (some ⟨xib, 0, none⟩) nc 63) (d := 236) (listed' := #[true, true, true, true, true, false, false, false, false, false, false, false, false, false, false, false, false]) rfl rfl (by kernel_rfl) (by kernel_rfl) (by kernel_rfl) (by kernel_rfl) (by kernel_rfl) rfl (fun _ _ _ h => h) HA.out trivial (fun w' hSw => ex_load59 (x := .tmp 235) (a := ⟨xb, 0, none⟩) rfl (by kernel_rfl) hSw.1.1) ?_
    dsimp only [List.set_cons_zero, List.set_cons_succ]
    refine takeB (i := 5) (v := .pointer (some ⟨nb, 0, none⟩)) (d := 237) (listed' := #[true, true, true, true, true, true, false, false, false, false, false, false, false, false, false, false, false]) rfl rfl (by kernel_rfl) (by kernel_rfl) (by kernel_rfl) (by kernel_rfl) (by kernel_rfl) rfl (fun _ _ _ h => h) (fun _ => HA.out) trivial (fun w' _ => ex_move (x := .tmp 1) (v := .pointer (some ⟨nb, 0, none⟩)) rfl (by kernel_rfl)) ?_
    dsimp only [List.set_cons_zero, List.set_cons_succ]
    refine takeB (i := 6) (v := .pointer (some ⟨nb, 0, none⟩)) (d := 238) (listed' := #[true, true, true, true, true, true, true, false, false, false, false, false, false, false, false, false, false]) rfl rfl (by kernel_rfl) (by kernel_rfl) (by kernel_rfl) (by kernel_rfl) (by kernel_rfl) rfl (fun _ _ _ h => h) (fun _ => HA.out) trivial (fun w' _ => ex_nil (x := .tmp 237) (a := ⟨nb, 0, none⟩) rfl (by kernel_rfl)) ?_
    dsimp only [List.set_cons_zero, List.set_cons_succ]
    refine takeB (i := 7) (v := .pointer (some ⟨nb, 0, none⟩)) (d := 239) (listed' := #[true, true, true, true, true, true, true, true, false, false, false, false, false, false, false, false, false]) rfl rfl (by kernel_rfl) (by kernel_rfl) (by kernel_rfl) (by kernel_rfl) (by kernel_rfl) rfl (fun _ _ _ h => h) (fun _ => HA.out) trivial (fun w' _ => ex_f62_0 (b := nb) (x := .tmp 238) rfl (by kernel_rfl)) ?_
    dsimp only [List.set_cons_zero, List.set_cons_succ]
    refine takeA (i := 8) (v := .slice (some ⟨ib, 0, none⟩) ns 63) (d := 240) (listed' := #[true, true, true, true, true, true, true, true, true, false, false, false, false, false, false, false, false]) rfl rfl (by kernel_rfl) (by kernel_rfl) (by kernel_rfl) (by kernel_rfl) (by kernel_rfl) rfl (fun _ _ _ h => h) HA.out trivial (fun w' hSw => ex_load59 (x := .tmp 239) (a := ⟨nb, 0, none⟩) rfl (by kernel_rfl) hSw.1.2.1) ?_
    dsimp only [List.set_cons_zero, List.set_cons_succ]
    refine takeB (i := 9) (v := .int .i64 (i : Int)) (d := 241) (listed' := #[true, true, true, true, true, true, true, true, true, true, false, false, false, false, false, false, false]) rfl rfl (by kernel_rfl) (by kernel_rfl) (by kernel_rfl) (by kernel_rfl) (by kernel_rfl) rfl (fun _ _ _ h => h) (fun _ => HA.out) trivial (fun w' _ => ex_move (x := .tmp 2) (v := .int .i64 (i : Int)) rfl (by kernel_rfl)) ?_
    dsimp only [List.set_cons_zero, List.set_cons_succ]
    refine takeB (i := 10) (v := .pointer (some ⟨ib, i, none⟩)) (d := 242) (listed' := #[true, true, true, true, true, true, true, true, true, true, true, false, false, false, false, false, false]) rfl rfl (by kernel_rfl) (by kernel_rfl) (by kernel_rfl) (by kernel_rfl) (by kernel_rfl) rfl (fun _ _ _ h => h) (fun _ => HA.out) trivial (fun w' _ => ex_index59 (b := ib) (n := ns) (c := 63) (x := .tmp 240) (y := .tmp 241) (k := i) rfl (by kernel_rfl) (by kernel_rfl) (by first | assumption | omega)) ?_
    dsimp only [List.set_cons_zero, List.set_cons_succ]
    refine takeA (i := 11) (v := .pointer sv) (d := 243) (listed' := #[true, true, true, true, true, true, true, true, true, true, true, true, false, false, false, false, false]) rfl rfl (by kernel_rfl) (by kernel_rfl) (by kernel_rfl) (by kernel_rfl) (by kernel_rfl) rfl (fun _ _ _ h => h) HA.out trivial (fun w' hSw => ex_load46 (x := .tmp 242) (a := ⟨ib, i, none⟩) rfl (by kernel_rfl) hSw.1.2.2) ?_
    dsimp only [List.set_cons_zero, List.set_cons_succ]
    refine wpAnyG_step (i := 12) (by kernel_rfl) rfl (fun K hK => ?_)
    go_simp
    have k2 : Kep (fun _ => False) w2 (w2.alloc (.cells #[.pointer sv] 46)) := (Kep.refl _ _).alloc _
    have hv : RowB (w2.alloc (.cells #[.pointer sv] 46)) w2.heap.size 46 [.pointer sv] := row_new w2 46 [.pointer sv]
    have hvl : w2.heap.size ≠ xib := Nat.ne_of_gt H1.out.2.2.1.row.lt
    have H2 : Hid (NodeR (w2.alloc (.cells #[.pointer sv] 46)) nb ib cb ns nk (S1 ++ .pointer sv :: S2 ++ rS) (K1 ++ .pointer (some ⟨xb, 0, none⟩) :: .pointer (some ⟨rb, 0, none⟩) :: K2 ++ rK) ∧ NodeR (w2.alloc (.cells #[.pointer sv] 46)) rb rib rcb nl ml (.pointer p0 :: P ++ R) (.pointer k0 :: KP ++ KR) ∧ NodeR (w2.alloc (.cells #[.pointer sv] 46)) xb xib xcb nc mc (Q ++ q0 :: T) (KQ ++ u0 :: U) ∧ Kep (fun k => k = ib ∨ k = rb ∨ k = rib ∨ k = rcb ∨ k = xb ∨ k = xib ∨ k = xcb) w (w2.alloc (.cells #[.pointer sv] 46))) := ⟨H1.out.1.kep k2 id id id, H1.out.2.1.kep k2 id id id, H1.out.2.2.1.kep k2 id id id, H1.out.2.2.2.trans k2 (fun _ _ h => h.elim)⟩
    refine hK.out _ _ trivial (fun _ => ⟨H2.out.2.2.1.c0, H2.out.1.c0, by rw [H2.out.1.row.cell, HE.out.2.2.2.2.2.1]; simp⟩) ?_
    clear hK k2 H1 HA
    generalize w2.heap.size = vb at *
    generalize w2.alloc (.cells #[.pointer sv] 46) = w3 at *
    try simp only [Act.put, List.getElem_toArray, List.getElem_cons_succ, List.getElem_cons_zero, List.setIfInBounds_toArray, List.set_cons_zero, List.set_cons_succ]
    have ap : ∀ ty, (Builtin.append_ #[59, 59] ty #[.slice (some ⟨xib, 0, none⟩) nc 63, .slice (some ⟨vb, 0, none⟩) 1 1]).run Try.prog w3 = .ok (.slice (some ⟨xib, 0, none⟩) (nc + 1) 63) (w3.setCells xib nc [.pointer sv]) ∧ RowB (w3.setCells xib nc [.pointer sv]) xib 46 (Q ++ [.pointer sv] ++ T) ∧ Kep (fun k => k = xib) w3 (w3.setCells xib nc [.pointer sv]) := fun ty =>
      append59 (X := Q) (R1 := [q0]) (R2 := T) (A := []) (news := [.pointer sv]) (A2 := []) (by have := H2.out.2.2.1.row; simpa using this) HE.out.2.2.2.2.2.2.2.2.1 (by have := HE.out; first | omega | (simp; omega)) rfl rfl hv rfl (fun u hu => by simp at hu; subst hu; rfl) ty 1
    refine wpAnyG_step (i := 13) (by kernel_rfl) rfl (fun K hK => ?_)
    refine step_append_runI rfl (.tmp 236) (.tmp 244) 59 rfl _ _ rfl rfl (ap _).1 ?_
    have k4 := (ap 0).2.2
    have hr4 := (ap 0).2.1
    have H3 : Hid (NodeR (w3.setCells xib nc [.pointer sv]) nb ib cb ns nk (S1 ++ .pointer sv :: S2 ++ rS) (K1 ++ .pointer (some ⟨xb, 0, none⟩) :: .pointer (some ⟨rb, 0, none⟩) :: K2 ++ rK) ∧ NodeR (w3.setCells xib nc [.pointer sv]) rb rib rcb nl ml (.pointer p0 :: P ++ R) (.pointer k0 :: KP ++ KR) ∧ NodeR (w3.setCells xib nc [.pointer sv]) xb xib xcb nc mc (Q ++ .pointer sv :: T) (KQ ++ u0 :: U) ∧ Kep (fun k => k = ib ∨ k = rb ∨ k = rib ∨ k = rcb ∨ k = xb ∨ k = xib ∨ k = xcb) w (w3.setCells xib nc [.pointer sv])) := ⟨H2.out.1.kep k4 HN.out.2.2.2.2.2.2.2.2.2.2.2.1 HN.out.2.2.2.2.1 (Ne.symm HN.out.2.2.2.2.2.2.2.2.2.2.2.2.2.2.2.2.2.2.2.2.2.2.2.2.2.2.2.2.2.2.2.2.2.1), H2.out.2.1.kep k4 HN.out.2.2.2.2.2.2.2.2.2.2.2.2.2.2.2.2.2.1 HN.out.2.2.2.2.2.1 (Ne.symm HN.out.2.2.2.2.2.2.2.2.2.2.2.2.2.2.2.2.2.2.2.2.2.2.2.2.2.2.2.2.2.2.2.2.2.2.1), ⟨H2.out.2.2.1.node.kep k4 HN.out.2.2.2.2.2.2.2.2.2.2.2.2.2.2.2.2.2.2.2.2.2.2.2.1, by simpa using hr4, H2.out.2.2.1.kid.kep k4 (Ne.symm HN.out.2.2.2.2.2.2.2.2.2.2.2.2.2.2.2.2.2.2.2.2.2.2.2.2.2.2.2.2.2.2.2.2.2.2.2)⟩, H2.out.2.2.2.trans k4 (fun j hj e => by simp [e])⟩
    refine hK.out _ _ trivial (fun _ => ⟨H3.out.2.2.1.c0, H3.out.1.c0, by rw [H3.out.1.row.cell, HE.out.2.2.2.2.2.1]; simp⟩) ?_
    clear hK hr4 k4 hv hvl ap H2
    generalize w3.setCells xib nc [.pointer sv] = w4 at *
    try simp only [Act.put, List.getElem_toArray, List.getElem_cons_succ, List.getElem_cons_zero, List.setIfInBounds_toArray, List.set_cons_zero, List.set_cons_succ]
    have HA : Hid (w4.cell? ⟨xb, 0, none⟩ = some (.slice (some ⟨xib, 0, none⟩) nc 63) ∧ w4.cell? ⟨nb, 0, none⟩ = some (.slice (some ⟨ib, 0, none⟩) ns 63) ∧ w4.cell? ⟨ib, i, none⟩ = some (.pointer sv)) := ⟨H3.out.2.2.1.c0, H3.out.1.c0, by rw [H3.out.1.row.cell, HE.out.2.2.2.2.2.1]; simp⟩
    refine takeB (i := 14) (v := .pointer (some ⟨xb, 0, none⟩)) (d := 246) (listed' := #[true, true, true, true, true, true, true, true, true, true, true, true, true, true, true, false, false]) rfl rfl (by kernel_rfl) (by kernel_rfl) (by kernel_rfl) (by kernel_rfl) (by kernel_rfl) rfl (fun _ _ _ h => h) (fun _ => HA.out) trivial (fun w' _ => ex_nil (x := .tmp 232) (a := ⟨xb, 0, none⟩) rfl (by kernel_rfl)) ?_
    dsimp only [List.set_cons_zero, List.set_cons_succ]
    refine takeB (i := 15) (v := .pointer (some ⟨xb, 0, none⟩)) (d := 247) (listed' := #[true, true, true, true, true, true, true, true, true, true, true, true, true, true, true, true, false]) rfl rfl (by kernel_rfl) (by kernel_rfl) (by kernel_rfl) (by kernel_rfl) (by kernel_rfl) rfl (fun _ _ _ h => h) (fun _ => HA.out) trivial (fun w' _ => ex_f62_0 (b := xb) (x := .tmp 246) rfl (by kernel_rfl)) ?_
    dsimp only [List.set_cons_zero, List.set_cons_succ]
    have c0 := H3.out.2.2.1.c0
    have f0 := H3.out.2.2.1.node.frozen 0
    refine wpAnyG_step (i := 16) (by kernel_rfl) rfl (fun K hK => ?_)
    go_simp
    refine hK.out _ _ trivial (fun h => not_early (by kernel_rfl) h) ?_
    clear hK c0 f0 HA
    have H4 : Hid (NodeR (w4.setCell ⟨xb, 0, none⟩ (.slice (some ⟨xib, 0, none⟩) (nc + 1) 63)) nb ib cb ns nk (S1 ++ .pointer sv :: S2 ++ rS) (K1 ++ .pointer (some ⟨xb, 0, none⟩) :: .pointer (some ⟨rb, 0, none⟩) :: K2 ++ rK) ∧ NodeR (w4.setCell ⟨xb, 0, none⟩ (.slice (some ⟨xib, 0, none⟩) (nc + 1) 63)) rb rib rcb nl ml (.pointer p0 :: P ++ R) (.pointer k0 :: KP ++ KR) ∧ NodeR (w4.setCell ⟨xb, 0, none⟩ (.slice (some ⟨xib, 0, none⟩) (nc + 1) 63)) xb xib xcb (nc + 1) mc (Q ++ .pointer sv :: T) (KQ ++ u0 :: U) ∧ Kep (fun k => k = ib ∨ k = rb ∨ k = rib ∨ k = rcb ∨ k = xb ∨ k = xib ∨ k = xcb) w (w4.setCell ⟨xb, 0, none⟩ (.slice (some ⟨xib, 0, none⟩) (nc + 1) 63))) := ⟨H3.out.1.kep (kep_set _ _ _ _) HN.out.2.1 (Ne.symm HN.out.2.2.2.2.2.2.2.2.2.2.2.2.2.2.2.2.2.2.2.2.2.1) (Ne.symm HN.out.2.2.2.2.2.2.2.2.2.2.2.2.2.2.2.2.2.2.2.2.2.2.2.2.1), H3.out.2.1.kep (kep_set _ _ _ _) HN.out.2.2.1 (Ne.symm HN.out.2.2.2.2.2.2.2.2.2.2.2.2.2.2.2.2.2.2.2.2.2.2.1) (Ne.symm HN.out.2.2.2.2.2.2.2.2.2.2.2.2.2.2.2.2.2.2.2.2.2.2.2.2.2.1), H3.out.2.2.1.set0 _, H3.out.2.2.2.trans (kep_set _ _ _ _) (fun j hj e => by simp [e])⟩
    clear H3
    generalize w4.setCell ⟨xb, 0, none⟩ (.slice (some ⟨xib, 0, none⟩) (nc + 1) 63) = w5 at *
    try simp only [Act.put, List.getElem_toArray, List.getElem_cons_succ, List.getElem_cons_zero, List.setIfInBounds_toArray, List.set_cons_zero, List.set_cons_succ]
    refine wpAnyG_done (by kernel_rfl) ?_ _
    refine NoPanic.normal ?_
    go_upto_region 22 with fail
    refine wp_region_G (fun w' => w'.cell? ⟨xb, 1, none⟩ = some (.slice (some ⟨xcb, 0, none⟩) mc 64) ∧ w'.cell? ⟨rb, 1, none⟩ = some (.slice (some ⟨rcb, 0, none⟩) ml 64) ∧ w'.cell? ⟨rcb, 0, none⟩ = some (.pointer k0)) (fun _ => True) [15] (by kernel_rfl) ?_
    have H5 : Hid (NodeR (w5.drew) nb ib cb ns nk (S1 ++ .pointer sv :: S2 ++ rS) (K1 ++ .pointer (some ⟨xb, 0, none⟩) :: .pointer (some ⟨rb, 0, none⟩) :: K2 ++ rK) ∧ NodeR (w5.drew) rb rib rcb nl ml (.pointer p0 :: P ++ R) (.pointer k0 :: KP ++ KR) ∧ NodeR (w5.drew) xb xib xcb (nc + 1) mc (Q ++ .pointer sv :: T) (KQ ++ u0 :: U) ∧ Kep (fun k => k = ib ∨ k = rb ∨ k = rib ∨ k = rcb ∨ k = xb ∨ k = xib ∨ k = xcb) w (w5.drew)) := ⟨H4.out.1.kep ((Kep.refl (fun _ => False) w5).drew) id id id, H4.out.2.1.kep ((Kep.refl (fun _ => False) w5).drew) id id id, H4.out.2.2.1.kep ((Kep.refl (fun _ => False) w5).drew) id id id, H4.out.2.2.2.trans ((Kep.refl (fun _ => False) w5).drew) (fun _ _ h => h.elim)⟩
    clear H4
    generalize w5.drew = w6 at *
    have HA : Hid (w6.cell? ⟨xb, 1, none⟩ = some (.slice (some ⟨xcb, 0, none⟩) mc 64) ∧ w6.cell? ⟨rb, 1, none⟩ = some (.slice (some ⟨rcb, 0, none⟩) ml 64) ∧ w6.cell? ⟨rcb, 0, none⟩ = some (.pointer k0)) := ⟨H5.out.2.2.1.c1, H5.out.2.1.c1, by rw [H5.out.2.1.kid.cell]; rfl⟩
    refine takeB (i := 0) (v := .pointer (some ⟨xb, 0, none⟩)) (d := 248) (listed' := #[true, false, false, false, false, false, false, false, false, false, false, false, false, false, false, false]) rfl rfl (by kernel_rfl) (by kernel_rfl) (by kernel_rfl) (by kernel_rfl) (by kernel_rfl) rfl (fun _ _ _ h => h) (fun _ => HA.out) trivial (fun w' _ => ex_move (x := .tmp 7) (v := .pointer (some ⟨xb, 0, none⟩)) rfl (by kernel_rfl)) ?_
    dsimp only [List.set_cons_zero, List.set_cons_succ]
    refine takeB (i := 1) (v := .pointer (some ⟨xb, 0, none⟩)) (d := 249) (listed' := #[true, true, false, false, false, false, false, false, false, false, false, false, false, false, false, false]) rfl rfl (by kernel_rfl) (by kernel_rfl) (by kernel_rfl) (by kernel_rfl) (by kernel_rfl) rfl (fun _ _ _ h => h) (fun _ => HA.out) trivial (fun w' _ => ex_move (x := .tmp 7) (v := .pointer (some ⟨xb, 0, none⟩)) rfl (by kernel_rfl)) ?_
    dsimp only [List.set_cons_zero, List.set_cons_succ]
    refine takeB (i := 2) (v := .pointer (some ⟨xb, 0, none⟩)) (d := 250) (listed' := #[true, true, true, false, false, false, false, false, false, false, false, false, false, false, false, false]) rfl rfl (by kernel_rfl) (by kernel_rfl) (by kernel_rfl) (by kernel_rfl) (by kernel_rfl) rfl (fun _ _ _ h => h) (fun _ => HA.out) trivial (fun w' _ => ex_nil (x := .tmp 249) (a := ⟨xb, 0, none⟩) rfl (by kernel_rfl)) ?_
    dsimp only [List.set_cons_zero, List.set_cons_succ]
    refine takeB (i := 3) (v := .pointer (some ⟨xb, 1, none⟩)) (d := 251) (listed' := #[true, true, true, true, false, false, false, false, false, false, false, false, false, false, false, false]) rfl rfl (by kernel_rfl) (by kernel_rfl) (by kernel_rfl) (by kernel_rfl) (by kernel_rfl) rfl (fun _ _ _ h => h) (fun _ => HA.out) trivial (fun w' _ => ex_f62_1 (b := xb) (x := .tmp 250) rfl (by kernel_rfl)) ?_
    dsimp only [List.set_cons_zero, List.set_cons_succ]
    refine takeA (i := 4) (v := .slice (some ⟨xcb, 0, none⟩) mc 64) (d := 252) (listed' := #[true, true, true, true, true, false, false, false, false, false, false, false, false, false, false, false]) rfl rfl (by kernel_rfl) (by kernel_rfl) (by kernel_rfl) (by kernel_rfl) (by kernel_rfl) rfl (fun _ _ _ h => h) HA.out trivial (fun w' hSw => ex_load60 (x := .tmp 251) (a := ⟨xb, 1, none⟩) rfl (by kernel_rfl) hSw.1.1) ?_
    dsimp only [List.set_cons_zero, List.set_cons_succ]
    refine takeB (i := 5) (v := .pointer (some ⟨rb, 0, none⟩)) (d := 253) (listed' := #[true, true, true, true, true, true, false, false, false, false, false, false, false, false, false, false]) rfl rfl (by kernel_rfl) (by kernel_rfl) (by kernel_rfl) (by kernel_rfl) (by kernel_rfl) rfl (fun _ _ _ h => h) (fun _ => HA.out) trivial (fun w' _ => ex_move (x := .tmp 10) (v := .pointer (some ⟨rb, 0, none⟩)) rfl (by kernel_rfl)) ?_
    dsimp only [List.set_cons_zero, List.set_cons_succ]
    refine takeB (i := 6) (v := .pointer (some ⟨rb, 0, none⟩)) (d := 254) (listed' := #[true, true, true, true, true, true, true, false, false, false, false, false, false, false, false, false]) rfl rfl (by kernel_rfl) (by kernel_rfl) (by kernel_rfl) (by kernel_rfl) (by kernel_rfl) rfl (fun _ _ _ h => h) (fun _ => HA.out) trivial (fun w' _ => ex_nil (x := .tmp 253) (a := ⟨rb, 0, none⟩) rfl (by kernel_rfl)) ?_
    dsimp only [List.set_cons_zero, List.set_cons_succ]
    refine takeB (i := 7) (v := .pointer (some ⟨rb, 1, none⟩)) (d := 255) (listed' := #[true, true, true, true, true, true, true, true, false, false, false, false, false, false, false, false]) rfl rfl (by kernel_rfl) (by kernel_rfl) (by kernel_rfl) (by kernel_rfl) (by kernel_rfl) rfl (fun _ _ _ h => h) (fun _ => HA.out) trivial (fun w' _ => ex_f62_1 (b := rb) (x := .tmp 254) rfl (by kernel_rfl)) ?_
    dsimp only [List.set_cons_zero, List.set_cons_succ]
    refine takeA (i := 8) (v := .slice (some ⟨rcb, 0, none⟩) ml 64) (d := 256) (listed' := #[true, true, true, true, true, true, true, true, true, false, false, false, false, false, false, false]) rfl rfl (by kernel_rfl) (by kernel_rfl) (by kernel_rfl) (by kernel_rfl) (by kernel_rfl) rfl (fun _ _ _ h => h) HA.out trivial (fun w' hSw => ex_load60 (x := .tmp 255) (a := ⟨rb, 1, none⟩) rfl (by kernel_rfl) hSw.1.2.1) ?_
    dsimp only [List.set_cons_zero, List.set_cons_succ]
    refine takeB (i := 9) (v := .pointer (some ⟨rcb, 0, none⟩)) (d := 257) (listed' := #[true, true, true, true, true, true, true, true, true, true, false, false, false, false, false, false]) rfl rfl (by kernel_rfl) (by kernel_rfl) (by kernel_rfl) (by kernel_rfl) (by kernel_rfl) rfl (fun _ _ _ h => h) (fun _ => HA.out) trivial (fun w' _ => ex_index60 (b := rcb) (n := ml) (c := 64) (x := .tmp 256) (y := .const (.int .i64 0)) (k := 0) rfl (by kernel_rfl) (by kernel_rfl) (by first | assumption | omega)) ?_
    dsimp only [List.set_cons_zero, List.set_cons_succ]
    refine takeA (i := 10) (v := .pointer k0) (d := 258) (listed' := #[true, true, true, true, true, true, true, true, true, true, true, false, false, false, false, false]) rfl rfl (by kernel_rfl) (by kernel_rfl) (by kernel_rfl) (by kernel_rfl) (by kernel_rfl) rfl (fun _ _ _ h => h) HA.out trivial (fun w' hSw => ex_load55 (x := .tmp 257) (a := ⟨rcb, 0, none⟩) rfl (by kernel_rfl) hSw.1.2.2) ?_
    dsimp only [List.set_cons_zero, List.set_cons_succ]
    refine wpAnyG_step (i := 11) (by kernel_rfl) rfl (fun K hK => ?_)
    go_simp
    have k2 : Kep (fun _ => False) w6 (w6.alloc (.cells #[.pointer k0] 55)) := (Kep.refl _ _).alloc _
    have hv : RowB (w6.alloc (.cells #[.pointer k0] 55)) w6.heap.size 55 [.pointer k0] := row_new w6 55 [.pointer k0]
    have hvl : w6.heap.size ≠ xcb := Nat.ne_of_gt H5.out.2.2.1.kid.lt
    have H6 : Hid (NodeR (w6.alloc (.cells #[.pointer k0] 55)) nb ib cb ns nk (S1 ++ .pointer sv :: S2 ++ rS) (K1 ++ .pointer (some ⟨xb, 0, none⟩) :: .pointer (some ⟨rb, 0, none⟩) :: K2 ++ rK) ∧ NodeR (w6.alloc (.cells #[.pointer k0] 55)) rb rib rcb nl ml (.pointer p0 :: P ++ R) (.pointer k0 :: KP ++ KR) ∧ NodeR (w6.alloc (.cells #[.pointer k0] 55)) xb xib xcb (nc + 1) mc (Q ++ .pointer sv :: T) (KQ ++ u0 :: U) ∧ Kep (fun k => k = ib ∨ k = rb ∨ k = rib ∨ k = rcb ∨ k = xb ∨ k = xib ∨ k = xcb) w (w6.alloc (.cells #[.pointer k0] 55))) := ⟨H5.out.1.kep k2 id id id, H5.out.2.1.kep k2 id id id, H5.out.2.2.1.kep k2 id id id, H5.out.2.2.2.trans k2 (fun _ _ h => h.elim)⟩
    refine hK.out _ _ trivial (fun _ => ⟨H6.out.2.2.1.c1, H6.out.2.1.c1, by rw [H6.out.2.1.kid.cell]; rfl⟩) ?_
    clear hK k2 H5 HA
    generalize w6.heap.size = vb at *
    generalize w6.alloc (.cells #[.pointer k0] 55) = w7 at *
    try simp only [Act.put, List.getElem_toArray, List.getElem_cons_succ, List.getElem_cons_zero, List.setIfInBounds_toArray, List.set_cons_zero, List.set_cons_succ]
    have ap : ∀ ty, (Builtin.append_ #[60, 60] ty #[.slice (some ⟨xcb, 0, none⟩) mc 64, .slice (some ⟨vb, 0, none⟩) 1 1]).run Try.prog w7 = .ok (.slice (some ⟨xcb, 0, none⟩) (mc + 1) 64) (w7.setCells xcb mc [.pointer k0]) ∧ RowB (w7.setCells xcb mc [.pointer k0]) xcb 55 (KQ ++ [.pointer k0] ++ U) ∧ Kep (fun k => k = xcb) w7 (w7.setCells xcb mc [.pointer k0]) := fun ty =>
      append60 (X := KQ) (R1 := [u0]) (R2 := U) (A := []) (news := [.pointer k0]) (A2 := []) (by have := H6.out.2.2.1.kid; simpa using this) HE.out.2.2.2.2.2.2.2.2.2.2.2.2.1 (by have := HE.out; first | omega | (simp; omega)) rfl rfl hv rfl (fun u hu => by simp at hu; subst hu; rfl) ty 1
    refine wpAnyG_step (i := 12) (by kernel_rfl) rfl (fun K hK => ?_)
    refine step_append_runI rfl (.tmp 252) (.tmp 259) 60 rfl _ _ rfl rfl (ap _).1 ?_
    have k4 := (ap 0).2.2
    have hr4 := (ap 0).2.1
    have H7 : Hid (NodeR (w7.setCells xcb mc [.pointer k0]) nb ib cb ns nk (S1 ++ .pointer sv :: S2 ++ rS) (K1 ++ .pointer (some ⟨xb, 0, none⟩) :: .pointer (some ⟨rb, 0, none⟩) :: K2 ++ rK) ∧ NodeR (w7.setCells xcb mc [.pointer k0]) rb rib rcb nl ml (.pointer p0 :: P ++ R) (.pointer k0 :: KP ++ KR) ∧ NodeR (w7.setCells xcb mc [.pointer k0]) xb xib xcb (nc + 1) mc (Q ++ .pointer sv :: T) (KQ ++ .pointer k0 :: U) ∧ Kep (fun k => k = ib ∨ k = rb ∨ k = rib ∨ k = rcb ∨ k = xb ∨ k = xib ∨ k = xcb) w (w7.setCells xcb mc [.pointer k0])) := ⟨H6.out.1.kep k4 HN.out.2.2.2.2.2.2.2.2.2.2.2.2.2.2.1 HN.out.2.2.2.2.2.2.2.2.2.2.2.2.2.2.2.2.2.2.2.2.2.2.2.2.2.2.2.2.2.1 HN.out.2.2.2.2.2.2.2.1, H6.out.2.1.kep k4 HN.out.2.2.2.2.2.2.2.2.2.2.2.2.2.2.2.2.2.2.2.2.1 HN.out.2.2.2.2.2.2.2.2.2.2.2.2.2.2.2.2.2.2.2.2.2.2.2.2.2.2.2.2.2.2.2.2.1 HN.out.2.2.2.2.2.2.2.2.1, ⟨H6.out.2.2.1.node.kep k4 HN.out.2.2.2.2.2.2.2.2.2.2.2.2.2.2.2.2.2.2.2.2.2.2.2.2.2.2.1, H6.out.2.2.1.row.kep k4 HN.out.2.2.2.2.2.2.2.2.2.2.2.2.2.2.2.2.2.2.2.2.2.2.2.2.2.2.2.2.2.2.2.2.2.2.2, by simpa using hr4⟩, H6.out.2.2.2.trans k4 (fun j hj e => by simp [e])⟩
    refine hK.out _ _ trivial (fun _ => ⟨H7.out.2.2.1.c1, H7.out.2.1.c1, by rw [H7.out.2.1.kid.cell]; rfl⟩) ?_
    clear hK hr4 k4 hv hvl ap H6
    generalize w7.setCells xcb mc [.pointer k0] = w8 at *
    try simp only [Act.put, List.getElem_toArray, List.getElem_cons_succ, List.getElem_cons_zero, List.setIfInBounds_toArray, List.set_cons_zero, List.set_cons_succ]
    have HA : Hid (w8.cell? ⟨xb, 1, none⟩ = some (.slice (some ⟨xcb, 0, none⟩) mc 64) ∧ w8.cell? ⟨rb, 1, none⟩ = some (.slice (some ⟨rcb, 0, none⟩) ml 64) ∧ w8.cell? ⟨rcb, 0, none⟩ = some (.pointer k0)) := ⟨H7.out.2.2.1.c1, H7.out.2.1.c1, by rw [H7.out.2.1.kid.cell]; rfl⟩
    refine takeB (i := 13) (v := .pointer (some ⟨xb, 0, none⟩)) (d := 261) (listed' := #[true, true, true, true, true, true, true, true, true, true, true, true, true, true, false, false]) rfl rfl (by kernel_rfl) (by kernel_rfl) (by kernel_rfl) (by kernel_rfl) (by kernel_rfl) rfl (fun _ _ _ h => h) (fun _ => HA.out) trivial (fun w' _ => ex_nil (x := .tmp 248) (a := ⟨xb, 0, none⟩) rfl (by kernel_rfl)) ?_
    dsimp only [List.set_cons_zero, List.set_cons_succ]
    refine takeB (i := 14) (v := .pointer (some ⟨xb, 1, none⟩)) (d := 262) (listed' := #[true, true, true, true, true, true, true, true, true, true, true, true, true, true, true, false]) rfl rfl (by kernel_rfl) (by kernel_rfl) (by kernel_rfl) (by kernel_rfl) (by kernel_rfl) rfl (fun _ _ _ h => h) (fun _ => HA.out) trivial (fun w' _ => ex_f62_1 (b := xb) (x := .tmp 261) rfl (by kernel_rfl)) ?_
    dsimp only [List.set_cons_zero, List.set_cons_succ]
    have c0 := H7.out.2.2.1.c1
    have f0 := H7.out.2.2.1.node.frozen 1
    refine wpAnyG_step (i := 15) (by kernel_rfl) rfl (fun K hK => ?_)
    go_simp
    refine hK.out _ _ trivial (fun h => not_early (by kernel_rfl) h) ?_
    clear hK c0 f0 HA
    have H8 : Hid (NodeR (w8.setCell ⟨xb, 1, none⟩ (.slice (some ⟨xcb, 0, none⟩) (mc + 1) 64)) nb ib cb ns nk (S1 ++ .pointer sv :: S2 ++ rS) (K1 ++ .pointer (some ⟨xb, 0, none⟩) :: .pointer (some ⟨rb, 0, none⟩) :: K2 ++ rK) ∧ NodeR (w8.setCell ⟨xb, 1, none⟩ (.slice (some ⟨xcb, 0, none⟩) (mc + 1) 64)) rb rib rcb nl ml (.pointer p0 :: P ++ R) (.pointer k0 :: KP ++ KR) ∧ NodeR (w8.setCell ⟨xb, 1, none⟩ (.slice (some ⟨xcb, 0, none⟩) (mc + 1) 64)) xb xib xcb (nc + 1) (mc + 1) (Q ++ .pointer sv :: T) (KQ ++ .pointer k0 :: U) ∧ Kep (fun k => k = ib ∨ k = rb ∨ k = rib ∨ k = rcb ∨ k = xb ∨ k = xib ∨ k = xcb) w (w8.setCell ⟨xb, 1, none⟩ (.slice (some ⟨xcb, 0, none⟩) (mc + 1) 64))) := ⟨H7.out.1.kep (kep_set _ _ _ _) HN.out.2.1 (Ne.symm HN.out.2.2.2.2.2.2.2.2.2.2.2.2.2.2.2.2.2.2.2.2.2.1) (Ne.symm HN.out.2.2.2.2.2.2.2.2.2.2.2.2.2.2.2.2.2.2.2.2.2.2.2.2.1), H7.out.2.1.kep (kep_set _ _ _ _) HN.out.2.2.1 (Ne.symm HN.out.2.2.2.2.2.2.2.2.2.2.2.2.2.2.2.2.2.2.2.2.2.2.1) (Ne.symm HN.out.2.2.2.2.2.2.2.2.2.2.2.2.2.2.2.2.2.2.2.2.2.2.2.2.2.1), H7.out.2.2.1.set1 _, H7.out.2.2.2.trans (kep_set _ _ _ _) (fun j hj e => by simp [e])⟩
    clear H7
    generalize w8.setCell ⟨xb, 1, none⟩ (.slice (some ⟨xcb, 0, none⟩) (mc + 1) 64) = w9 at *
    try simp only [Act.put, List.getElem_toArray, List.getElem_cons_succ, List.getElem_cons_zero, List.setIfInBounds_toArray, List.set_cons_zero, List.set_cons_succ]
    refine wpAnyG_done (by kernel_rfl) ?_ _
    refine NoPanic.normal ?_
    go_upto_region 23 with fail
    refine wp_region_G (fun w' => w'.cell? ⟨nb, 0, none⟩ = some (.slice (some ⟨ib, 0, none⟩) ns 63) ∧ w'.cell? ⟨rb, 0, none⟩ = some (.slice (some ⟨rib, 0, none⟩) nl 63) ∧ w'.cell? ⟨rib, 0, none⟩ = some (.pointer p0)) (fun _ => True) [12] (by kernel_rfl) ?_
    have H9 : Hid (NodeR (w9.drew) nb ib cb ns nk (S1 ++ .pointer sv :: S2 ++ rS) (K1 ++ .pointer (some ⟨xb, 0, none⟩) :: .pointer (some ⟨rb, 0, none⟩) :: K2 ++ rK) ∧ NodeR (w9.drew) rb rib rcb nl ml (.pointer p0 :: P ++ R) (.pointer k0 :: KP ++ KR) ∧ NodeR (w9.drew) xb xib xcb (nc + 1) (mc + 1) (Q ++ .pointer sv :: T) (KQ ++ .pointer k0 :: U) ∧ Kep (fun k => k = ib ∨ k = rb ∨ k = rib ∨ k = rcb ∨ k = xb ∨ k = xib ∨ k = xcb) w (w9.drew)) := ⟨H8.out.1.kep ((Kep.refl (fun _ => False) w9).drew) id id id, H8.out.2.1.kep ((Kep.refl (fun _ => False) w9).drew) id id id, H8.out.2.2.1.kep ((Kep.refl (fun _ => False) w9).drew) id id id, H8.out.2.2.2.trans ((Kep.refl (fun _ => False) w9).drew) (fun _ _ h => h.elim)⟩
    clear H8
    generalize w9.drew = w10 at *
    have HA : Hid (w10.cell? ⟨nb, 0, none⟩ = some (.slice (some ⟨ib, 0, none⟩) ns 63) ∧ w10.cell? ⟨rb, 0, none⟩ = some (.slice (some ⟨rib, 0, none⟩) nl 63) ∧ w10.cell? ⟨rib, 0, none⟩ = some (.pointer p0)) := ⟨H9.out.1.c0, H9.out.2.1.c0, by rw [H9.out.2.1.row.cell]; rfl⟩
    refine takeB (i := 0) (v := .pointer (some ⟨nb, 0, none⟩)) (d := 263) (listed' := #[true, false, false, false, false, false, false, false, false, false, false, false, false]) rfl rfl (by kernel_rfl) (by kernel_rfl) (by kernel_rfl) (by kernel_rfl) (by kernel_rfl) rfl (fun _ _ _ h => h) (fun _ => HA.out) trivial (fun w' _ => ex_move (x := .tmp 1) (v := .pointer (some ⟨nb, 0, none⟩)) rfl (by kernel_rfl)) ?_
    dsimp only [List.set_cons_zero, List.set_cons_succ]
    refine takeB (i := 1) (v := .pointer (some ⟨nb, 0, none⟩)) (d := 264) (listed' := #[true, true, false, false, false, false, false, false, false, false, false, false, false]) rfl rfl (by kernel_rfl) (by kernel_rfl) (by kernel_rfl) (by kernel_rfl) (by kernel_rfl) rfl (fun _ _ _ h => h) (fun _ => HA.out) trivial (fun w' _ => ex_nil (x := .tmp 263) (a := ⟨nb, 0, none⟩) rfl (by kernel_rfl)) ?_
    dsimp only [List.set_cons_zero, List.set_cons_succ]
    refine takeB (i := 2) (v := .pointer (some ⟨nb, 0, none⟩)) (d := 265) (listed' := #[true, true, true, false, false, false, false, false, false, false, false, false, false]) rfl rfl (by kernel_rfl) (by kernel_rfl) (by kernel_rfl) (by kernel_rfl) (by kernel_rfl) rfl (fun _ _ _ h => h) (fun _ => HA.out) trivial (fun w' _ => ex_f62_0 (b := nb) (x := .tmp 264) rfl (by kernel_rfl)) ?_
    dsimp only [List.set_cons_zero, List.set_cons_succ]
    refine takeA (i := 3) (v := .slice (some ⟨ib, 0, none⟩) ns 63) (d := 266) (listed' := #[true, true, true, true, false, false, false, false, false, false, false, false, false]) rfl rfl (by kernel_rfl) (by kernel_rfl) (by kernel_rfl) (by kernel_rfl) (by kernel_rfl) rfl (fun _ _ _ h => h) HA.out trivial (fun w' hSw => ex_load59 (x := .tmp 265) (a := ⟨nb, 0, none⟩) rfl (by kernel_rfl) hSw.1.1) ?_
    dsimp only [List.set_cons_zero, List.set_cons_succ]
    refine takeB (i := 4) (v := .int .i64 (i : Int)) (d := 267) (listed' := #[true, true, true, true, true, false, false, false, false, false, false, false, false]) rfl rfl (by kernel_rfl) (by kernel_rfl) (by kernel_rfl) (by kernel_rfl) (by kernel_rfl) rfl (fun _ _ _ h => h) (fun _ => HA.out) trivial (fun w' _ => ex_move (x := .tmp 2) (v := .int .i64 (i : Int)) rfl (by kernel_rfl)) ?_
    dsimp only [List.set_cons_zero, List.set_cons_succ]
    refine takeB (i := 5) (v := .pointer (some ⟨rb, 0, none⟩)) (d := 268) (listed' := #[true, true, true, true, true, true, false, false, false, false, false, false, false]) rfl rfl (by kernel_rfl) (by kernel_rfl) (by kernel_rfl) (by kernel_rfl) (by kernel_rfl) rfl (fun _ _ _ h => h) (fun _ => HA.out) trivial (fun w' _ => ex_move (x := .tmp 10) (v := .pointer (some ⟨rb, 0, none⟩)) rfl (by kernel_rfl)) ?_
    dsimp only [List.set_cons_zero, List.set_cons_succ]
    refine takeB (i := 6) (v := .pointer (some ⟨rb, 0, none⟩)) (d := 269) (listed' := #[true, true, true, true, true, true, true, false, false, false, false, false, false]) rfl rfl (by kernel_rfl) (by kernel_rfl) (by kernel_rfl) (by kernel_rfl) (by kernel_rfl) rfl (fun _ _ _ h => h) (fun _ => HA.out) trivial (fun w' _ => ex_nil (x := .tmp 268) (a := ⟨rb, 0, none⟩) rfl (by kernel_rfl)) ?_
    dsimp only [List.set_cons_zero, List.set_cons_succ]
    refine takeB (i := 7) (v := .pointer (some ⟨rb, 0, none⟩)) (d := 270) (listed' := #[true, true, true, true, true, true, true, true, false, false, false, false, false]) rfl rfl (by kernel_rfl) (by kernel_rfl) (by kernel_rfl) (by kernel_rfl) (by kernel_rfl) rfl (fun _ _ _ h => h) (fun _ => HA.out) trivial (fun w' _ => ex_f62_0 (b := rb) (x := .tmp 269) rfl (by kernel_rfl)) ?_
    dsimp only [List.set_cons_zero, List.set_cons_succ]
    refine takeA (i := 8) (v := .slice (some ⟨rib, 0, none⟩) nl 63) (d := 271) (listed' := #[true, true, true, true, true, true, true, true, true, false, false, false, false]) rfl rfl (by kernel_rfl) (by kernel_rfl) (by kernel_rfl) (by kernel_rfl) (by kernel_rfl) rfl (fun _ _ _ h => h) HA.out trivial (fun w' hSw => ex_load59 (x := .tmp 270) (a := ⟨rb, 0, none⟩) rfl (by kernel_rfl) hSw.1.2.1) ?_
    dsimp only [List.set_cons_zero, List.set_cons_succ]
    refine takeB (i := 9) (v := .pointer (some ⟨rib, 0, none⟩)) (d := 272) (listed' := #[true, true, true, true, true, true, true, true, true, true, false, false, false]) rfl rfl (by kernel_rfl) (by kernel_rfl) (by kernel_rfl) (by kernel_rfl) (by kernel_rfl) rfl (fun _ _ _ h => h) (fun _ => HA.out) trivial (fun w' _ => ex_index59 (b := rib) (n := nl) (c := 63) (x := .tmp 271) (y := .const (.int .i64 0)) (k := 0) rfl (by kernel_rfl) (by kernel_rfl) (by first | assumption | omega)) ?_
    dsimp only [List.set_cons_zero, List.set_cons_succ]
    refine takeA (i := 10) (v := .pointer p0) (d := 273) (listed' := #[true, true, true, true, true, true, true, true, true, true, true, false, false]) rfl rfl (by kernel_rfl) (by kernel_rfl) (by kernel_rfl) (by kernel_rfl) (by kernel_rfl) rfl (fun _ _ _ h => h) HA.out trivial (fun w' hSw => ex_load46 (x := .tmp 272) (a := ⟨rib, 0, none⟩) rfl (by kernel_rfl) hSw.1.2.2) ?_
    dsimp only [List.set_cons_zero, List.set_cons_succ]
    refine takeB (i := 11) (v := .pointer (some ⟨ib, i, none⟩)) (d := 274) (listed' := #[true, true, true, true, true, true, true, true, true, true, true, true, false]) rfl rfl (by kernel_rfl) (by kernel_rfl) (by kernel_rfl) (by kernel_rfl) (by kernel_rfl) rfl (fun _ _ _ h => h) (fun _ => HA.out) trivial (fun w' _ => ex_index59 (b := ib) (n := ns) (c := 63) (x := .tmp 266) (y := .tmp 267) (k := i) rfl (by kernel_rfl) (by kernel_rfl) (by first | assumption | omega)) ?_
    dsimp only [List.set_cons_zero, List.set_cons_succ]
    have c0 := (show w10.cell? ⟨ib, i, none⟩ = some (.pointer sv) by rw [H9.out.1.row.cell, HE.out.2.2.2.2.2.1]; simp)
    have f0 := H9.out.1.row.frozen i
    refine wpAnyG_step (i := 12) (by kernel_rfl) rfl (fun K hK => ?_)
    go_simp
    refine hK.out _ _ trivial (fun h => not_early (by kernel_rfl) h) ?_
    clear hK c0 f0 HA
    have H10 : Hid (NodeR (w10.setCell ⟨ib, i, none⟩ (.pointer p0)) nb ib cb ns nk (S1 ++ .pointer p0 :: S2 ++ rS) (K1 ++ .pointer (some ⟨xb, 0, none⟩) :: .pointer (some ⟨rb, 0, none⟩) :: K2 ++ rK) ∧ NodeR (w10.setCell ⟨ib, i, none⟩ (.pointer p0)) rb rib rcb nl ml (.pointer p0 :: P ++ R) (.pointer k0 :: KP ++ KR) ∧ NodeR (w10.setCell ⟨ib, i, none⟩ (.pointer p0)) xb xib xcb (nc + 1) (mc + 1) (Q ++ .pointer sv :: T) (KQ ++ .pointer k0 :: U) ∧ Kep (fun k => k = ib ∨ k = rb ∨ k = rib ∨ k = rcb ∨ k = xb ∨ k = xib ∨ k = xcb) w (w10.setCell ⟨ib, i, none⟩ (.pointer p0))) := ⟨⟨H9.out.1.node.kep (kep_set _ _ _ _) HN.out.2.2.2.2.2.2.2.2.2.1, H9.out.1.row.setSep HE.out.2.2.2.2.2.1, H9.out.1.kid.kep (kep_set _ _ _ _) (Ne.symm HN.out.2.2.2.2.2.2.2.2.2.2.2.2.2.2.2.2.2.2.2.2.2.2.2.2.2.2.2.1)⟩, H9.out.2.1.kep (kep_set _ _ _ _) HN.out.2.2.2.2.2.2.2.2.2.2.2.2.2.2.2.1 (Ne.symm HN.out.2.2.2.1) (Ne.symm HN.out.2.2.2.2.2.2.2.2.2.2.2.2.2.2.2.2.2.2.2.2.2.2.2.2.2.2.2.2.1), H9.out.2.2.1.kep (kep_set _ _ _ _) HN.out.2.2.2.2.2.2.2.2.2.2.2.2.2.2.2.2.2.2.2.2.2.1 (Ne.symm HN.out.2.2.2.2.1) (Ne.symm HN.out.2.2.2.2.2.2.2.2.2.2.2.2.2.2.2.2.2.2.2.2.2.2.2.2.2.2.2.2.2.1), H9.out.2.2.2.trans (kep_set _ _ _ _) (fun j hj e => by simp [e])⟩
    clear H9
    generalize w10.setCell ⟨ib, i, none⟩ (.pointer p0) = w11 at *
    try simp only [Act.put, List.getElem_toArray, List.getElem_cons_succ, List.getElem_cons_zero, List.setIfInBounds_toArray, List.set_cons_zero, List.set_cons_succ]
    refine wpAnyG_done (by kernel_rfl) ?_ _
    refine NoPanic.normal ?_
    have l1 := H10.out.2.1.c1
    go_wp2_with fail
    have hdel := delete44 (i := 0) (n := ml) (c := 64) (A := []) (B := KP) (x := .pointer k0) (rest := KR) H10.out.2.1.kid rfl (by have := HE.out; first | omega | (simp; omega)) HE.out.2.2.2.2.2.2.2.2.2.2.2.1 (by omega) HO.out.2
    refine Calls.mono hdel ?_
    clear hdel
    rintro e w61 ⟨rfl, hr4, k4⟩
    have H11 : Hid (NodeR w61 nb ib cb ns nk (S1 ++ .pointer p0 :: S2 ++ rS) (K1 ++ .pointer (some ⟨xb, 0, none⟩) :: .pointer (some ⟨rb, 0, none⟩) :: K2 ++ rK) ∧ NodeR w61 rb rib rcb nl ml (.pointer p0 :: P ++ R) (KP ++ .pointer none :: KR) ∧ NodeR w61 xb xib xcb (nc + 1) (mc + 1) (Q ++ .pointer sv :: T) (KQ ++ .pointer k0 :: U) ∧ Kep (fun k => k = ib ∨ k = rb ∨ k = rib ∨ k = rcb ∨ k = xb ∨ k = xib ∨ k = xcb) w w61) := ⟨H10.out.1.kep k4 HN.out.2.2.2.2.2.2.2.2.2.2.2.2.2.1 HN.out.2.2.2.2.2.2.2.2.2.2.2.2.2.2.2.2.2.2.2.2.2.2.2.2.2.2.2.2.1 HN.out.2.2.2.2.2.2.1, ⟨H10.out.2.1.node.kep k4 HN.out.2.2.2.2.2.2.2.2.2.2.2.2.2.2.2.2.2.2.2.1, H10.out.2.1.row.kep k4 HN.out.2.2.2.2.2.2.2.2.2.2.2.2.2.2.2.2.2.2.2.2.2.2.2.2.2.2.2.2.2.2.2.1, by simpa using hr4⟩, H10.out.2.2.1.kep k4 HN.out.2.2.2.2.2.2.2.2.2.2.2.2.2.2.2.2.2.2.2.2.2.2.2.2.2.1 HN.out.2.2.2.2.2.2.2.2.2.2.2.2.2.2.2.2.2.2.2.2.2.2.2.2.2.2.2.2.2.2.2.2.2.2.1 (Ne.symm HN.out.2.2.2.2.2.2.2.2.1), H10.out.2.2.2.trans k4 (fun j hj e => by simp [e])⟩
    have l1 := H11.out.2.1.c1
    have f1 := H11.out.2.1.node.frozen 1
    clear H10 hr4 k4
    go_upto_region 25 with fail
    have H12 : Hid (NodeR (w61.setCell ⟨rb, 1, none⟩ (.slice (some ⟨rcb, 0, none⟩) (ml - 1) 64)) nb ib cb ns nk (S1 ++ .pointer p0 :: S2 ++ rS) (K1 ++ .pointer (some ⟨xb, 0, none⟩) :: .pointer (some ⟨rb, 0, none⟩) :: K2 ++ rK) ∧ NodeR (w61.setCell ⟨rb, 1, none⟩ (.slice (some ⟨rcb, 0, none⟩) (ml - 1) 64)) rb rib rcb nl (ml - 1) (.pointer p0 :: P ++ R) (KP ++ .pointer none :: KR) ∧ NodeR (w61.setCell ⟨rb, 1, none⟩ (.slice (some ⟨rcb, 0, none⟩) (ml - 1) 64)) xb xib xcb (nc + 1) (mc + 1) (Q ++ .pointer sv :: T) (KQ ++ .pointer k0 :: U) ∧ Kep (fun k => k = ib ∨ k = rb ∨ k = rib ∨ k = rcb ∨ k = xb ∨ k = xib ∨ k = xcb) w (w61.setCell ⟨rb, 1, none⟩ (.slice (some ⟨rcb, 0, none⟩) (ml - 1) 64))) := ⟨H11.out.1.kep (kep_set _ _ _ _) HN.out.1 (Ne.symm HN.out.2.2.2.2.2.2.2.2.2.2.2.2.2.2.2.1) (Ne.symm HN.out.2.2.2.2.2.2.2.2.2.2.2.2.2.2.2.2.2.2.1), H11.out.2.1.set1 _, H11.out.2.2.1.kep (kep_set _ _ _ _) (Ne.symm HN.out.2.2.1) (Ne.symm HN.out.2.2.2.2.2.2.2.2.2.2.2.2.2.2.2.2.2.1) (Ne.symm HN.out.2.2.2.2.2.2.2.2.2.2.2.2.2.2.2.2.2.2.2.2.1), H11.out.2.2.2.trans (kep_set _ _ _ _) (fun j hj e => by simp [e])⟩
    clear H11 l1 f1
    generalize w61.setCell ⟨rb, 1, none⟩ (.slice (some ⟨rcb, 0, none⟩) (ml - 1) 64) = w62 at *
    have l0 := H12.out.2.1.c0
    go_wp2_with fail
    have hdel := delete37 (i := 0) (n := nl) (c := 63) (A := []) (B := P) (x := .pointer p0) (rest := R) (by have := H12.out.2.1.row; simpa using this) rfl (by have := HE.out; first | omega | (simp; omega)) HE.out.2.2.2.2.2.2.2.1 (by omega) HO.out.1
    refine Calls.mono hdel ?_
    clear hdel
    rintro e w90 ⟨rfl, hr9, k9⟩
    have H13 : Hid (NodeR w90 nb ib cb ns nk (S1 ++ .pointer p0 :: S2 ++ rS) (K1 ++ .pointer (some ⟨xb, 0, none⟩) :: .pointer (some ⟨rb, 0, none⟩) :: K2 ++ rK) ∧ NodeR w90 rb rib rcb nl (ml - 1) (P ++ .pointer none :: R) (KP ++ .pointer none :: KR) ∧ NodeR w90 xb xib xcb (nc + 1) (mc + 1) (Q ++ .pointer sv :: T) (KQ ++ .pointer k0 :: U) ∧ Kep (fun k => k = ib ∨ k = rb ∨ k = rib ∨ k = rcb ∨ k = xb ∨ k = xib ∨ k = xcb) w w90) := ⟨H12.out.1.kep k9 HN.out.2.2.2.2.2.2.2.2.2.2.1 HN.out.2.2.2.1 (Ne.symm HN.out.2.2.2.2.2.2.2.2.2.2.2.2.2.2.2.2.2.2.2.2.2.2.2.2.2.2.2.2.2.2.1), ⟨H12.out.2.1.node.kep k9 HN.out.2.2.2.2.2.2.2.2.2.2.2.2.2.2.2.2.1, by simpa using hr9, H12.out.2.1.kid.kep k9 (Ne.symm HN.out.2.2.2.2.2.2.2.2.2.2.2.2.2.2.2.2.2.2.2.2.2.2.2.2.2.2.2.2.2.2.2.1)⟩, H12.out.2.2.1.kep k9 HN.out.2.2.2.2.2.2.2.2.2.2.2.2.2.2.2.2.2.2.2.2.2.2.1 (Ne.symm HN.out.2.2.2.2.2.1) (Ne.symm HN.out.2.2.2.2.2.2.2.2.2.2.2.2.2.2.2.2.2.2.2.2.2.2.2.2.2.2.2.2.2.2.2.2.1), H12.out.2.2.2.trans k9 (fun j hj e => by simp [e])⟩
    have l0 := H13.out.2.1.c0
    have f0 := H13.out.2.1.node.frozen 0
    clear H12 hr9 k9
    go_wp2
    go_ret
    have H14 : Hid (NodeR (w90.setCell ⟨rb, 0, none⟩ (.slice (some ⟨rib, 0, none⟩) (nl - 1) 63)) nb ib cb ns nk (S1 ++ .pointer p0 :: S2 ++ rS) (K1 ++ .pointer (some ⟨xb, 0, none⟩) :: .pointer (some ⟨rb, 0, none⟩) :: K2 ++ rK) ∧ NodeR (w90.setCell ⟨rb, 0, none⟩ (.slice (some ⟨rib, 0, none⟩) (nl - 1) 63)) rb rib rcb (nl - 1) (ml - 1) (P ++ .pointer none :: R) (KP ++ .pointer none :: KR) ∧ NodeR (w90.setCell ⟨rb, 0, none⟩ (.slice (some ⟨rib, 0, none⟩) (nl - 1) 63)) xb xib xcb (nc + 1) (mc + 1) (Q ++ .pointer sv :: T) (KQ ++ .pointer k0 :: U) ∧ Kep (fun k => k = ib ∨ k = rb ∨ k = rib ∨ k = rcb ∨ k = xb ∨ k = xib ∨ k = xcb) w (w90.setCell ⟨rb, 0, none⟩ (.slice (some ⟨rib, 0, none⟩) (nl - 1) 63))) := ⟨H13.out.1.kep (kep_set _ _ _ _) HN.out.1 (Ne.symm HN.out.2.2.2.2.2.2.2.2.2.2.2.2.2.2.2.1) (Ne.symm HN.out.2.2.2.2.2.2.2.2.2.2.2.2.2.2.2.2.2.2.1), H13.out.2.1.set0 _, H13.out.2.2.1.kep (kep_set _ _ _ _) (Ne.symm HN.out.2.2.1) (Ne.symm HN.out.2.2.2.2.2.2.2.2.2.2.2.2.2.2.2.2.2.1) (Ne.symm HN.out.2.2.2.2.2.2.2.2.2.2.2.2.2.2.2.2.2.2.2.2.1), H13.out.2.2.2.trans (kep_set _ _ _ _) (fun j hj e => by simp [e])⟩
    exact ⟨rfl, H14.out⟩
end Go.Proofs.Qxb6615764a
