/-
  The walk of fill (36): a neighbour gives one.
-/
import Derived.Test.Qxb6615764aEx
import Derived.Deep.CutRange
namespace Go.Proofs.Qxb6615764a
open Go.RowKit Go.Lib
set_option linter.unusedVariables false
set_option linter.unusedSimpArgs false

theorem RowB.setSep {w : World} {b o : Nat} {ty : TypeId} {S1 S2 rS : List Value} {sv v : Value} (h : RowB w b ty (S1 ++ sv :: S2 ++ rS)) (ho : o = S1.length) : RowB (w.setCell ⟨b, o, none⟩ v) b ty (S1 ++ v :: S2 ++ rS) := by
  have := h.set (P := S1) (q := sv) (S := S2 ++ rS) (o := o) (v := v) (by simp) ho
  simpa using this

set_option maxHeartbeats 4000000 in
set_option maxRecDepth 100000 in
theorem fill_ll {w : World} {tv : Value} {nb ib cb i j ns nk zc zl m nl nc lb lib xb xib : Nat} {S1 S2 rS K1 K2 rK : List Value} {P R Q T : List Value} {sv q0 : Value} {p0 : Option Addr}
    (hN : NodeR w nb ib cb ns nk (S1 ++ sv :: S2 ++ rS) (K1 ++ .pointer (some ⟨lb, 0, none⟩) :: .pointer (some ⟨xb, 0, none⟩) :: K2 ++ rK)) (hL : LeafR w lb lib nl (P ++ .pointer p0 :: R)) (hC : LeafR w xb xib nc (Q ++ q0 :: T))
    (hns : ns = S1.length + 1 + S2.length) (hS63 : 63 = ns + rS.length) (hnk : nk = K1.length + 2 + K2.length) (hK64 : 64 = nk + rK.length) (hi : i = K1.length + 1) (hjS : j = S1.length) (hjK : j = K1.length) (hm : m = P.length) (hnl : nl = P.length + 1) (hl64 : 64 = nl + R.length) (hnc : nc = Q.length) (hc64 : 64 = nc + 1 + T.length)
    (hQ1 : ∀ u ∈ Q, u.oneCell' = true) (hnblb : nb ≠ lb) (hnbxb : nb ≠ xb) (hlbxb : lb ≠ xb) (hiblib : ib ≠ lib) (hibxib : ib ≠ xib) (hlibxib : lib ≠ xib) (hsc : SizeIs w xb zc) (hzc : (zc : Int) ≤ 32) (hsl : SizeIs w lb zl) (hzl : (32 : Int) < (zl : Int)) :
    Calls Try.prog 36 #[tv, .pointer (some ⟨nb, 0, none⟩), .int .i64 (i : Int)] w fun e w' => e = .returned (.int .i64 (i : Int)) ∧ NodeR w' nb ib cb ns nk (S1 ++ .pointer p0 :: S2 ++ rS) (K1 ++ .pointer (some ⟨lb, 0, none⟩) :: .pointer (some ⟨xb, 0, none⟩) :: K2 ++ rK) ∧ LeafR w' lb lib (nl - 1) (P ++ .pointer none :: R) ∧ LeafR w' xb xib (nc + 1) (.pointer p0 :: Q ++ T) ∧ Kep (fun k => k = ib ∨ k = lb ∨ k = lib ∨ k = xb ∨ k = xib) w w' := by
  have n1 := hN.c1
  have l0 := hL.c0
  have c1 := hC.c1
  have hik : (i : Int) < (nk : Int) := by omega
  have hi64 : (i : Int) ≤ 64 := by omega
  have hki : w.cell? ⟨cb, i, none⟩ = some (.pointer (some ⟨xb, 0, none⟩)) := by rw [hN.kid.cell, hi]; simp [List.getElem?_append_right]
  have hkj : w.cell? ⟨cb, j, none⟩ = some (.pointer (some ⟨lb, 0, none⟩)) := by rw [hN.kid.cell, hjK]; simp
  have hij : (i : Int) - 1 = (j : Int) := by omega
  have hi0 : (0 : Int) < (i : Int) := by omega
  have hjk : (j : Int) < (nk : Int) := by omega
  have hjs : (j : Int) < (ns : Int) := by omega
  have hjw : IntKind.i64.wrap (j : Int) = (j : Int) := by rw [IntKind.wrap_i64]; omega
  have hlast : (nl : Int) - 1 = (m : Int) := by omega
  have hml2 : (m : Int) < (nl : Int) := by omega
  have hm64 : (m : Int) ≤ 64 := by omega
  have hnl64 : (nl : Int) ≤ 64 := by omega
  have hlp : w.cell? ⟨lib, m, none⟩ = some (.pointer p0) := by rw [hL.row.cell, hm]; simp
  have hzc' : ¬ (32 : Int) < (zc : Int) := by omega
  have H0 : Hid (NodeR w nb ib cb ns nk (S1 ++ sv :: S2 ++ rS) (K1 ++ .pointer (some ⟨lb, 0, none⟩) :: .pointer (some ⟨xb, 0, none⟩) :: K2 ++ rK) ∧ LeafR w lb lib nl (P ++ .pointer p0 :: R) ∧ LeafR w xb xib nc (Q ++ q0 :: T) ∧ Kep (fun k => k = ib ∨ k = lb ∨ k = lib ∨ k = xb ∨ k = xib) w w) := ⟨hN, hL, hC, Kep.refl _ _⟩
  have HE : Hid (ns = S1.length + 1 + S2.length ∧ 63 = ns + rS.length ∧ nk = K1.length + 2 + K2.length ∧ 64 = nk + rK.length ∧ i = K1.length + 1 ∧ j = S1.length ∧ j = K1.length ∧ m = P.length ∧ nl = P.length + 1 ∧ 64 = nl + R.length ∧ nc = Q.length ∧ 64 = nc + 1 + T.length) := ⟨hns, hS63, hnk, hK64, hi, hjS, hjK, hm, hnl, hl64, hnc, hc64⟩
  have HO : Hid ((∀ u ∈ Q, u.oneCell' = true)) := hQ1
  have HN : Hid (nb ≠ lb ∧ nb ≠ xb ∧ lb ≠ xb ∧ ib ≠ lib ∧ ib ≠ xib ∧ lib ≠ xib ∧ nb ≠ ib ∧ nb ≠ lib ∧ nb ≠ xib ∧ nb ≠ cb ∧ lb ≠ ib ∧ lb ≠ lib ∧ lb ≠ xib ∧ lb ≠ cb ∧ xb ≠ ib ∧ xb ≠ lib ∧ xb ≠ xib ∧ xb ≠ cb ∧ ib ≠ cb ∧ lib ≠ cb ∧ xib ≠ cb) := ⟨hnblb, hnbxb, hlbxb, hiblib, hibxib, hlibxib, row_ne hN.node hN.row (by decide), row_ne hN.node hL.row (by decide), row_ne hN.node hC.row (by decide), row_ne hN.node hN.kid (by decide), row_ne hL.node hN.row (by decide), row_ne hL.node hL.row (by decide), row_ne hL.node hC.row (by decide), row_ne hL.node hN.kid (by decide), row_ne hC.node hN.row (by decide), row_ne hC.node hL.row (by decide), row_ne hC.node hC.row (by decide), row_ne hC.node hN.kid (by decide), row_ne hN.row hN.kid (by decide), row_ne hL.row hN.kid (by decide), row_ne hC.row hN.kid (by decide)⟩
  have HZ : Hid (SizeIs w xb zc ∧ SizeIs w lb zl) := ⟨hsc, hsl⟩
  clear hN hL hC hns hS63 hnk hK64 hi hjS hjK hm hnl hl64 hnc hc64 hQ1 hnblb hnbxb hlbxb hiblib hibxib hlibxib hsc hsl hzc
  go_enter Try.func36, Try.ntmps36
  go_wp2_with fail
  refine HZ.out.1.mono ?_
  rintro e w' ⟨rfl, hw⟩
  obtain rfl := hw.symm
  clear hw
  go_wp2_with fail
  refine HZ.out.2.mono ?_
  rintro e w' ⟨rfl, hw⟩
  obtain rfl := hw.symm
  clear hw
  go_upto_region 9 with fail
  clear l0 c1 n1 hki hkj hlp
  refine wp_region_G (fun w' => w'.cell? ⟨xb, 0, none⟩ = some (.slice (some ⟨xib, 0, none⟩) nc 64) ∧ w'.cell? ⟨lb, 0, none⟩ = some (.slice (some ⟨lib, 0, none⟩) nl 64) ∧ w'.cell? ⟨lib, m, none⟩ = some (.pointer p0)) (fun _ => True) [16] (by kernel_rfl) ?_
  have H1 : Hid (NodeR (w.drew) nb ib cb ns nk (S1 ++ sv :: S2 ++ rS) (K1 ++ .pointer (some ⟨lb, 0, none⟩) :: .pointer (some ⟨xb, 0, none⟩) :: K2 ++ rK) ∧ LeafR (w.drew) lb lib nl (P ++ .pointer p0 :: R) ∧ LeafR (w.drew) xb xib nc (Q ++ q0 :: T) ∧ Kep (fun k => k = ib ∨ k = lb ∨ k = lib ∨ k = xb ∨ k = xib) w (w.drew)) := ⟨H0.out.1.kep ((Kep.refl (fun _ => False) w).drew) id id id, H0.out.2.1.kep ((Kep.refl (fun _ => False) w).drew) id id, H0.out.2.2.1.kep ((Kep.refl (fun _ => False) w).drew) id id, H0.out.2.2.2.trans ((Kep.refl (fun _ => False) w).drew) (fun _ _ h => h.elim)⟩
  clear H0
  generalize w.drew = w2 at *
  have HA : Hid (w2.cell? ⟨xb, 0, none⟩ = some (.slice (some ⟨xib, 0, none⟩) nc 64) ∧ w2.cell? ⟨lb, 0, none⟩ = some (.slice (some ⟨lib, 0, none⟩) nl 64) ∧ w2.cell? ⟨lib, m, none⟩ = some (.pointer p0)) := ⟨H1.out.2.2.1.c0, H1.out.2.1.c0, by rw [H1.out.2.1.row.cell, HE.out.2.2.2.2.2.2.2.1]; simp⟩
  refine takeB (i := 0) (v := .pointer (some ⟨xb, 0, none⟩)) (d := 60) (listed' := #[true, false, false, false, false, false, false, false, false, false, false, false, false, false, false, false, false]) rfl rfl (by kernel_rfl) (by kernel_rfl) (by kernel_rfl) (by kernel_rfl) (by kernel_rfl) rfl (fun _ _ _ h => h) (fun _ => HA.out) trivial (fun w' _ => ex_move (x := .tmp 7) (v := .pointer (some ⟨xb, 0, none⟩)) rfl (by kernel_rfl)) ?_
  dsimp only [List.set_cons_zero, List.set_cons_succ]
  refine takeB (i := 1) (v := .pointer (some ⟨xb, 0, none⟩)) (d := 61) (listed' := #[true, true, false, false, false, false, false, false, false, false, false, false, false, false, false, false, false]) rfl rfl (by kernel_rfl) (by kernel_rfl) (by kernel_rfl) (by kernel_rfl) (by kernel_rfl) rfl (fun _ _ _ h => h) (fun _ => HA.out) trivial (fun w' _ => ex_move (x := .tmp 7) (v := .pointer (some ⟨xb, 0, none⟩)) rfl (by kernel_rfl)) ?_
  dsimp only [List.set_cons_zero, List.set_cons_succ]
  refine takeB (i := 2) (v := .pointer (some ⟨xb, 0, none⟩)) (d := 62) (listed' := #[true, true, true, false, false, false, false, false, false, false, false, false, false, false, false, false, false]) rfl rfl (by kernel_rfl) (by kernel_rfl) (by kernel_rfl) (by kernel_rfl) (by kernel_rfl) rfl (fun _ _ _ h => h) (fun _ => HA.out) trivial (fun w' _ => ex_nil (x := .tmp 61) (a := ⟨xb, 0, none⟩) rfl (by kernel_rfl)) ?_
  dsimp only [List.set_cons_zero, List.set_cons_succ]
  refine takeB (i := 3) (v := .pointer (some ⟨xb, 0, none⟩)) (d := 63) (listed' := #[true, true, true, true, false, false, false, false, false, false, false, false, false, false, false, false, false]) rfl rfl (by kernel_rfl) (by kernel_rfl) (by kernel_rfl) (by kernel_rfl) (by kernel_rfl) rfl (fun _ _ _ h => h) (fun _ => HA.out) trivial (fun w' _ => ex_f62_0 (b := xb) (x := .tmp 62) rfl (by kernel_rfl)) ?_
  dsimp only [List.set_cons_zero, List.set_cons_succ]
  refine takeA (i := 4) (v := .slice (some ⟨xib, 0, none⟩) nc 64) (d := 64) (listed' := #[true, true, true, true, true, false, false, false, false, false, false, false, false, false, false, false, false]) rfl rfl (by kernel_rfl) (by kernel_rfl) (by kernel_rfl) (by kernel_rfl) (by kernel_rfl) rfl (fun _ _ _ h => h) HA.out trivial (fun w' hSw => ex_load59 (x := .tmp 63) (a := ⟨xb, 0, none⟩) rfl (by kernel_rfl) hSw.1.1) ?_
  dsimp only [List.set_cons_zero, List.set_cons_succ]
  refine takeB (i := 5) (v := .pointer (some ⟨lb, 0, none⟩)) (d := 65) (listed' := #[true, true, true, true, true, true, false, false, false, false, false, false, false, false, false, false, false]) rfl rfl (by kernel_rfl) (by kernel_rfl) (by kernel_rfl) (by kernel_rfl) (by kernel_rfl) rfl (fun _ _ _ h => h) (fun _ => HA.out) trivial (fun w' _ => ex_move (x := .tmp 8) (v := .pointer (some ⟨lb, 0, none⟩)) rfl (by kernel_rfl)) ?_
  dsimp only [List.set_cons_zero, List.set_cons_succ]
  refine takeB (i := 6) (v := .pointer (some ⟨lb, 0, none⟩)) (d := 66) (listed' := #[true, true, true, true, true, true, true, false, false, false, false, false, false, false, false, false, false]) rfl rfl (by kernel_rfl) (by kernel_rfl) (by kernel_rfl) (by kernel_rfl) (by kernel_rfl) rfl (fun _ _ _ h => h) (fun _ => HA.out) trivial (fun w' _ => ex_nil (x := .tmp 65) (a := ⟨lb, 0, none⟩) rfl (by kernel_rfl)) ?_
  dsimp only [List.set_cons_zero, List.set_cons_succ]
  refine takeB (i := 7) (v := .pointer (some ⟨lb, 0, none⟩)) (d := 67) (listed' := #[true, true, true, true, true, true, true, true, false, false, false, false, false, false, false, false, false]) rfl rfl (by kernel_rfl) (by kernel_rfl) (by kernel_rfl) (by kernel_rfl) (by kernel_rfl) rfl (fun _ _ _ h => h) (fun _ => HA.out) trivial (fun w' _ => ex_f62_0 (b := lb) (x := .tmp 66) rfl (by kernel_rfl)) ?_
  dsimp only [List.set_cons_zero, List.set_cons_succ]
  refine takeA (i := 8) (v := .slice (some ⟨lib, 0, none⟩) nl 64) (d := 68) (listed' := #[true, true, true, true, true, true, true, true, true, false, false, false, false, false, false, false, false]) rfl rfl (by kernel_rfl) (by kernel_rfl) (by kernel_rfl) (by kernel_rfl) (by kernel_rfl) rfl (fun _ _ _ h => h) HA.out trivial (fun w' hSw => ex_load59 (x := .tmp 67) (a := ⟨lb, 0, none⟩) rfl (by kernel_rfl) hSw.1.2.1) ?_
  dsimp only [List.set_cons_zero, List.set_cons_succ]
  refine takeB (i := 9) (v := .int .i64 (m : Int)) (d := 69) (listed' := #[true, true, true, true, true, true, true, true, true, true, false, false, false, false, false, false, false]) rfl rfl (by kernel_rfl) (by kernel_rfl) (by kernel_rfl) (by kernel_rfl) (by kernel_rfl) rfl (fun _ _ _ h => h) (fun _ => HA.out) trivial (fun w' _ => ex_move (x := .tmp 9) (v := .int .i64 (m : Int)) rfl (by kernel_rfl)) ?_
  dsimp only [List.set_cons_zero, List.set_cons_succ]
  refine takeB (i := 10) (v := .pointer (some ⟨lib, m, none⟩)) (d := 70) (listed' := #[true, true, true, true, true, true, true, true, true, true, true, false, false, false, false, false, false]) rfl rfl (by kernel_rfl) (by kernel_rfl) (by kernel_rfl) (by kernel_rfl) (by kernel_rfl) rfl (fun _ _ _ h => h) (fun _ => HA.out) trivial (fun w' _ => ex_index59 (b := lib) (n := nl) (c := 64) (x := .tmp 68) (y := .tmp 69) (k := m) rfl (by kernel_rfl) (by kernel_rfl) (by first | assumption | omega)) ?_
  dsimp only [List.set_cons_zero, List.set_cons_succ]
  refine takeA (i := 11) (v := .pointer p0) (d := 71) (listed' := #[true, true, true, true, true, true, true, true, true, true, true, true, false, false, false, false, false]) rfl rfl (by kernel_rfl) (by kernel_rfl) (by kernel_rfl) (by kernel_rfl) (by kernel_rfl) rfl (fun _ _ _ h => h) HA.out trivial (fun w' hSw => ex_load46 (x := .tmp 70) (a := ⟨lib, m, none⟩) rfl (by kernel_rfl) hSw.1.2.2) ?_
  dsimp only [List.set_cons_zero, List.set_cons_succ]
  refine wpAnyG_step (i := 12) (by kernel_rfl) rfl (fun K hK => ?_)
  go_simp
  have k2 : Kep (fun _ => False) w2 (w2.alloc (.cells #[.pointer p0] 46)) := (Kep.refl _ _).alloc _
  have hv : RowB (w2.alloc (.cells #[.pointer p0] 46)) w2.heap.size 46 [.pointer p0] := row_new w2 46 [.pointer p0]
  have hvl : w2.heap.size ≠ xib := Nat.ne_of_gt H1.out.2.2.1.row.lt
  have H2 : Hid (NodeR (w2.alloc (.cells #[.pointer p0] 46)) nb ib cb ns nk (S1 ++ sv :: S2 ++ rS) (K1 ++ .pointer (some ⟨lb, 0, none⟩) :: .pointer (some ⟨xb, 0, none⟩) :: K2 ++ rK) ∧ LeafR (w2.alloc (.cells #[.pointer p0] 46)) lb lib nl (P ++ .pointer p0 :: R) ∧ LeafR (w2.alloc (.cells #[.pointer p0] 46)) xb xib nc (Q ++ q0 :: T) ∧ Kep (fun k => k = ib ∨ k = lb ∨ k = lib ∨ k = xb ∨ k = xib) w (w2.alloc (.cells #[.pointer p0] 46))) := ⟨H1.out.1.kep k2 id id id, H1.out.2.1.kep k2 id id, H1.out.2.2.1.kep k2 id id, H1.out.2.2.2.trans k2 (fun _ _ h => h.elim)⟩
  refine hK.out _ _ trivial (fun _ => ⟨H2.out.2.2.1.c0, H2.out.2.1.c0, by rw [H2.out.2.1.row.cell, HE.out.2.2.2.2.2.2.2.1]; simp⟩) ?_
  clear hK k2 H1 HA
  generalize w2.heap.size = vb at *
  generalize w2.alloc (.cells #[.pointer p0] 46) = w3 at *
  try simp only [Act.put, List.getElem_toArray, List.getElem_cons_succ, List.getElem_cons_zero, List.setIfInBounds_toArray, List.set_cons_zero, List.set_cons_succ]
  refine wpAnyG_step (i := 13) (by kernel_rfl) rfl (fun K hK => ?_)
  go_simp
  have hins := insert41 (i := 0) (A := []) (B := Q) (r := q0) (rest := T) H2.out.2.2.1.row rfl (by have := HE.out; first | omega | (simp; omega)) HE.out.2.2.2.2.2.2.2.2.2.2.2 (by omega) HO.out hv rfl hvl
  refine Calls.mono hins ?_
  clear hins
  rintro e w4 ⟨rfl, hr4, k4⟩
  have H3 : Hid (NodeR w4 nb ib cb ns nk (S1 ++ sv :: S2 ++ rS) (K1 ++ .pointer (some ⟨lb, 0, none⟩) :: .pointer (some ⟨xb, 0, none⟩) :: K2 ++ rK) ∧ LeafR w4 lb lib nl (P ++ .pointer p0 :: R) ∧ LeafR w4 xb xib nc (.pointer p0 :: Q ++ T) ∧ Kep (fun k => k = ib ∨ k = lb ∨ k = lib ∨ k = xb ∨ k = xib) w w4) := ⟨H2.out.1.kep k4 HN.out.2.2.2.2.2.2.2.2.1 HN.out.2.2.2.2.1 (Ne.symm HN.out.2.2.2.2.2.2.2.2.2.2.2.2.2.2.2.2.2.2.2.2), H2.out.2.1.kep k4 HN.out.2.2.2.2.2.2.2.2.2.2.2.2.1 HN.out.2.2.2.2.2.1, ⟨H2.out.2.2.1.node.kep k4 HN.out.2.2.2.2.2.2.2.2.2.2.2.2.2.2.2.2.1, hr4⟩, H2.out.2.2.2.trans k4 (fun j hj e => by simp [e])⟩
  refine hK.out _ _ trivial (fun _ => ⟨H3.out.2.2.1.c0, H3.out.2.1.c0, by rw [H3.out.2.1.row.cell, HE.out.2.2.2.2.2.2.2.1]; simp⟩) ?_
  clear hK hr4 k4 hv hvl H2
  try simp only [Act.put, List.getElem_toArray, List.getElem_cons_succ, List.getElem_cons_zero, List.setIfInBounds_toArray, List.set_cons_zero, List.set_cons_succ]
  have HA : Hid (w4.cell? ⟨xb, 0, none⟩ = some (.slice (some ⟨xib, 0, none⟩) nc 64) ∧ w4.cell? ⟨lb, 0, none⟩ = some (.slice (some ⟨lib, 0, none⟩) nl 64) ∧ w4.cell? ⟨lib, m, none⟩ = some (.pointer p0)) := ⟨H3.out.2.2.1.c0, H3.out.2.1.c0, by rw [H3.out.2.1.row.cell, HE.out.2.2.2.2.2.2.2.1]; simp⟩
  refine takeB (i := 14) (v := .pointer (some ⟨xb, 0, none⟩)) (d := 74) (listed' := #[true, true, true, true, true, true, true, true, true, true, true, true, true, true, true, false, false]) rfl rfl (by kernel_rfl) (by kernel_rfl) (by kernel_rfl) (by kernel_rfl) (by kernel_rfl) rfl (fun _ _ _ h => h) (fun _ => HA.out) trivial (fun w' _ => ex_nil (x := .tmp 60) (a := ⟨xb, 0, none⟩) rfl (by kernel_rfl)) ?_
  dsimp only [List.set_cons_zero, List.set_cons_succ]
  refine takeB (i := 15) (v := .pointer (some ⟨xb, 0, none⟩)) (d := 75) (listed' := #[true, true, true, true, true, true, true, true, true, true, true, true, true, true, true, true, false]) rfl rfl (by kernel_rfl) (by kernel_rfl) (by kernel_rfl) (by kernel_rfl) (by kernel_rfl) rfl (fun _ _ _ h => h) (fun _ => HA.out) trivial (fun w' _ => ex_f62_0 (b := xb) (x := .tmp 74) rfl (by kernel_rfl)) ?_
  dsimp only [List.set_cons_zero, List.set_cons_succ]
  have c0 := H3.out.2.2.1.c0
  have f0 := H3.out.2.2.1.node.frozen 0
  refine wpAnyG_step (i := 16) (by kernel_rfl) rfl (fun K hK => ?_)
  go_simp
  refine hK.out _ _ trivial (fun h => not_early (by kernel_rfl) h) ?_
  clear hK c0 f0 HA
  have H4 : Hid (NodeR (w4.setCell ⟨xb, 0, none⟩ (.slice (some ⟨xib, 0, none⟩) (nc + 1) 64)) nb ib cb ns nk (S1 ++ sv :: S2 ++ rS) (K1 ++ .pointer (some ⟨lb, 0, none⟩) :: .pointer (some ⟨xb, 0, none⟩) :: K2 ++ rK) ∧ LeafR (w4.setCell ⟨xb, 0, none⟩ (.slice (some ⟨xib, 0, none⟩) (nc + 1) 64)) lb lib nl (P ++ .pointer p0 :: R) ∧ LeafR (w4.setCell ⟨xb, 0, none⟩ (.slice (some ⟨xib, 0, none⟩) (nc + 1) 64)) xb xib (nc + 1) (.pointer p0 :: Q ++ T) ∧ Kep (fun k => k = ib ∨ k = lb ∨ k = lib ∨ k = xb ∨ k = xib) w (w4.setCell ⟨xb, 0, none⟩ (.slice (some ⟨xib, 0, none⟩) (nc + 1) 64))) := ⟨H3.out.1.kep (kep_set _ _ _ _) HN.out.2.1 (Ne.symm HN.out.2.2.2.2.2.2.2.2.2.2.2.2.2.2.1) (Ne.symm HN.out.2.2.2.2.2.2.2.2.2.2.2.2.2.2.2.2.2.1), H3.out.2.1.kep (kep_set _ _ _ _) HN.out.2.2.1 (Ne.symm HN.out.2.2.2.2.2.2.2.2.2.2.2.2.2.2.2.1), H3.out.2.2.1.set0 _, H3.out.2.2.2.trans (kep_set _ _ _ _) (fun j hj e => by simp [e])⟩
  clear H3
  generalize w4.setCell ⟨xb, 0, none⟩ (.slice (some ⟨xib, 0, none⟩) (nc + 1) 64) = w5 at *
  try simp only [Act.put, List.getElem_toArray, List.getElem_cons_succ, List.getElem_cons_zero, List.setIfInBounds_toArray, List.set_cons_zero, List.set_cons_succ]
  refine wpAnyG_done (by kernel_rfl) ?_ _
  refine NoPanic.normal ?_
  have hnc1 : (0 : Int) < ((nc + 1 : Nat) : Int) := by omega
  go_upto_region 10 with fail
  refine wp_region_G (fun w' => w'.cell? ⟨nb, 0, none⟩ = some (.slice (some ⟨ib, 0, none⟩) ns 63) ∧ w'.cell? ⟨xb, 0, none⟩ = some (.slice (some ⟨xib, 0, none⟩) (nc + 1) 64) ∧ w'.cell? ⟨xib, 0, none⟩ = some (.pointer p0)) (fun _ => True) [13] (by kernel_rfl) ?_
  have H5 : Hid (NodeR (w5.drew) nb ib cb ns nk (S1 ++ sv :: S2 ++ rS) (K1 ++ .pointer (some ⟨lb, 0, none⟩) :: .pointer (some ⟨xb, 0, none⟩) :: K2 ++ rK) ∧ LeafR (w5.drew) lb lib nl (P ++ .pointer p0 :: R) ∧ LeafR (w5.drew) xb xib (nc + 1) (.pointer p0 :: Q ++ T) ∧ Kep (fun k => k = ib ∨ k = lb ∨ k = lib ∨ k = xb ∨ k = xib) w (w5.drew)) := ⟨H4.out.1.kep ((Kep.refl (fun _ => False) w5).drew) id id id, H4.out.2.1.kep ((Kep.refl (fun _ => False) w5).drew) id id, H4.out.2.2.1.kep ((Kep.refl (fun _ => False) w5).drew) id id, H4.out.2.2.2.trans ((Kep.refl (fun _ => False) w5).drew) (fun _ _ h => h.elim)⟩
  clear H4
  generalize w5.drew = w6 at *
  have HA : Hid (w6.cell? ⟨nb, 0, none⟩ = some (.slice (some ⟨ib, 0, none⟩) ns 63) ∧ w6.cell? ⟨xb, 0, none⟩ = some (.slice (some ⟨xib, 0, none⟩) (nc + 1) 64) ∧ w6.cell? ⟨xib, 0, none⟩ = some (.pointer p0)) := ⟨H5.out.1.c0, H5.out.2.2.1.c0, by rw [H5.out.2.2.1.row.cell]; rfl⟩
  refine takeB (i := 0) (v := .pointer (some ⟨nb, 0, none⟩)) (d := 76) (listed' := #[true, false, false, false, false, false, false, false, false, false, false, false, false, false]) rfl rfl (by kernel_rfl) (by kernel_rfl) (by kernel_rfl) (by kernel_rfl) (by kernel_rfl) rfl (fun _ _ _ h => h) (fun _ => HA.out) trivial (fun w' _ => ex_move (x := .tmp 1) (v := .pointer (some ⟨nb, 0, none⟩)) rfl (by kernel_rfl)) ?_
  dsimp only [List.set_cons_zero, List.set_cons_succ]
  refine takeB (i := 1) (v := .pointer (some ⟨nb, 0, none⟩)) (d := 77) (listed' := #[true, true, false, false, false, false, false, false, false, false, false, false, false, false]) rfl rfl (by kernel_rfl) (by kernel_rfl) (by kernel_rfl) (by kernel_rfl) (by kernel_rfl) rfl (fun _ _ _ h => h) (fun _ => HA.out) trivial (fun w' _ => ex_nil (x := .tmp 76) (a := ⟨nb, 0, none⟩) rfl (by kernel_rfl)) ?_
  dsimp only [List.set_cons_zero, List.set_cons_succ]
  refine takeB (i := 2) (v := .pointer (some ⟨nb, 0, none⟩)) (d := 78) (listed' := #[true, true, true, false, false, false, false, false, false, false, false, false, false, false]) rfl rfl (by kernel_rfl) (by kernel_rfl) (by kernel_rfl) (by kernel_rfl) (by kernel_rfl) rfl (fun _ _ _ h => h) (fun _ => HA.out) trivial (fun w' _ => ex_f62_0 (b := nb) (x := .tmp 77) rfl (by kernel_rfl)) ?_
  dsimp only [List.set_cons_zero, List.set_cons_succ]
  refine takeA (i := 3) (v := .slice (some ⟨ib, 0, none⟩) ns 63) (d := 79) (listed' := #[true, true, true, true, false, false, false, false, false, false, false, false, false, false]) rfl rfl (by kernel_rfl) (by kernel_rfl) (by kernel_rfl) (by kernel_rfl) (by kernel_rfl) rfl (fun _ _ _ h => h) HA.out trivial (fun w' hSw => ex_load59 (x := .tmp 78) (a := ⟨nb, 0, none⟩) rfl (by kernel_rfl) hSw.1.1) ?_
  dsimp only [List.set_cons_zero, List.set_cons_succ]
  refine takeB (i := 4) (v := .int .i64 (i : Int)) (d := 80) (listed' := #[true, true, true, true, true, false, false, false, false, false, false, false, false, false]) rfl rfl (by kernel_rfl) (by kernel_rfl) (by kernel_rfl) (by kernel_rfl) (by kernel_rfl) rfl (fun _ _ _ h => h) (fun _ => HA.out) trivial (fun w' _ => ex_move (x := .tmp 2) (v := .int .i64 (i : Int)) rfl (by kernel_rfl)) ?_
  dsimp only [List.set_cons_zero, List.set_cons_succ]
  refine takeB (i := 5) (v := .int .i64 (j : Int)) (d := 81) (listed' := #[true, true, true, true, true, true, false, false, false, false, false, false, false, false]) rfl rfl (by kernel_rfl) (by kernel_rfl) (by kernel_rfl) (by kernel_rfl) (by kernel_rfl) rfl (fun _ _ _ h => h) (fun _ => HA.out) trivial (fun w' _ => ex_sub1 (x := .tmp 80) rfl (by kernel_rfl) rfl (by assumption) (by omega)) ?_
  dsimp only [List.set_cons_zero, List.set_cons_succ]
  refine takeB (i := 6) (v := .pointer (some ⟨xb, 0, none⟩)) (d := 82) (listed' := #[true, true, true, true, true, true, true, false, false, false, false, false, false, false]) rfl rfl (by kernel_rfl) (by kernel_rfl) (by kernel_rfl) (by kernel_rfl) (by kernel_rfl) rfl (fun _ _ _ h => h) (fun _ => HA.out) trivial (fun w' _ => ex_move (x := .tmp 7) (v := .pointer (some ⟨xb, 0, none⟩)) rfl (by kernel_rfl)) ?_
  dsimp only [List.set_cons_zero, List.set_cons_succ]
  refine takeB (i := 7) (v := .pointer (some ⟨xb, 0, none⟩)) (d := 83) (listed' := #[true, true, true, true, true, true, true, true, false, false, false, false, false, false]) rfl rfl (by kernel_rfl) (by kernel_rfl) (by kernel_rfl) (by kernel_rfl) (by kernel_rfl) rfl (fun _ _ _ h => h) (fun _ => HA.out) trivial (fun w' _ => ex_nil (x := .tmp 82) (a := ⟨xb, 0, none⟩) rfl (by kernel_rfl)) ?_
  dsimp only [List.set_cons_zero, List.set_cons_succ]
  refine takeB (i := 8) (v := .pointer (some ⟨xb, 0, none⟩)) (d := 84) (listed' := #[true, true, true, true, true, true, true, true, true, false, false, false, false, false]) rfl rfl (by kernel_rfl) (by kernel_rfl) (by kernel_rfl) (by kernel_rfl) (by kernel_rfl) rfl (fun _ _ _ h => h) (fun _ => HA.out) trivial (fun w' _ => ex_f62_0 (b := xb) (x := .tmp 83) rfl (by kernel_rfl)) ?_
  dsimp only [List.set_cons_zero, List.set_cons_succ]
  refine takeA (i := 9) (v := .slice (some ⟨xib, 0, none⟩) (nc + 1) 64) (d := 85) (listed' := #[true, true, true, true, true, true, true, true, true, true, false, false, false, false]) rfl rfl (by kernel_rfl) (by kernel_rfl) (by kernel_rfl) (by kernel_rfl) (by kernel_rfl) rfl (fun _ _ _ h => h) HA.out trivial (fun w' hSw => ex_load59 (x := .tmp 84) (a := ⟨xb, 0, none⟩) rfl (by kernel_rfl) hSw.1.2.1) ?_
  dsimp only [List.set_cons_zero, List.set_cons_succ]
  refine takeB (i := 10) (v := .pointer (some ⟨xib, 0, none⟩)) (d := 86) (listed' := #[true, true, true, true, true, true, true, true, true, true, true, false, false, false]) rfl rfl (by kernel_rfl) (by kernel_rfl) (by kernel_rfl) (by kernel_rfl) (by kernel_rfl) rfl (fun _ _ _ h => h) (fun _ => HA.out) trivial (fun w' _ => ex_index59 (b := xib) (n := (nc + 1)) (c := 64) (x := .tmp 85) (y := .const (.int .i64 0)) (k := 0) rfl (by kernel_rfl) (by kernel_rfl) (by first | assumption | omega)) ?_
  dsimp only [List.set_cons_zero, List.set_cons_succ]
  refine takeA (i := 11) (v := .pointer p0) (d := 87) (listed' := #[true, true, true, true, true, true, true, true, true, true, true, true, false, false]) rfl rfl (by kernel_rfl) (by kernel_rfl) (by kernel_rfl) (by kernel_rfl) (by kernel_rfl) rfl (fun _ _ _ h => h) HA.out trivial (fun w' hSw => ex_load46 (x := .tmp 86) (a := ⟨xib, 0, none⟩) rfl (by kernel_rfl) hSw.1.2.2) ?_
  dsimp only [List.set_cons_zero, List.set_cons_succ]
  refine takeB (i := 12) (v := .pointer (some ⟨ib, j, none⟩)) (d := 88) (listed' := #[true, true, true, true, true, true, true, true, true, true, true, true, true, false]) rfl rfl (by kernel_rfl) (by kernel_rfl) (by kernel_rfl) (by kernel_rfl) (by kernel_rfl) rfl (fun _ _ _ h => h) (fun _ => HA.out) trivial (fun w' _ => ex_index59 (b := ib) (n := ns) (c := 63) (x := .tmp 79) (y := .tmp 81) (k := j) rfl (by kernel_rfl) (by kernel_rfl) (by first | assumption | omega)) ?_
  dsimp only [List.set_cons_zero, List.set_cons_succ]
  have c0 := (show w6.cell? ⟨ib, j, none⟩ = some (sv) by rw [H5.out.1.row.cell, HE.out.2.2.2.2.2.1]; simp)
  have f0 := H5.out.1.row.frozen j
  refine wpAnyG_step (i := 13) (by kernel_rfl) rfl (fun K hK => ?_)
  go_simp
  refine hK.out _ _ trivial (fun h => not_early (by kernel_rfl) h) ?_
  clear hK c0 f0 HA
  have H6 : Hid (NodeR (w6.setCell ⟨ib, j, none⟩ (.pointer p0)) nb ib cb ns nk (S1 ++ .pointer p0 :: S2 ++ rS) (K1 ++ .pointer (some ⟨lb, 0, none⟩) :: .pointer (some ⟨xb, 0, none⟩) :: K2 ++ rK) ∧ LeafR (w6.setCell ⟨ib, j, none⟩ (.pointer p0)) lb lib nl (P ++ .pointer p0 :: R) ∧ LeafR (w6.setCell ⟨ib, j, none⟩ (.pointer p0)) xb xib (nc + 1) (.pointer p0 :: Q ++ T) ∧ Kep (fun k => k = ib ∨ k = lb ∨ k = lib ∨ k = xb ∨ k = xib) w (w6.setCell ⟨ib, j, none⟩ (.pointer p0))) := ⟨⟨H5.out.1.node.kep (kep_set _ _ _ _) HN.out.2.2.2.2.2.2.1, H5.out.1.row.setSep HE.out.2.2.2.2.2.1, H5.out.1.kid.kep (kep_set _ _ _ _) (Ne.symm HN.out.2.2.2.2.2.2.2.2.2.2.2.2.2.2.2.2.2.2.1)⟩, H5.out.2.1.kep (kep_set _ _ _ _) HN.out.2.2.2.2.2.2.2.2.2.2.1 (Ne.symm HN.out.2.2.2.1), H5.out.2.2.1.kep (kep_set _ _ _ _) HN.out.2.2.2.2.2.2.2.2.2.2.2.2.2.2.1 (Ne.symm HN.out.2.2.2.2.1), H5.out.2.2.2.trans (kep_set _ _ _ _) (fun j hj e => by simp [e])⟩
  clear H5
  generalize w6.setCell ⟨ib, j, none⟩ (.pointer p0) = w7 at *
  try simp only [Act.put, List.getElem_toArray, List.getElem_cons_succ, List.getElem_cons_zero, List.setIfInBounds_toArray, List.set_cons_zero, List.set_cons_succ]
  refine wpAnyG_done (by kernel_rfl) ?_ _
  refine NoPanic.normal ?_
  have l0 := H6.out.2.1.c0
  go_wp2_with fail
  refine (delete37 (A := P) (B := []) (x := .pointer p0) (rest := R) (by have := H6.out.2.1.row; simpa using this) HE.out.2.2.2.2.2.2.2.1 (by have := HE.out; first | omega | (simp; omega)) HE.out.2.2.2.2.2.2.2.2.2.1 (by omega) (fun u hu => by cases hu)).mono ?_
  rintro e w90 ⟨rfl, hr9, k9⟩
  have H7 : Hid (NodeR w90 nb ib cb ns nk (S1 ++ .pointer p0 :: S2 ++ rS) (K1 ++ .pointer (some ⟨lb, 0, none⟩) :: .pointer (some ⟨xb, 0, none⟩) :: K2 ++ rK) ∧ LeafR w90 lb lib nl (P ++ .pointer none :: R) ∧ LeafR w90 xb xib (nc + 1) (.pointer p0 :: Q ++ T) ∧ Kep (fun k => k = ib ∨ k = lb ∨ k = lib ∨ k = xb ∨ k = xib) w w90) := ⟨H6.out.1.kep k9 HN.out.2.2.2.2.2.2.2.1 HN.out.2.2.2.1 (Ne.symm HN.out.2.2.2.2.2.2.2.2.2.2.2.2.2.2.2.2.2.2.2.1), ⟨H6.out.2.1.node.kep k9 HN.out.2.2.2.2.2.2.2.2.2.2.2.1, by simpa using hr9⟩, H6.out.2.2.1.kep k9 HN.out.2.2.2.2.2.2.2.2.2.2.2.2.2.2.2.1 (Ne.symm HN.out.2.2.2.2.2.1), H6.out.2.2.2.trans k9 (fun j hj e => by simp [e])⟩
  have l0 := H7.out.2.1.c0
  have f0 := H7.out.2.1.node.frozen 0
  clear H6 hr9 k9
  go_wp2
  go_ret
  have H8 : Hid (NodeR (w90.setCell ⟨lb, 0, none⟩ (.slice (some ⟨lib, 0, none⟩) (nl - 1) 64)) nb ib cb ns nk (S1 ++ .pointer p0 :: S2 ++ rS) (K1 ++ .pointer (some ⟨lb, 0, none⟩) :: .pointer (some ⟨xb, 0, none⟩) :: K2 ++ rK) ∧ LeafR (w90.setCell ⟨lb, 0, none⟩ (.slice (some ⟨lib, 0, none⟩) (nl - 1) 64)) lb lib (nl - 1) (P ++ .pointer none :: R) ∧ LeafR (w90.setCell ⟨lb, 0, none⟩ (.slice (some ⟨lib, 0, none⟩) (nl - 1) 64)) xb xib (nc + 1) (.pointer p0 :: Q ++ T) ∧ Kep (fun k => k = ib ∨ k = lb ∨ k = lib ∨ k = xb ∨ k = xib) w (w90.setCell ⟨lb, 0, none⟩ (.slice (some ⟨lib, 0, none⟩) (nl - 1) 64))) := ⟨H7.out.1.kep (kep_set _ _ _ _) HN.out.1 (Ne.symm HN.out.2.2.2.2.2.2.2.2.2.2.1) (Ne.symm HN.out.2.2.2.2.2.2.2.2.2.2.2.2.2.1), H7.out.2.1.set0 _, H7.out.2.2.1.kep (kep_set _ _ _ _) (Ne.symm HN.out.2.2.1) (Ne.symm HN.out.2.2.2.2.2.2.2.2.2.2.2.2.1), H7.out.2.2.2.trans (kep_set _ _ _ _) (fun j hj e => by simp [e])⟩
  exact ⟨rfl, H8.out⟩
end Go.Proofs.Qxb6615764a
