/-
  The walk of split (40).
-/
import Derived.Test.Qxb6615764aSmall
import Derived.Deep.Cut
namespace Go.Proofs.Qxb6615764a
open Go.RowKit Go.Lib
set_option linter.unusedVariables false
set_option linter.unusedSimpArgs false

set_option maxHeartbeats 1000000 in
/-- newLeaf(32). -/
theorem leaf32_any (w : World) : Calls Try.prog 32 #[.int .i64 32] w fun e w' => e = .returned (.pointer (some ⟨w.heap.size + 1, 0, none⟩)) ∧ w' = (w.alloc (.cells (nilA 64) 46)).alloc (.cells #[.slice (some ⟨w.heap.size, 0, none⟩) 32 64, .slice none 0 0] 62) := by
  go_enter Try.func32, Try.ntmps32
  go_wp2
  go_ret
  exact ⟨by simp, rfl⟩

theorem row_ne {w : World} {a b : Nat} {t u : TypeId} {x y : List Value} (h : RowB w a t x) (k : RowB w b u y) (hn : t ≠ u) : a ≠ b := by
  intro e; subst e
  unfold RowB at h k
  rw [h] at k
  injection k with k
  injection k with _ k _
  exact hn k
theorem RowB.set {w : World} {b o : Nat} {ty : TypeId} {L P S : List Value} {q v : Value} (h : RowB w b ty L) (hL : L = P ++ q :: S) (ho : o = P.length) : RowB (w.setCell ⟨b, o, none⟩ v) b ty (P ++ v :: S) := by
  have := h.setMid (P := P) (Q := [q]) (S := S) (by simp [hL]) ho [v] rfl
  simpa [World.setCells] using this
/-- A row of nil pointers. -/
def nils (n : Nat) : List Value := List.replicate n (.pointer none)

set_option maxHeartbeats 4000000 in
set_option maxRecDepth 100000 in
theorem split_leaf {w : World} {tv : Value} {nb ib cb i lb lib ns nk : Nat} {S1 S2 restS K1 K2 restK P Q : List Value} {s0 k0 : Value}
    (hN : RowB w nb 62 [.slice (some ⟨ib, 0, none⟩) ns 63, .slice (some ⟨cb, 0, none⟩) nk 64])
    (hS : RowB w ib 46 (S1 ++ S2 ++ s0 :: restS)) (hns : ns = S1.length + S2.length) (hS63 : 63 = ns + 1 + restS.length)
    (hK : RowB w cb 55 (K1 ++ .pointer (some ⟨lb, 0, none⟩) :: K2 ++ k0 :: restK)) (hnk : nk = K1.length + 1 + K2.length) (hK64 : 64 = nk + 1 + restK.length)
    (hi : i = K1.length) (hi' : i = S1.length)
    (hL : RowB w lb 62 [.slice (some ⟨lib, 0, none⟩) 64 64, .slice none 0 0]) (hI : RowB w lib 46 (P ++ Q)) (hP : P.length = 32) (hQ : Q.length = 32)
    (hS1 : ∀ u ∈ S2, u.oneCell' = true) (hK1 : ∀ u ∈ K2, u.oneCell' = true) (hQp : ∀ u ∈ Q, ∃ a, u = .pointer a) (hnl : nb ≠ lb) (hil : ib ≠ lib) :
    Calls Try.prog 40 #[tv, .pointer (some ⟨nb, 0, none⟩), .int .i64 (i : Int)] w fun e w' => e = .returned (.tuple #[]) ∧ (∃ q0 Q', Q = q0 :: Q' ∧ RowB w' ib 46 (S1 ++ q0 :: S2 ++ restS)) ∧
      RowB w' nb 62 [.slice (some ⟨ib, 0, none⟩) (ns + 1) 63, .slice (some ⟨cb, 0, none⟩) (nk + 1) 64] ∧
      RowB w' lb 62 [.slice (some ⟨lib, 0, none⟩) 32 64, .slice none 0 0] ∧ RowB w' lib 46 (P ++ nils 32) ∧
      (∃ rb rib, w.heap.size ≤ rb ∧ w.heap.size ≤ rib ∧ rb ≠ rib ∧ RowB w' cb 55 (K1 ++ .pointer (some ⟨lb, 0, none⟩) :: .pointer (some ⟨rb, 0, none⟩) :: K2 ++ restK) ∧ RowB w' rb 62 [.slice (some ⟨rib, 0, none⟩) 32 64, .slice none 0 0] ∧ ∃ rest, RowB w' rib 46 (Q ++ rest) ∧ rest.length = 32) ∧
      Kep (fun k => k = nb ∨ k = ib ∨ k = cb ∨ k = lb ∨ k = lib) w w' := by
  have n0 := hN.cell 0
  have n1 := hN.cell 1
  have l0 := hL.cell 0
  have l1 := hL.cell 1
  simp only [List.getElem?_cons_zero, List.getElem?_cons_succ] at n0 n1 l0 l1
  have hki : w.cell? ⟨cb, i, none⟩ = some (.pointer (some ⟨lb, 0, none⟩)) := by
    rw [hK.cell, hi]; simp
  have hQ1 : ∀ u ∈ Q, u.oneCell' = true := fun u hu => by obtain ⟨a, rfl⟩ := hQp u hu; rfl
  have HQP : Hid (∀ u ∈ Q, ∃ a, u = .pointer a) := hQp
  clear hQp
  have hik : (i : Int) < (nk : Int) := by omega
  have hi32 : (i : Int) ≤ 64 := by omega
  have HW : Hid (RowB w nb 62 [.slice (some ⟨ib, 0, none⟩) ns 63, .slice (some ⟨cb, 0, none⟩) nk 64] ∧ RowB w ib 46 (S1 ++ S2 ++ s0 :: restS) ∧ RowB w cb 55 (K1 ++ .pointer (some ⟨lb, 0, none⟩) :: K2 ++ k0 :: restK) ∧ RowB w lb 62 [.slice (some ⟨lib, 0, none⟩) 64 64, .slice none 0 0] ∧ RowB w lib 46 (P ++ Q)) := ⟨hN, hS, hK, hL, hI⟩
  have HE : Hid ((ns = S1.length + S2.length ∧ 63 = ns + 1 + restS.length) ∧ (nk = K1.length + 1 + K2.length ∧ 64 = nk + 1 + restK.length) ∧ i = K1.length ∧ i = S1.length ∧ P.length = 32 ∧ Q.length = 32) := ⟨⟨hns, hS63⟩, ⟨hnk, hK64⟩, hi, hi', hP, hQ⟩
  have HN : Hid (nb ≠ lb ∧ ib ≠ lib ∧ nb ≠ ib ∧ nb ≠ cb ∧ nb ≠ lib ∧ ib ≠ cb ∧ ib ≠ lb ∧ cb ≠ lb ∧ cb ≠ lib ∧ lb ≠ lib) := ⟨hnl, hil, row_ne hN hS (by decide), row_ne hN hK (by decide), row_ne hN hI (by decide), row_ne hS hK (by decide), row_ne hS hL (by decide), row_ne hK hL (by decide), row_ne hK hI (by decide), row_ne hL hI (by decide)⟩
  have hlt : nb < w.heap.size ∧ ib < w.heap.size ∧ cb < w.heap.size ∧ lb < w.heap.size ∧ lib < w.heap.size := ⟨hN.lt, hS.lt, hK.lt, hL.lt, hI.lt⟩
  have HL : Hid (nb < w.heap.size ∧ ib < w.heap.size ∧ cb < w.heap.size ∧ lb < w.heap.size ∧ lib < w.heap.size) := hlt
  clear hN hS hK hL hI hns hS63 hnk hK64 hi hi' hP hQ hnl hil hlt
  go_enter Try.func40, Try.ntmps40
  go_wp2_with fail
  refine (leaf32_any w).mono ?_
  rintro e w1 ⟨rfl, hw1⟩
  have hk1 : Kep (fun _ => False) w w1 := by rw [hw1]; exact ((Kep.refl _ _).alloc _).alloc _
  have hr1 : RowB w1 (w.heap.size + 1) 62 [.slice (some ⟨w.heap.size, 0, none⟩) 32 64, .slice none 0 0] := by
    have := row_new (w.alloc (.cells (nilA 64) 46)) 62 [.slice (some ⟨w.heap.size, 0, none⟩) 32 64, .slice none 0 0]
    rw [hw1]; simpa using this
  have hr2 : RowB w1 w.heap.size 46 (nilA 64).toList := by rw [hw1]; exact (row_newA w 46 (nilA 64)).kep ((Kep.refl (fun _ => False) _).alloc _) (fun h => h)
  obtain ⟨rib, hrib⟩ : ∃ rib, rib = w.heap.size := ⟨_, rfl⟩
  rw [← hrib] at hr1 hr2 ⊢
  have HR : Hid (rib = w.heap.size) := hrib
  have HW1 : Hid ((RowB w1 nb 62 [.slice (some ⟨ib, 0, none⟩) ns 63, .slice (some ⟨cb, 0, none⟩) nk 64] ∧ RowB w1 ib 46 (S1 ++ S2 ++ s0 :: restS) ∧ RowB w1 cb 55 (K1 ++ .pointer (some ⟨lb, 0, none⟩) :: K2 ++ k0 :: restK)) ∧ (RowB w1 lb 62 [.slice (some ⟨lib, 0, none⟩) 64 64, .slice none 0 0] ∧ RowB w1 lib 46 (P ++ Q)) ∧ RowB w1 (rib + 1) 62 [.slice (some ⟨rib, 0, none⟩) 32 64, .slice none 0 0] ∧ RowB w1 rib 46 (nilA 64).toList ∧ Kep (fun _ => False) w w1) :=
    ⟨⟨HW.out.1.kep hk1 (fun h => h), HW.out.2.1.kep hk1 (fun h => h), HW.out.2.2.1.kep hk1 (fun h => h)⟩, ⟨HW.out.2.2.2.1.kep hk1 (fun h => h), HW.out.2.2.2.2.kep hk1 (fun h => h)⟩, hr1, hr2, hk1⟩
  have c1 := hr1.cell 0
  have c2 := HW1.out.2.1.1.cell 0
  simp only [List.getElem?_cons_zero] at c1 c2
  clear hw1 hk1 hr1 hr2 hrib HW n0 n1 l0 l1 hki
  go_wp2_with fail
  -- copy(right.items, c.items[32:])
  have hcp : ∀ ty, (Builtin.copy_ #[59, 59] ty #[.slice (some ⟨rib, 0, none⟩) 32 64, .slice (some ⟨lib, 32, none⟩) 32 32]).run Try.prog w1.drew = .ok (goInt Q.length) (w1.drew.setCells rib 0 Q) := fun ty =>
    run_copy_cells (P := Try.prog) w1.drew 59 59 ty 46 rib 0 32 64 ⟨lib, 32, none⟩ 32 32 Q Try.underlying59 Try.size46 (by rw [HE.out.2.2.2.2.2]; rfl)
      (fun j u hj => by rw [Addr.add_lit, HW1.out.2.1.2.drew.cell, List.getElem?_append_right (by have := HE.out.2.2.2.2.1; omega), HE.out.2.2.2.2.1, Nat.add_sub_cancel_left]; exact hj)
      (fun j hj => by rw [HW1.out.2.2.2.1.drew.cell, List.getElem?_eq_getElem (by rw [nilA_len]; have := HE.out.2.2.2.2.2; omega)]; rfl) (fun j hj => HW1.out.2.2.2.1.drew.frozen _) hQ1
  refine wp_region_noPanic ?_
  refine wp_region_held_drew (S := fun w' => w'.cell? ⟨rib + 1, 0, none⟩ = some (.slice (some ⟨rib, 0, none⟩) 32 64) ∧ w'.cell? ⟨lb, 0, none⟩ = some (.slice (some ⟨lib, 0, none⟩) 64 64)) (by kernel_rfl) ⟨c1, c2⟩ (fun hHeld => ?_)
  refine wpAnyH_take (i := 0) (v := .pointer (some ⟨rib + 1, 0, none⟩)) rfl (by kernel_rfl) (by kernel_rfl) (by kernel_rfl) (fun _ _ _ h => h) (Or.inl ⟨by rfl, fun w' hSw => by kernel_rfl⟩) hHeld ?_
  try simp only [Act.put, List.getElem_toArray, List.getElem_cons_succ, List.getElem_cons_zero, List.setIfInBounds_toArray, List.set_cons_zero, List.set_cons_succ]
  refine wpAnyH_take (i := 1) (v := .pointer (some ⟨rib + 1, 0, none⟩)) rfl (by kernel_rfl) (by kernel_rfl) (by kernel_rfl) (fun _ _ _ h => h) (Or.inl ⟨by rfl, fun w' hSw => by go_simp⟩) hHeld ?_
  try simp only [Act.put, List.getElem_toArray, List.getElem_cons_succ, List.getElem_cons_zero, List.setIfInBounds_toArray, List.set_cons_zero, List.set_cons_succ]
  refine wpAnyH_take (i := 2) (v := .pointer (some ⟨rib + 1, 0, none⟩)) rfl (by kernel_rfl) (by kernel_rfl) (by kernel_rfl) (fun _ _ _ h => h) (Or.inl ⟨by rfl, fun w' hSw => by go_simp⟩) hHeld ?_
  try simp only [Act.put, List.getElem_toArray, List.getElem_cons_succ, List.getElem_cons_zero, List.setIfInBounds_toArray, List.set_cons_zero, List.set_cons_succ]
  refine wpAnyH_take (i := 3) (v := .slice (some ⟨rib, 0, none⟩) 32 64) rfl (by kernel_rfl) (by kernel_rfl) (by kernel_rfl) (fun _ _ _ h => h) (Or.inl ⟨by rfl, fun w' hSw => by (have h := hSw.1; go_simp)⟩) hHeld ?_
  try simp only [Act.put, List.getElem_toArray, List.getElem_cons_succ, List.getElem_cons_zero, List.setIfInBounds_toArray, List.set_cons_zero, List.set_cons_succ]
  refine wpAnyH_take (i := 4) (v := .pointer (some ⟨lb, 0, none⟩)) rfl (by kernel_rfl) (by kernel_rfl) (by kernel_rfl) (fun _ _ _ h => h) (Or.inl ⟨by rfl, fun w' hSw => by kernel_rfl⟩) hHeld ?_
  try simp only [Act.put, List.getElem_toArray, List.getElem_cons_succ, List.getElem_cons_zero, List.setIfInBounds_toArray, List.set_cons_zero, List.set_cons_succ]
  refine wpAnyH_take (i := 5) (v := .pointer (some ⟨lb, 0, none⟩)) rfl (by kernel_rfl) (by kernel_rfl) (by kernel_rfl) (fun _ _ _ h => h) (Or.inl ⟨by rfl, fun w' hSw => by go_simp⟩) hHeld ?_
  try simp only [Act.put, List.getElem_toArray, List.getElem_cons_succ, List.getElem_cons_zero, List.setIfInBounds_toArray, List.set_cons_zero, List.set_cons_succ]
  refine wpAnyH_take (i := 6) (v := .pointer (some ⟨lb, 0, none⟩)) rfl (by kernel_rfl) (by kernel_rfl) (by kernel_rfl) (fun _ _ _ h => h) (Or.inl ⟨by rfl, fun w' hSw => by go_simp⟩) hHeld ?_
  try simp only [Act.put, List.getElem_toArray, List.getElem_cons_succ, List.getElem_cons_zero, List.setIfInBounds_toArray, List.set_cons_zero, List.set_cons_succ]
  refine wpAnyH_take (i := 7) (v := .slice (some ⟨lib, 0, none⟩) 64 64) rfl (by kernel_rfl) (by kernel_rfl) (by kernel_rfl) (fun _ _ _ h => h) (Or.inl ⟨by rfl, fun w' hSw => by (have h := hSw.2; go_simp)⟩) hHeld ?_
  try simp only [Act.put, List.getElem_toArray, List.getElem_cons_succ, List.getElem_cons_zero, List.setIfInBounds_toArray, List.set_cons_zero, List.set_cons_succ]
  refine wpAnyH_take (i := 8) (v := .slice (some ⟨lib, 32, none⟩) 32 32) rfl (by kernel_rfl) (by kernel_rfl) (by kernel_rfl) (fun _ _ _ h => h) (Or.inl ⟨by rfl, fun w' hSw => by go_simp⟩) hHeld ?_
  try simp only [Act.put, List.getElem_toArray, List.getElem_cons_succ, List.getElem_cons_zero, List.setIfInBounds_toArray, List.set_cons_zero, List.set_cons_succ]
  refine wpAnyH_ready (rs := [9]) (by kernel_rfl) (by simp) ?_
  refine AllReadyH.cons rfl (fun K hK => ?_) AllReadyH.nil
  refine step_copy_runI rfl (.tmp 25) (.tmp 30) 59 59 rfl _ _ rfl rfl (hcp _) ?_
  have hk2 : Kep (fun k => k = rib) w1 (w1.drew.setCells rib 0 Q) := Kep.setCells (M := fun k => k = rib) (fun _ => rfl) _ _ (Kep.refl _ _).drew
  obtain ⟨tl, htl⟩ : ∃ tl, tl = (nilA 64).toList.drop 32 := ⟨_, rfl⟩
  have htl2 : tl.length = 32 := by rw [htl, List.length_drop, nilA_len]
  have hq2 : RowB (w1.drew.setCells rib 0 Q) rib 46 (Q ++ tl) := by
    have := HW1.out.2.2.2.1.drew.setMid (P := []) (Q := (nilA 64).toList.take 32) (S := tl) (o := 0) (by rw [htl]; simp) rfl Q (by rw [HE.out.2.2.2.2.2, List.length_take, nilA_len]; rfl)
    simpa using this
  have hne : ∀ {a : Nat}, a < w.heap.size → a ≠ rib := fun h => by have := HR.out; omega
  have HW2 : Hid ((RowB (w1.drew.setCells rib 0 Q) nb 62 [.slice (some ⟨ib, 0, none⟩) ns 63, .slice (some ⟨cb, 0, none⟩) nk 64] ∧ RowB (w1.drew.setCells rib 0 Q) ib 46 (S1 ++ S2 ++ s0 :: restS) ∧ RowB (w1.drew.setCells rib 0 Q) cb 55 (K1 ++ .pointer (some ⟨lb, 0, none⟩) :: K2 ++ k0 :: restK)) ∧ (RowB (w1.drew.setCells rib 0 Q) lb 62 [.slice (some ⟨lib, 0, none⟩) 64 64, .slice none 0 0] ∧ RowB (w1.drew.setCells rib 0 Q) lib 46 (P ++ Q)) ∧ RowB (w1.drew.setCells rib 0 Q) (rib + 1) 62 [.slice (some ⟨rib, 0, none⟩) 32 64, .slice none 0 0] ∧ RowB (w1.drew.setCells rib 0 Q) rib 46 (Q ++ tl) ∧ Kep (fun _ => False) w (w1.drew.setCells rib 0 Q)) :=
    ⟨⟨HW1.out.1.1.kep hk2 (hne HL.out.1), HW1.out.1.2.1.kep hk2 (hne HL.out.2.1), HW1.out.1.2.2.kep hk2 (hne HL.out.2.2.1)⟩, ⟨HW1.out.2.1.1.kep hk2 (hne HL.out.2.2.2.1), HW1.out.2.1.2.kep hk2 (hne HL.out.2.2.2.2)⟩, HW1.out.2.2.1.kep hk2 (by omega), hq2, HW1.out.2.2.2.2.trans hk2 (fun j hj e => by have := HR.out; omega)⟩
  have d1 := HW2.out.2.2.1.cell 0
  have d2 := HW2.out.2.1.1.cell 0
  simp only [List.getElem?_cons_zero] at d1 d2
  refine hK.out _ _ ⟨d1, d2⟩ (fun hHeld => ?_)
  clear hK
  try simp only [Act.put, List.getElem_toArray, List.getElem_cons_succ, List.getElem_cons_zero, List.setIfInBounds_toArray, List.set_cons_zero, List.set_cons_succ]
  refine wpAnyH_done (by kernel_rfl) ?_ _
  refine NoPanic.normal ?_
  clear hHeld hk2 hq2 hne HW1 c1 c2 hcp htl
  generalize w1.drew.setCells rib 0 Q = w2 at *
  -- clear(c.items[32:])
  have hcl : ∀ ty, (Builtin.clear_ #[59] ty #[.slice (some ⟨lib, 32, none⟩) 32 32]).run Try.prog w2 = .ok (.tuple #[]) (w2.setCells lib 32 (nils 32)) := fun ty =>
    Lib.run_clear_slice w2 59 46 ty (.pointer none) Try.underlying59 Try.zv46 rfl rfl lib 32 32 32 (by omega) (fun j hj => by rw [HW2.out.2.1.2.cell, List.getElem?_eq_getElem (by have := HE.out.2.2.2.2; simp; omega)]; rfl) (fun j hj => HW2.out.2.1.2.frozen _)
  have hcq : RowB (w2.setCells lib 32 (nils 32)) lib 46 (P ++ nils 32) := by
    have := HW2.out.2.1.2.setMid (P := P) (Q := Q) (S := []) (o := 32) (by simp) HE.out.2.2.2.2.1.symm (nils 32) (by rw [HE.out.2.2.2.2.2]; simp [nils])
    simpa using this
  have hk3 : Kep (fun k => k = lib) w2 (w2.setCells lib 32 (nils 32)) := Kep.setCells (M := fun k => k = lib) (fun _ => rfl) _ _ (Kep.refl _ _)
  go_upto_region 7 with (at_builtin; refine wpList_clear_runI _ rfl _ 59 rfl _ rfl (hcl _) ?_)
  have HW3 : Hid ((RowB (w2.setCells lib 32 (nils 32)) nb 62 [.slice (some ⟨ib, 0, none⟩) ns 63, .slice (some ⟨cb, 0, none⟩) nk 64] ∧ RowB (w2.setCells lib 32 (nils 32)) ib 46 (S1 ++ S2 ++ s0 :: restS) ∧ RowB (w2.setCells lib 32 (nils 32)) cb 55 (K1 ++ .pointer (some ⟨lb, 0, none⟩) :: K2 ++ k0 :: restK)) ∧ (RowB (w2.setCells lib 32 (nils 32)) lb 62 [.slice (some ⟨lib, 0, none⟩) 64 64, .slice none 0 0] ∧ RowB (w2.setCells lib 32 (nils 32)) lib 46 (P ++ nils 32)) ∧ RowB (w2.setCells lib 32 (nils 32)) (rib + 1) 62 [.slice (some ⟨rib, 0, none⟩) 32 64, .slice none 0 0] ∧ RowB (w2.setCells lib 32 (nils 32)) rib 46 (Q ++ tl) ∧ Kep (fun k => k = nb ∨ k = ib ∨ k = cb ∨ k = lb ∨ k = lib) w (w2.setCells lib 32 (nils 32))) :=
    ⟨⟨HW2.out.1.1.kep hk3 HN.out.2.2.2.2.1, HW2.out.1.2.1.kep hk3 HN.out.2.1, HW2.out.1.2.2.kep hk3 HN.out.2.2.2.2.2.2.2.2.1⟩, ⟨HW2.out.2.1.1.kep hk3 HN.out.2.2.2.2.2.2.2.2.2, hcq⟩, HW2.out.2.2.1.kep hk3 (by have := HR.out; have := HL.out; omega), HW2.out.2.2.2.1.kep hk3 (by have := HR.out; have := HL.out; omega), (HW2.out.2.2.2.2.mono (fun _ _ h => h.elim)).trans hk3 (fun j hj e => by simp [e])⟩
  have e1 := HW3.out.2.1.1.cell 0
  have f1 := HW3.out.2.1.1.frozen 0
  simp only [List.getElem?_cons_zero] at e1
  clear HW2 hcl hcq hk3 d1 d2
  generalize w2.setCells lib 32 (nils 32) = w3 at *
  go_upto_region 8 with fail
  -- c.items = c.items[:32]
  have hk4 : Kep (fun k => k = lb) w3 (w3.setCell ⟨lb, 0, none⟩ (.slice (some ⟨lib, 0, none⟩) 32 64)) := (Kep.refl _ _).setCell _ _ (fun _ => rfl)
  have hl4 : RowB (w3.setCell ⟨lb, 0, none⟩ (.slice (some ⟨lib, 0, none⟩) 32 64)) lb 62 [.slice (some ⟨lib, 0, none⟩) 32 64, .slice none 0 0] := HW3.out.2.1.1.set (P := []) rfl rfl
  have HW4 : Hid ((RowB (w3.setCell ⟨lb, 0, none⟩ (.slice (some ⟨lib, 0, none⟩) 32 64)) nb 62 [.slice (some ⟨ib, 0, none⟩) ns 63, .slice (some ⟨cb, 0, none⟩) nk 64] ∧ RowB (w3.setCell ⟨lb, 0, none⟩ (.slice (some ⟨lib, 0, none⟩) 32 64)) ib 46 (S1 ++ S2 ++ s0 :: restS) ∧ RowB (w3.setCell ⟨lb, 0, none⟩ (.slice (some ⟨lib, 0, none⟩) 32 64)) cb 55 (K1 ++ .pointer (some ⟨lb, 0, none⟩) :: K2 ++ k0 :: restK)) ∧ (RowB (w3.setCell ⟨lb, 0, none⟩ (.slice (some ⟨lib, 0, none⟩) 32 64)) lb 62 [.slice (some ⟨lib, 0, none⟩) 32 64, .slice none 0 0] ∧ RowB (w3.setCell ⟨lb, 0, none⟩ (.slice (some ⟨lib, 0, none⟩) 32 64)) lib 46 (P ++ nils 32)) ∧ RowB (w3.setCell ⟨lb, 0, none⟩ (.slice (some ⟨lib, 0, none⟩) 32 64)) (rib + 1) 62 [.slice (some ⟨rib, 0, none⟩) 32 64, .slice none 0 0] ∧ RowB (w3.setCell ⟨lb, 0, none⟩ (.slice (some ⟨lib, 0, none⟩) 32 64)) rib 46 (Q ++ tl) ∧ Kep (fun k => k = nb ∨ k = ib ∨ k = cb ∨ k = lb ∨ k = lib) w (w3.setCell ⟨lb, 0, none⟩ (.slice (some ⟨lib, 0, none⟩) 32 64))) :=
    ⟨⟨HW3.out.1.1.kep hk4 HN.out.1, HW3.out.1.2.1.kep hk4 HN.out.2.2.2.2.2.2.1, HW3.out.1.2.2.kep hk4 HN.out.2.2.2.2.2.2.2.1⟩, ⟨hl4, HW3.out.2.1.2.kep hk4 (Ne.symm HN.out.2.2.2.2.2.2.2.2.2)⟩, HW3.out.2.2.1.kep hk4 (by have := HR.out; have := HL.out; omega), HW3.out.2.2.2.1.kep hk4 (by have := HR.out; have := HL.out; omega), HW3.out.2.2.2.2.trans hk4 (fun j hj e => by simp [e])⟩
  obtain ⟨q0, Q', hQq⟩ : ∃ q0 Q', Q = .pointer q0 :: Q' := by
    cases Q with
    | nil => have := HE.out.2.2.2.2.2; simp at this
    | cons x Q' => obtain ⟨a, rfl⟩ := HQP.out x (List.mem_cons_self); exact ⟨_, _, rfl⟩
  have g1 := HW4.out.2.2.1.cell 0
  have g2 := HW4.out.2.2.2.1.cell 0
  have g3 := HW4.out.1.1.cell 0
  have fz1 := HW4.out.1.1.frozen 0
  simp only [List.getElem?_cons_zero] at g1 g3
  rw [hQq] at g2
  simp only [List.cons_append, List.getElem?_cons_zero] at g2
  have HQ : Hid (Q = .pointer q0 :: Q') := hQq
  clear HW3 hk4 hl4 e1 f1 hQq
  generalize w3.setCell ⟨lb, 0, none⟩ (.slice (some ⟨lib, 0, none⟩) 32 64) = w4 at *
  go_wp2_with fail
  have hk5 : Kep (fun _ => False) w4 (w4.alloc (.cells #[.pointer q0] 46)) := (Kep.refl _ _).alloc _
  have hv5 : RowB (w4.alloc (.cells #[.pointer q0] 46)) w4.heap.size 46 [.pointer q0] := row_new w4 46 [.pointer q0]
  refine (insert41 (A := S1) (B := S2) (r := s0) (rest := restS) (HW4.out.1.2.1.kep hk5 (fun h => h)) HE.out.2.2.2.1 HE.out.1.1 HE.out.1.2 (by omega) hS1 hv5 rfl (by have := HW4.out.1.2.1.lt; omega)).mono ?_
  rintro e w5 ⟨rfl, hr5, hk6⟩
  have hk7 : Kep (fun k => k = ib) w4 w5 := (hk5.mono (fun _ _ h => h.elim)).trans hk6 (fun _ _ h => h)
  have HW5 : Hid ((RowB w5 nb 62 [.slice (some ⟨ib, 0, none⟩) ns 63, .slice (some ⟨cb, 0, none⟩) nk 64] ∧ RowB w5 ib 46 (S1 ++ .pointer q0 :: S2 ++ restS) ∧ RowB w5 cb 55 (K1 ++ .pointer (some ⟨lb, 0, none⟩) :: K2 ++ k0 :: restK)) ∧ (RowB w5 lb 62 [.slice (some ⟨lib, 0, none⟩) 32 64, .slice none 0 0] ∧ RowB w5 lib 46 (P ++ nils 32)) ∧ RowB w5 (rib + 1) 62 [.slice (some ⟨rib, 0, none⟩) 32 64, .slice none 0 0] ∧ RowB w5 rib 46 (Q ++ tl) ∧ Kep (fun k => k = nb ∨ k = ib ∨ k = cb ∨ k = lb ∨ k = lib) w w5) :=
    ⟨⟨HW4.out.1.1.kep hk7 HN.out.2.2.1, hr5, HW4.out.1.2.2.kep hk7 (Ne.symm HN.out.2.2.2.2.2.1)⟩, ⟨HW4.out.2.1.1.kep hk7 (Ne.symm HN.out.2.2.2.2.2.2.1), HW4.out.2.1.2.kep hk7 (Ne.symm HN.out.2.1)⟩, HW4.out.2.2.1.kep hk7 (by have := HR.out; have := HL.out; omega), HW4.out.2.2.2.1.kep hk7 (by have := HR.out; have := HL.out; omega), HW4.out.2.2.2.2.trans hk7 (fun j hj e => by simp [e])⟩
  have h1 := HW5.out.1.1.cell 0
  have f2 := HW5.out.1.1.frozen 0
  have h2 := HW5.out.1.1.cell 1
  simp only [List.getElem?_cons_zero, List.getElem?_cons_succ] at h1 h2
  clear HW4 hk5 hv5 hr5 hk6 hk7 g1 g2 g3 fz1
  go_upto_region 15 with fail
  have hk8 : Kep (fun k => k = nb) w5 (w5.setCell ⟨nb, 0, none⟩ (.slice (some ⟨ib, 0, none⟩) (ns + 1) 63)) := (Kep.refl _ _).setCell _ _ (fun _ => rfl)
  have hn8 : RowB (w5.setCell ⟨nb, 0, none⟩ (.slice (some ⟨ib, 0, none⟩) (ns + 1) 63)) nb 62 [.slice (some ⟨ib, 0, none⟩) (ns + 1) 63, .slice (some ⟨cb, 0, none⟩) nk 64] := HW5.out.1.1.set (P := []) rfl rfl
  have HW6 : Hid ((RowB (w5.setCell ⟨nb, 0, none⟩ (.slice (some ⟨ib, 0, none⟩) (ns + 1) 63)) nb 62 [.slice (some ⟨ib, 0, none⟩) (ns + 1) 63, .slice (some ⟨cb, 0, none⟩) nk 64] ∧ RowB (w5.setCell ⟨nb, 0, none⟩ (.slice (some ⟨ib, 0, none⟩) (ns + 1) 63)) ib 46 (S1 ++ .pointer q0 :: S2 ++ restS) ∧ RowB (w5.setCell ⟨nb, 0, none⟩ (.slice (some ⟨ib, 0, none⟩) (ns + 1) 63)) cb 55 (K1 ++ .pointer (some ⟨lb, 0, none⟩) :: K2 ++ k0 :: restK)) ∧ (RowB (w5.setCell ⟨nb, 0, none⟩ (.slice (some ⟨ib, 0, none⟩) (ns + 1) 63)) lb 62 [.slice (some ⟨lib, 0, none⟩) 32 64, .slice none 0 0] ∧ RowB (w5.setCell ⟨nb, 0, none⟩ (.slice (some ⟨ib, 0, none⟩) (ns + 1) 63)) lib 46 (P ++ nils 32)) ∧ RowB (w5.setCell ⟨nb, 0, none⟩ (.slice (some ⟨ib, 0, none⟩) (ns + 1) 63)) (rib + 1) 62 [.slice (some ⟨rib, 0, none⟩) 32 64, .slice none 0 0] ∧ RowB (w5.setCell ⟨nb, 0, none⟩ (.slice (some ⟨ib, 0, none⟩) (ns + 1) 63)) rib 46 (Q ++ tl) ∧ Kep (fun k => k = nb ∨ k = ib ∨ k = cb ∨ k = lb ∨ k = lib) w (w5.setCell ⟨nb, 0, none⟩ (.slice (some ⟨ib, 0, none⟩) (ns + 1) 63))) :=
    ⟨⟨hn8, HW5.out.1.2.1.kep hk8 (Ne.symm HN.out.2.2.1), HW5.out.1.2.2.kep hk8 (Ne.symm HN.out.2.2.2.1)⟩, ⟨HW5.out.2.1.1.kep hk8 (Ne.symm HN.out.1), HW5.out.2.1.2.kep hk8 (Ne.symm HN.out.2.2.2.2.1)⟩, HW5.out.2.2.1.kep hk8 (by have := HR.out; have := HL.out; omega), HW5.out.2.2.2.1.kep hk8 (by have := HR.out; have := HL.out; omega), HW5.out.2.2.2.2.trans hk8 (fun j hj e => by simp [e])⟩
  have m1 := HW6.out.1.1.cell 1
  have f3 := HW6.out.1.1.frozen 1
  simp only [List.getElem?_cons_zero, List.getElem?_cons_succ] at m1
  clear HW5 hk8 hn8 h1 h2 f2
  generalize w5.setCell ⟨nb, 0, none⟩ (.slice (some ⟨ib, 0, none⟩) (ns + 1) 63) = w6 at *
  go_wp2_with fail
  have hk9 : Kep (fun _ => False) w6 (w6.alloc (.cells #[.pointer (some ⟨rib + 1, 0, none⟩)] 55)) := (Kep.refl _ _).alloc _
  have hv9 : RowB (w6.alloc (.cells #[.pointer (some ⟨rib + 1, 0, none⟩)] 55)) w6.heap.size 55 [.pointer (some ⟨rib + 1, 0, none⟩)] := row_new w6 55 [.pointer (some ⟨rib + 1, 0, none⟩)]
  have hcb9 : RowB (w6.alloc (.cells #[.pointer (some ⟨rib + 1, 0, none⟩)] 55)) cb 55 ((K1 ++ [.pointer (some ⟨lb, 0, none⟩)]) ++ K2 ++ k0 :: restK) := by
    have := HW6.out.1.2.2.kep hk9 (fun h => h)
    simpa using this
  refine (insert43 (i := i + 1) (n := nk) (c := 64) (A := K1 ++ [.pointer (some ⟨lb, 0, none⟩)]) (B := K2) (r := k0) (rest := restK) hcb9 (by have := HE.out.2.2.1; simp; omega) (by have := HE.out.2.1.1; simp; omega) HE.out.2.1.2 (by omega) hK1 hv9 rfl (by have := HW6.out.1.2.2.lt; omega)).mono ?_
  rintro e w7 ⟨rfl, hr7, hk10⟩
  have hk11 : Kep (fun k => k = cb) w6 w7 := (hk9.mono (fun _ _ h => h.elim)).trans hk10 (fun _ _ h => h)
  have hr7' : RowB w7 cb 55 (K1 ++ .pointer (some ⟨lb, 0, none⟩) :: .pointer (some ⟨rib + 1, 0, none⟩) :: K2 ++ restK) := by simpa using hr7
  have HW7 : Hid ((RowB w7 nb 62 [.slice (some ⟨ib, 0, none⟩) (ns + 1) 63, .slice (some ⟨cb, 0, none⟩) nk 64] ∧ RowB w7 ib 46 (S1 ++ .pointer q0 :: S2 ++ restS) ∧ RowB w7 cb 55 (K1 ++ .pointer (some ⟨lb, 0, none⟩) :: .pointer (some ⟨rib + 1, 0, none⟩) :: K2 ++ restK)) ∧ (RowB w7 lb 62 [.slice (some ⟨lib, 0, none⟩) 32 64, .slice none 0 0] ∧ RowB w7 lib 46 (P ++ nils 32)) ∧ RowB w7 (rib + 1) 62 [.slice (some ⟨rib, 0, none⟩) 32 64, .slice none 0 0] ∧ RowB w7 rib 46 (Q ++ tl) ∧ Kep (fun k => k = nb ∨ k = ib ∨ k = cb ∨ k = lb ∨ k = lib) w w7) :=
    ⟨⟨HW6.out.1.1.kep hk11 HN.out.2.2.2.1, HW6.out.1.2.1.kep hk11 HN.out.2.2.2.2.2.1, hr7'⟩, ⟨HW6.out.2.1.1.kep hk11 (Ne.symm HN.out.2.2.2.2.2.2.2.1), HW6.out.2.1.2.kep hk11 (Ne.symm HN.out.2.2.2.2.2.2.2.2.1)⟩, HW6.out.2.2.1.kep hk11 (by have := HR.out; have := HL.out; omega), HW6.out.2.2.2.1.kep hk11 (by have := HR.out; have := HL.out; omega), HW6.out.2.2.2.2.trans hk11 (fun j hj e => by simp [e])⟩
  have o1 := HW7.out.1.1.cell 1
  have f4 := HW7.out.1.1.frozen 1
  simp only [List.getElem?_cons_zero, List.getElem?_cons_succ] at o1
  clear HW6 hk9 hv9 hcb9 hr7 hr7' hk10 hk11 m1 f3
  go_wp2_with fail
  go_end0
  have hk12 : Kep (fun k => k = nb) w7 (w7.setCell ⟨nb, 1, none⟩ (.slice (some ⟨cb, 0, none⟩) (nk + 1) 64)) := (Kep.refl _ _).setCell _ _ (fun _ => rfl)
  have hn12 : RowB (w7.setCell ⟨nb, 1, none⟩ (.slice (some ⟨cb, 0, none⟩) (nk + 1) 64)) nb 62 [.slice (some ⟨ib, 0, none⟩) (ns + 1) 63, .slice (some ⟨cb, 0, none⟩) (nk + 1) 64] := HW7.out.1.1.set (P := [.slice (some ⟨ib, 0, none⟩) (ns + 1) 63]) rfl rfl
  refine ⟨rfl, ⟨_, Q', HQ.out, HW7.out.1.2.1.kep hk12 (Ne.symm HN.out.2.2.1)⟩, hn12, HW7.out.2.1.1.kep hk12 (Ne.symm HN.out.1), HW7.out.2.1.2.kep hk12 (Ne.symm HN.out.2.2.2.2.1), ⟨rib + 1, rib, by have := HR.out; omega, by have := HR.out; omega, by omega, HW7.out.1.2.2.kep hk12 (Ne.symm HN.out.2.2.2.1), HW7.out.2.2.1.kep hk12 (by have := HR.out; have := HL.out; omega), tl, HW7.out.2.2.2.1.kep hk12 (by have := HR.out; have := HL.out; omega), htl2⟩, HW7.out.2.2.2.2.trans hk12 (fun j hj e => by simp [e])⟩
end Go.Proofs.Qxb6615764a
