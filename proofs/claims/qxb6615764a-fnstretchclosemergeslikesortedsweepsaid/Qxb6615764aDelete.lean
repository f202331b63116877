/-
  The walk of Delete (28), at an item of the tree.
-/
import Derived.Test.Qxb6615764aDelP
namespace Go.Proofs.Qxb6615764a
open Go.RowKit Go.Lib
set_option linter.unusedVariables false
set_option linter.unusedSectionVars false
set_option linter.unusedSimpArgs false
variable [Bd]

set_option maxHeartbeats 4000000 in
set_option maxRecDepth 100000 in
theorem delete_any {w : World} {tb H : Nat} {T : Tr H} {x : It} {l : Int} (hT : TreeR w tb H T l) (hx : KR w x) (hin : x ∈ elems H T) :
    Calls Try.prog 28 #[.pointer (some ⟨tb, 0, none⟩), .pointer (some ⟨x.p, 0, none⟩)] w fun e w' => (∃ v, e = .returned v) ∧ ∃ H' T' l', TreeR w' tb H' T' l' ∧ (∀ y, y ∈ elems H' T' ↔ y ∈ elems H T ∧ y.k ≠ x.k) ∧ (∀ b ∈ foot H' T', b ∈ foot H T ∨ w.heap.size ≤ b) ∧ Kep (fun b => b ∈ foot H T ∨ b = tb) w w' := by
  have t1 := hT.row.cell 1
  simp only [List.getElem?_cons_zero, List.getElem?_cons_succ] at t1
  unfold nodeV at t1
  have HT : Hid (TreeR w tb H T l ∧ KR w x ∧ x ∈ elems H T) := ⟨hT, hx, hin⟩
  clear hT hx hin
  go_enter Try.func28, Try.ntmps28
  go_wp2
  go_loopg [6] H (fun k n wr => DelInv tb H T x l w k n wr)
  case atStart => exact ⟨T, none, none, 0, nbOf H T, rfl, HT.out.1.rep, HT.out.1.inv, HT.out.1.ok, .inl rfl, ⟨trivial, trivial⟩, HT.out.1.nd, HT.out.2.2, HT.out.1.row, HT.out.2.1, .inl ⟨rfl, rfl, rfl, rfl, fun _ => Iff.rfl, fun _ h => .inl h, Kep.refl _ _⟩⟩
  case round =>
    obtain ⟨t, lo, hi, m, rb, rfl, hr, hv, hok, hm, hb, hnd, hin, hrow, hkx, hcs⟩ := hrel
    clear t1
    have t0 := hrow.cell 0
    have t1 := hrow.cell 1
    have t2 := hrow.cell 2
    simp only [List.getElem?_cons_zero, List.getElem?_cons_succ] at t0 t1 t2
    cases gk with
    | zero =>
      obtain ⟨nb, ib, items, rfl⟩ := Tr.leaf t
      obtain ⟨rest, hN, hI, hlen, hkr⟩ := mkL_parts hr
      have hsort : items.Pairwise (fun a b => a.k < b.k) := hv.2.1
      have hin' : x ∈ items := hin
      obtain ⟨A, B, hAB⟩ := List.append_of_mem hin'
      have hlow : Lower items x.k A.length := by rw [hAB]; exact lower_at (by rw [← hAB]; exact hsort)
      have hfd : foundAt items x.k A.length = true := by rw [hAB]; exact found_at
      have hAlen : items.length = A.length + 1 + B.length := by rw [hAB]; simp; omega
      obtain ⟨c0, hc0⟩ : ∃ c0, c0 = A.length := ⟨_, rfl⟩
      rw [← hc0] at hlow hfd
      have n0 := hN.cell 0
      have n1 := hN.cell 1
      simp only [List.getElem?_cons_zero, List.getElem?_cons_succ] at n0 n1
      have hci : wr.cell? ⟨ib, c0, none⟩ = some (.pointer (some ⟨x.p, 0, none⟩)) := by
        rw [hI.cell, hAB, hc0]; simp [It.ptr]
      have HX : Hid ((RowB wr ib 46 (items.map It.ptr ++ rest) ∧ (∀ s ∈ items, KR wr s) ∧ KAt wr ⟨x.p, 0, none⟩ x.k ∧ items.Pairwise (fun a b => a.k < b.k) ∧ items.length ≤ 1000 ∧ Lower items x.k c0) ∧ RowB wr nb 62 [.slice (some ⟨ib, 0, none⟩) items.length 64, .slice none 0 0] ∧ RowB wr tb 57 [.func (.func 23) #[] #[], .pointer (some ⟨rb, 0, none⟩), .int .i64 l] ∧ KR wr x) := ⟨⟨hI, hkr, hkx.kat, hsort, by omega, hlow⟩, hN, hrow, hkx⟩
      have HA : Hid (items = A ++ x :: B ∧ A.length = c0 ∧ items.length + rest.length = 64 ∧ items.length = A.length + 1 + B.length) := ⟨hAB, hc0.symm, hlen, hAlen⟩
      have hcont : ∀ w' t', Post 0 (mkL nb ib items) (fun y => y ∈ elems 0 (mkL nb ib items) ∧ y.k ≠ x.k) m lo hi wr w' t' → DelGoal tb H T x.k w rb w' := by
        rcases hcs with ⟨e1, e2, e3, e4, g1, g2, g3⟩ | ⟨_, _, _, g⟩
        · subst e2 e3 e4
          rw [← e1]; exact DelInv.root g1 g2 g3
        · exact g
      have HC : Hid (Inv 0 (mkL nb ib items) lo hi ∧ Ok 0 (mkL nb ib items) 0 ∧ (m = 0 ∨ m + 1 ≤ items.length) ∧ ∀ w' t', Post 0 (mkL nb ib items) (fun y => y ∈ elems 0 (mkL nb ib items) ∧ y.k ≠ x.k) m lo hi wr w' t' → DelGoal tb H T x.k w rb w') := ⟨hv, hok, hm, hcont⟩
      have HD : Hid (nb ≠ ib ∧ tb ≠ nb ∧ tb ≠ ib) := ⟨row_ne hN hI (by decide), row_ne hrow hN (by decide), row_ne hrow hI (by decide)⟩
      have hcl : (c0 : Int) < (items.length : Int) := by omega
      have hil : (items.length : Int) ≤ 64 := by omega
      clear hr hv hok hm hb hnd hin hrow hkx hcs hcont hN hI hlen hkr hsort hlow hAB hin' hAlen hc0
      simp only [mkL_nb]
      go_wp2
      go_quiet (first | (go_at_call 35; exact Calls.quiet_of (search_at (HX.out.1.1.drewN _) (fun s hs => (HX.out.1.2.1 s hs).drewN _) (HX.out.1.2.2.1.drewN _) HX.out.1.2.2.2.1 HX.out.1.2.2.2.2.1 HX.out.1.2.2.2.2.2)))
      rw [hfd]
      go_wp2_with fail
      have hI1 : ∀ n, RowB (wr.drewN n) ib 46 (A.map It.ptr ++ x.ptr :: B.map It.ptr ++ rest) := fun n => by
        have := HX.out.1.1.drewN n
        rw [HA.out.1] at this; simpa using this
      refine (delete37 (A := A.map It.ptr) (B := B.map It.ptr) (x := x.ptr) (rest := rest) (hI1 _) (by have := HA.out.2.1; simp; omega) (by have := HA.out.2.2.2; simp; omega) (by have := HA.out.2.2; omega) (by omega) (ptrs_one _)).mono ?_
      rintro e w2 ⟨rfl, hr2, k2⟩
      have kd : ∀ n, Kep (fun _ => False) wr (wr.drewN n) := fun n => (Kep.refl _ _).drewN n
      have k3 : Kep (fun b => b = nb ∨ b = ib) wr w2 := ((kd _).mono (fun _ _ h => h.elim)).trans k2 (fun _ _ h => .inr h)
      have hN2 : RowB w2 nb 62 [.slice (some ⟨ib, 0, none⟩) items.length 64, .slice none 0 0] := (HX.out.2.1.kep (kd _) id).kep k2 HD.out.1
      have hrow2 : RowB w2 tb 57 [.func (.func 23) #[] #[], .pointer (some ⟨rb, 0, none⟩), .int .i64 l] := HX.out.2.2.1.kep k3 (by have := HD.out; intro h; rcases h with h | h; exact this.2.1 h; exact this.2.2 h)
      have tt0 : TT wr (fun b => b = nb ∨ b = ib) := (TT.one HX.out.2.1 (by decide) (by decide)).or (TT.one HX.out.1.1 (by decide) (by decide))
      have hkr2 : ∀ s ∈ items, KR w2 s := fun s hs => (HX.out.1.2.1 s hs).kep k3 tt0
      have H3 : Hid (RowB w2 nb 62 [.slice (some ⟨ib, 0, none⟩) items.length 64, .slice none 0 0] ∧ RowB w2 ib 46 (A.map It.ptr ++ B.map It.ptr ++ .pointer none :: rest) ∧ RowB w2 tb 57 [.func (.func 23) #[] #[], .pointer (some ⟨rb, 0, none⟩), .int .i64 l] ∧ (∀ s ∈ items, KR w2 s) ∧ Kep (fun b => b = nb ∨ b = ib) wr w2) := ⟨hN2, hr2, hrow2, hkr2, k3⟩
      have n0 := hN2.cell 0
      have f0 := hN2.frozen 0
      simp only [List.getElem?_cons_zero] at n0
      clear kd hI1 hr2 k2 k3 hN2 hrow2 tt0 hkr2 HX n1 t0 t1 t2 hci
      go_upto_region 13 with fail
      have k4 : Kep (fun b => b = nb) w2 (w2.setCell ⟨nb, 0, none⟩ (.slice (some ⟨ib, 0, none⟩) (items.length - 1) 64)) := kep_set _ _ _ _
      have hr3 : Rep 0 (w2.setCell ⟨nb, 0, none⟩ (.slice (some ⟨ib, 0, none⟩) (items.length - 1) 64)) (mkL nb ib (A ++ B)) := by
        have tt1 : TT w2 (fun b => b = nb) := TT.one H3.out.1 (by decide) (by decide)
        refine mkL_rep (rest := .pointer none :: rest) ?_ ?_ ?_ ?_
        · have := H3.out.1.set (P := []) (v := .slice (some ⟨ib, 0, none⟩) (items.length - 1) 64) rfl rfl
          have e : (A ++ B).length = items.length - 1 := by rw [HA.out.2.2.2]; simp <;> omega
          rw [e]; exact this
        · have := H3.out.2.1.kep k4 (Ne.symm HD.out.1)
          simpa [It.ptr] using this
        · have := HA.out.2.2; simp; omega
        · intro y hy
          refine (H3.out.2.2.2.1 y ?_).kep k4 tt1
          rw [HA.out.1]
          simp only [List.mem_append, List.mem_cons] at hy ⊢
          grind
      have k5 : Kep (fun b => b = nb ∨ b = ib) wr (w2.setCell ⟨nb, 0, none⟩ (.slice (some ⟨ib, 0, none⟩) (items.length - 1) 64)) := H3.out.2.2.2.2.trans k4 (fun _ _ h => .inl h)
      have P : DelGoal tb H T x.k w rb (w2.setCell ⟨nb, 0, none⟩ (.slice (some ⟨ib, 0, none⟩) (items.length - 1) 64)) := by
        refine HC.out.2.2.2 _ (mkL nb ib (A ++ B)) ?_
        have := leaf_del (m := m) (lo := lo) (hi := hi) (w := wr) (A := A) (B := B) (x := x) (by rw [← HA.out.1]; exact HC.out.1) (by rw [← HA.out.1]; exact HC.out.2.1) (by rw [← HA.out.1]; exact HC.out.2.2.1) HD.out.1 hr3 k5
        rw [← HA.out.1] at this; exact this
      have hrow3 : RowB (w2.setCell ⟨nb, 0, none⟩ (.slice (some ⟨ib, 0, none⟩) (items.length - 1) 64)) tb 57 [.func (.func 23) #[] #[], .pointer (some ⟨rb, 0, none⟩), .int .i64 l] := H3.out.2.2.1.kep k4 HD.out.2.1
      have H4 : Hid (DelGoal tb H T x.k w rb (w2.setCell ⟨nb, 0, none⟩ (.slice (some ⟨ib, 0, none⟩) (items.length - 1) 64)) ∧ RowB (w2.setCell ⟨nb, 0, none⟩ (.slice (some ⟨ib, 0, none⟩) (items.length - 1) 64)) tb 57 [.func (.func 23) #[] #[], .pointer (some ⟨rb, 0, none⟩), .int .i64 l]) := ⟨P, hrow3⟩
      have t2 := hrow3.cell 2
      have f2 := hrow3.frozen 2
      simp only [List.getElem?_cons_zero, List.getElem?_cons_succ] at t2
      clear k4 hr3 k5 P hrow3 H3 n0 f0
      generalize w2.setCell ⟨nb, 0, none⟩ (.slice (some ⟨ib, 0, none⟩) (items.length - 1) 64) = w3 at *
      go_wp2
      go_ret2
      obtain ⟨⟨H', T', g1, g2, g3, g4, g5, g6, g7, g8⟩, hrow3⟩ := H4.out
      refine ⟨⟨_, rfl⟩, H', T', wrap64 (l - 1), ⟨?_, g2.kep (kep_set _ _ _ _) (TT.one hrow3 (by decide) (by decide)) (fun b hb e => hrow3.not_foot g2 (by decide) (by decide) (by decide) (e ▸ hb)), g3, g4, g6⟩, g5, g7, g8.trans (kep_set _ _ _ _) (fun b _ e => .inr e)⟩
      have := hrow3.set (P := [.func (.func 23) #[] #[], .pointer (some ⟨rb, 0, none⟩)]) (o := 2) (v := .int .i64 (wrap64 (l - 1))) (S := []) rfl rfl
      unfold nodeV; rw [g1]; exact this
    | succ h =>
      obtain ⟨nb, ib, cb, seps, kids, rfl⟩ := Tr.inner t
      obtain ⟨restS, restK, hN, hlS, hlK, hkr, hrk⟩ := mkI_parts hr
      have hch : Chain (Inv h) seps kids lo hi := hv
      have hlen := hch.length
      have hsps := (Chain.seps (fun _ _ _ h => Inv.le h) hch).1
      have hok' := mkI_ok.1 hok
      have n1 := hN.c1
      have hnbr : nb = rb ∨ nb ≠ rb := by
        by_cases e : nb = rb
        · exact .inl e
        · exact .inr e
      have HN : Hid (Rep (h + 1) wr (mkI nb ib cb seps kids) ∧ Inv (h + 1) (mkI nb ib cb seps kids) lo hi ∧ Ok (h + 1) (mkI nb ib cb seps kids) 0 ∧ (foot (h + 1) (mkI nb ib cb seps kids)).Nodup ∧ x ∈ elems (h + 1) (mkI nb ib cb seps kids) ∧ (m = 0 ∨ m + 1 ≤ kids.length) ∧ (geL lo x.k ∧ ltH x.k hi)) := ⟨hr, hv, hok, hnd, hin, hm, hb⟩
      have HX : Hid ((NodeR wr nb ib cb seps.length kids.length (seps.map It.ptr ++ restS) (kids.map (nodeV h) ++ restK) ∧ (∀ s ∈ seps, KR wr s) ∧ (∀ c ∈ kids, Rep h wr c) ∧ seps.Pairwise (fun a b => a.k ≤ b.k)) ∧ RowB wr tb 57 [.func (.func 23) #[] #[], .pointer (some ⟨rb, 0, none⟩), .int .i64 l] ∧ KR wr x) := ⟨⟨hN, hkr, hrk, hsps⟩, hrow, hkx⟩
      have HE : Hid (kids.length = seps.length + 1 ∧ kids.length ≤ 64 ∧ 2 ≤ kids.length) := ⟨hlen, hok'.2.2.1, hok'.2.1⟩
      have HC : Hid ((nb = rb ∧ m = 0 ∧ lo = none ∧ hi = none ∧ (∀ y, y ∈ elems (h + 1) (mkI nb ib cb seps kids) ↔ y ∈ elems H T) ∧ (∀ b ∈ foot (h + 1) (mkI nb ib cb seps kids), b ∈ foot H T ∨ w.heap.size ≤ b) ∧ Kep (fun b => b ∈ foot H T ∨ b = tb) w wr) ∨
          (rb ∉ foot (h + 1) (mkI nb ib cb seps kids) ∧ (∃ cur, RowB wr rb 62 cur) ∧ m = 32 ∧ ∀ w' t', Post (h + 1) (mkI nb ib cb seps kids) (fun y => y ∈ elems (h + 1) (mkI nb ib cb seps kids) ∧ y.k ≠ x.k) m lo hi wr w' t' → DelGoal tb H T x.k w rb w')) := hcs
      clear hr hv hok hm hb hnd hin hrow hkx hcs hN hlS hlK hkr hrk hch hlen hok' hsps t2 hnbr
      simp only [mkI_nb]
      go_wp2_with fail
      refine (child_any (tb := tb) (x := x.k) HX.out.2.1 HX.out.1.1.node HX.out.1.1.row HX.out.1.2.1 HX.out.2.2.kat HX.out.1.2.2.2 (by have := HE.out; omega)).mono ?_
      rintro e w1 ⟨⟨i, rfl, hup⟩, n1', hw1⟩
      obtain ⟨S1, S2, K1, c, K2, hS, hK, hi1, hi2, hb1, hb2⟩ := hup.zip HE.out.1
      have k1 : Kep (fun _ => False) wr w1 := by rw [hw1]; exact (Kep.refl _ _).drewN _
      have hr1 : Rep (h + 1) w1 (mkI nb ib cb seps kids) := HN.out.1.kep k1 (TT.false _) (fun _ _ => id)
      obtain ⟨a0, b0, hcl, hcv, hcr⟩ := Chain.at (I := Inv h) (S1 := S1) (S2 := S2) (K1 := K1) (K2 := K2) (c := c) (lo := lo) (hi := hi) (by have := HN.out.2.1; rw [hS, hK] at this; exact this) (by omega)
      have hfill := fill_rep (tv := .pointer (some ⟨tb, 0, none⟩)) (x := x.k) (nb := nb) (ib := ib) (cb := cb) (m := 0) (S1 := S1) (S2 := S2) (K1 := K1) (K2 := K2) (c := c) (w := w1) (i := i) (by rw [← hS, ← hK]; exact hr1) (by rw [← hS, ← hK]; exact HN.out.2.2.2.1) hcl hcv hcr HN.out.2.2.2.2.2.2.1 HN.out.2.2.2.2.2.2.2 hb1 hb2 (by rw [← hS, ← hK]; exact HN.out.2.2.1) (by omega) hi2.symm
      rw [← hS, ← hK] at hfill
      have HF : Hid (Calls Try.prog 36 #[.pointer (some ⟨tb, 0, none⟩), .pointer (some ⟨nb, 0, none⟩), .int .i64 (i : Int)] w1 fun e w' => ∃ i' : Nat, e = .returned (.int .i64 (i' : Int)) ∧ Fil h nb ib cb seps kids x.k lo hi w1 w' i') := hfill
      have HK1 : Hid (Kep (fun _ => False) wr w1 ∧ Rep (h + 1) w1 (mkI nb ib cb seps kids)) := ⟨k1, hr1⟩
      clear hw1 hup hS hK hi1 hi2 hb1 hb2 k1 hr1 hcl hcv hcr hfill
      go_wp2_with fail
      refine HF.out.mono ?_
      rintro e w2 ⟨i', rfl, S1', S2', K1', c', K2', a, b, ⟨hi1, hi2⟩, r2, hch, hx, okc, oks, ⟨len1, len2⟩, mem, nd, sub, kep⟩
      have hkep : Kep (fun b => b ∈ foot (h + 1) (mkI nb ib cb seps kids)) wr w2 := (HK1.out.1.mono (fun _ _ h => h.elim)).trans kep (fun _ _ h => h)
      have htb : tb ∉ foot (h + 1) (mkI nb ib cb seps kids) := HX.out.2.1.not_foot HN.out.1 (by decide) (by decide) (by decide)
      have hrow2 := HX.out.2.1.kep hkep htb
      have hkx2 : KR w2 x := HX.out.2.2.kep hkep HN.out.1.tt
      have hsub : ∀ b ∈ foot (h + 1) (mkI nb ib cb (S1' ++ S2') (K1' ++ [c'] ++ K2')), b ∈ foot (h + 1) (mkI nb ib cb seps kids) ∨ wr.heap.size ≤ b := fun b hb => (sub b hb).imp id (fun h => Nat.le_trans HK1.out.1.size h)
      obtain ⟨restS2, restK2, hN2, hlS2, hlK2, hkr2, hrk2⟩ := mkI_parts r2
      obtain ⟨nk2, hnk2⟩ : ∃ nk2, nk2 = (K1' ++ [c'] ++ K2').length := ⟨_, rfl⟩
      have hnk2' : nk2 = K1'.length + 1 + K2'.length := by rw [hnk2]; simp; omega
      rw [← hnk2] at hN2
      have n1 := hN2.c1
      have hci : w2.cell? ⟨cb, i', none⟩ = some (.pointer (some ⟨nbOf h c', 0, none⟩)) := by
        rw [hN2.kid.cell, List.getElem?_append_left (by simp; omega)]
        simp [List.getElem?_append_right, hi2, nodeV]
      have hik : (i' : Int) < (nk2 : Int) := by omega
      have hxc : x ∈ elems h c' := in_child hch.1 hch.2.2 (by omega) hx ((mem x).2 HN.out.2.2.2.2.1)
      have hrc : Rep h w2 c' := hrk2 c' (by simp)
      have hcnd : (foot h c').Nodup := by
        have hnd2 : (nb :: ib :: cb :: (K1' ++ [c'] ++ K2').flatMap (foot h)).Nodup := nd
        have := (foot_mid hnd2).2.2.2.2.2.2
        simpa using this
      have hnbc : nb ∉ foot h c' := by
        have hnd2 : (nb :: ib :: cb :: (K1' ++ [c'] ++ K2').flatMap (foot h)).Nodup := nd
        have := (foot_mid hnd2).2.2.2.1
        simpa using this
      have okc0 : Ok h c' 0 := ok_mono okc 0 (Nat.zero_le _)
      have hcsub : ∀ b ∈ foot h c', b ∈ foot (h + 1) (mkI nb ib cb seps kids) ∨ wr.heap.size ≤ b := fun b hb => hsub b (by rw [mkI_foot, List.flatMap_append, List.flatMap_append]; simp [hb])
      have HG : Hid (Rep (h + 1) w2 (mkI nb ib cb (S1' ++ S2') (K1' ++ [c'] ++ K2')) ∧ (ChainL (Inv h) S1' K1' lo a ∧ Inv h c' a b ∧ ChainR (Inv h) S2' K2' b hi) ∧ (geL a x.k ∧ ltH x.k b) ∧ Ok h c' 33 ∧ (∀ d, d ∈ K1' ∨ d ∈ K2' → Ok h d 32) ∧ ((K1' ++ [c'] ++ K2').length ≤ 64 ∧ kids.length ≤ (K1' ++ [c'] ++ K2').length + 1) ∧ (∀ y, y ∈ (K1' ++ [c'] ++ K2').flatMap (elems h) ↔ y ∈ kids.flatMap (elems h)) ∧ (foot (h + 1) (mkI nb ib cb (S1' ++ S2') (K1' ++ [c'] ++ K2'))).Nodup ∧ (∀ b ∈ foot (h + 1) (mkI nb ib cb (S1' ++ S2') (K1' ++ [c'] ++ K2')), b ∈ foot (h + 1) (mkI nb ib cb seps kids) ∨ wr.heap.size ≤ b) ∧ Kep (fun b => b ∈ foot (h + 1) (mkI nb ib cb seps kids)) wr w2) := ⟨r2, hch, hx, okc, oks, ⟨len1, len2⟩, mem, nd, hsub, hkep⟩
      have HJ : Hid (RowB w2 tb 57 [.func (.func 23) #[] #[], .pointer (some ⟨rb, 0, none⟩), .int .i64 l] ∧ KR w2 x ∧ x ∈ elems h c' ∧ Rep h w2 c' ∧ (foot h c').Nodup ∧ nb ∉ foot h c' ∧ Ok h c' 0 ∧ (∀ b ∈ foot h c', b ∈ foot (h + 1) (mkI nb ib cb seps kids) ∨ wr.heap.size ≤ b) ∧ (nk2 = K1'.length + 1 + K2'.length ∧ nk2 = (K1' ++ [c'] ++ K2').length) ∧ S1'.length = i' ∧ K1'.length = i') := ⟨hrow2, hkx2, hxc, hrc, hcnd, hnbc, okc0, hcsub, ⟨hnk2', hnk2⟩, hi1, hi2⟩
      have t1 := hrow2.cell 1
      have f1 := hrow2.frozen 1
      simp only [List.getElem?_cons_zero, List.getElem?_cons_succ] at t1
      clear hi1 hi2 r2 hch hx okc oks len1 len2 mem nd sub kep hkep htb hrow2 hkx2 hsub hN2 hlS2 hlK2 hkr2 hrk2 hnk2 hnk2' hxc hrc hcnd hnbc okc0 hcsub HX HF HK1 t0
      have sub : 2 ≤ nk2 → (m = 0 ∨ m = 32 ∧ 33 ≤ kids.length) → (∀ w' t', Post (h + 1) (mkI nb ib cb seps kids) (fun y => y ∈ elems (h + 1) (mkI nb ib cb seps kids) ∧ y.k ≠ x.k) m lo hi wr w' t' → DelGoal tb H T x.k w rb w') → rb ∉ foot h c' → (∃ cur, RowB w2 rb 62 cur) → DelInv tb H T x l w h (.pointer (some ⟨nbOf h c', 0, none⟩)) w2 := fun h2 hm hcont hrb hrb2 => by
        obtain ⟨r2, hch, hx, okc, oks, ⟨len1, len2⟩, mem, nd, hsub, hkep⟩ := HG.out
        obtain ⟨hrow2, hkx2, hxc, hrc, hcnd, hnbc, okc0, hcsub, ⟨hnk2', hnk2⟩, hi1, hi2⟩ := HJ.out
        have P := fil_post (m := m) r2 hch okc oks len1 (by rw [← hnk2]; rcases hm with rfl | ⟨rfl, hm⟩ <;> omega) (by omega) mem nd hsub hkep
        refine ⟨c', a, b, 32, rb, rfl, hrc, hch.2.1, okc0, .inr (by have := (ok_size okc).1; omega), hx, hcnd, hxc, hrow2, hkx2, .inr ⟨hrb, hrb2, rfl, ?_⟩⟩
        exact del_child P hch.1 hch.2.2 (by omega) hx hcont
      rcases HC.out with ⟨e1, e2, e3, e4, g1, g2, g3⟩ | ⟨g1, g2, g3, g4⟩
      · have HR : Hid ((m = 0 ∧ lo = none ∧ hi = none) ∧ (∀ y, y ∈ elems (h + 1) (mkI nb ib cb seps kids) ↔ y ∈ elems H T) ∧ (∀ b ∈ foot (h + 1) (mkI nb ib cb seps kids), b ∈ foot H T ∨ w.heap.size ≤ b) ∧ Kep (fun b => b ∈ foot H T ∨ b = tb) w wr) := ⟨⟨e2, e3, e4⟩, g1, g2, g3⟩
        have HSUB := sub
        replace HSUB : Hid (2 ≤ nk2 → (m = 0 ∨ m = 32 ∧ 33 ≤ kids.length) → (∀ w' t', Post (h + 1) (mkI nb ib cb seps kids) (fun y => y ∈ elems (h + 1) (mkI nb ib cb seps kids) ∧ y.k ≠ x.k) m lo hi wr w' t' → DelGoal tb H T x.k w rb w') → rb ∉ foot h c' → (∃ cur, RowB w2 rb 62 cur) → DelInv tb H T x l w h (.pointer (some ⟨nbOf h c', 0, none⟩)) w2) := HSUB
        clear sub e2 e3 e4 g1 g2 g3 HC
        subst e1
        by_cases hone : nk2 = 1
        · have hone' : (nk2 : Int) = 1 := by omega
          have hc0 : w2.cell? ⟨cb, 0, none⟩ = some (.pointer (some ⟨nbOf h c', 0, none⟩)) := by
            have : i' = 0 := by have := HJ.out.2.2.2.2.2.2.2.2; omega
            rw [this] at hci; exact hci
          have hi0 : i' = 0 := by have := HJ.out.2.2.2.2.2.2.2.2; omega
          have HO : Hid (nk2 = 1) := hone
          subst hone hi0
          have hcbt : cb ≠ tb := by
            intro e
            have := HJ.out.1.not_foot HG.out.1 (by decide) (by decide) (by decide)
            exact this (by rw [mkI_foot, e]; simp)
          have hnbt : nb ≠ tb := by
            intro e
            have := HJ.out.1.not_foot HG.out.1 (by decide) (by decide) (by decide)
            exact this (by rw [mkI_foot, e]; simp)
          go_wp2
          go_roundg h
          case measure => exact Nat.lt_succ_self _
          case rel =>
            obtain ⟨r2, hch, hx, okc, oks, ⟨len1, len2⟩, mem, nd, hsub, hkep⟩ := HG.out
            obtain ⟨hrow2, hkx2, hxc, hrc, hcnd, hnbc, okc0, hcsub, ⟨hnk2', hnk2⟩, hi1, hi2⟩ := HJ.out
            obtain ⟨⟨e2, e3, e4⟩, g1, g2, g3⟩ := HR.out
            subst e2 e3 e4
            have hK1 : K1' = [] := List.eq_nil_of_length_eq_zero hi2
            have hS1 : S1' = [] := List.eq_nil_of_length_eq_zero hi1
            have hK2 : K2' = [] := List.eq_nil_of_length_eq_zero (by omega)
            subst hK1 hS1 hK2
            have hS2 : S2' = [] := by
              cases S2' with
              | nil => rfl
              | cons s ss => have := (hch.2.2).2.length; simp at this
            subst hS2
            obtain ⟨hc1, hc2, hc3⟩ := hch
            obtain ⟨_, ea⟩ := hc1
            obtain ⟨_, eb⟩ := hc3
            subst ea eb
            have htc : tb ∉ foot h c' := hrow2.not_foot hrc (by decide) (by decide) (by decide)
            refine ⟨c', none, none, 0, nbOf h c', rfl, hrc.kep (kep_set _ _ _ _) (TT.one hrow2 (by decide) (by decide)) (fun b hb e => htc (e ▸ hb)), hc2, okc0, .inl rfl, ⟨trivial, trivial⟩, hcnd, hxc, hrow2.set (P := [.func (.func 23) #[] #[]]) rfl rfl, hkx2.kep (kep_set _ _ _ _) (TT.one hrow2 (by decide) (by decide)), .inl ⟨rfl, rfl, rfl, rfl, fun y => ?_, fun b hb => ?_, ?_⟩⟩
            · rw [← g1 y, mkI_elems, ← mem y]; simp
            · rcases hcsub b hb with h1 | h1
              · exact g2 b h1
              · exact .inr (Nat.le_trans g3.size h1)
            · refine (g3.trans hkep fun b hb hm => ?_).trans (kep_set _ _ _ _) (fun b _ e => .inr e)
              rcases g2 b hm with h1 | h1
              · exact .inl h1
              · omega
        · have hone' : ¬ (nk2 : Int) = 1 := by omega
          have hone2 : 2 ≤ nk2 := by have := HJ.out.2.2.2.2.2.2.2.2.1; omega
          go_wp2
          go_roundg h
          case measure => exact Nat.lt_succ_self _
          case rel =>
            refine HSUB.out hone2 (.inl HR.out.1.1) ?_ HJ.out.2.2.2.2.2.1 ?_
            · obtain ⟨⟨e2, e3, e4⟩, g1, g2, g3⟩ := HR.out
              subst e2 e3 e4
              exact DelInv.root (k := h + 1) (t := mkI nb ib cb seps kids) g1 g2 g3
            · obtain ⟨_, _, q, _⟩ := mkI_parts HG.out.1
              exact ⟨_, q.node⟩
      · have hne : nb ≠ rb := fun e => g1 (by rw [mkI_foot, e]; simp)
        have hne' : ¬ nb = rb := hne
        have HSUB : Hid (2 ≤ nk2 → (m = 0 ∨ m = 32 ∧ 33 ≤ kids.length) → (∀ w' t', Post (h + 1) (mkI nb ib cb seps kids) (fun y => y ∈ elems (h + 1) (mkI nb ib cb seps kids) ∧ y.k ≠ x.k) m lo hi wr w' t' → DelGoal tb H T x.k w rb w') → rb ∉ foot h c' → (∃ cur, RowB w2 rb 62 cur) → DelInv tb H T x l w h (.pointer (some ⟨nbOf h c', 0, none⟩)) w2) := sub
        have HR : Hid (rb ∉ foot (h + 1) (mkI nb ib cb seps kids) ∧ (∃ cur, RowB wr rb 62 cur) ∧ m = 32 ∧ ∀ w' t', Post (h + 1) (mkI nb ib cb seps kids) (fun y => y ∈ elems (h + 1) (mkI nb ib cb seps kids) ∧ y.k ≠ x.k) m lo hi wr w' t' → DelGoal tb H T x.k w rb w') := ⟨g1, g2, g3, g4⟩
        have heq : (binOp .eql 55 (.pointer (some ⟨nb, 0, none⟩)) (.pointer (some ⟨rb, 0, none⟩))).run Try.prog w2 = .ok (.bool false) w2 := by
          obtain ⟨cur, hcur⟩ := g2
          obtain ⟨_, _, q, _⟩ := mkI_parts HG.out.1
          exact eql55_other q.node (hcur.kep HG.out.2.2.2.2.2.2.2.2.2 g1) hne
        clear sub g1 g2 g3 g4 HC hne hne'
        go_wp2
        go_roundg h
        case measure => exact Nat.lt_succ_self _
        case rel =>
          obtain ⟨g1, g2, g3, g4⟩ := HR.out
          have hkl : 33 ≤ kids.length := by have := HN.out.2.2.2.2.2.1; omega
          refine HSUB.out ?_ (.inr ⟨g3, hkl⟩) g4 (fun hb => ?_) ?_
          · have := HG.out.2.2.2.2.2.1; have := HJ.out.2.2.2.2.2.2.2.2.1; omega
          · rcases HJ.out.2.2.2.2.2.2.2.1 rb hb with h1 | h1
            · exact g1 h1
            · obtain ⟨cur, hcur⟩ := g2
              have := hcur.lt
              omega
          · obtain ⟨cur, hcur⟩ := g2
            exact ⟨cur, hcur.kep HG.out.2.2.2.2.2.2.2.2.2 g1⟩
end Go.Proofs.Qxb6615764a
