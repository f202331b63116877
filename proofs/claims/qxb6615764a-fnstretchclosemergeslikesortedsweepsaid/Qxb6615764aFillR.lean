/-
  fill on trees.
-/
import Derived.Test.Qxb6615764aFillP
import Derived.Test.Qxb6615764aFillLL
import Derived.Test.Qxb6615764aFillLI
import Derived.Test.Qxb6615764aFillRL
import Derived.Test.Qxb6615764aFillRI
namespace Go.Proofs.Qxb6615764a
open Go.RowKit
set_option linter.unusedVariables false
set_option linter.unusedSectionVars false
set_option linter.unusedSimpArgs false
variable [Bd]

theorem rep_size {h : Nat} {w : World} {t : Tr h} (hr : Rep h w t) : SizeIs w (nbOf h t) (sizeT h t) := by
  cases h with
  | zero => exact size_leaf hr.node
  | succ h => exact size_inner hr.1.node
theorem ok_mono {h : Nat} {t : Tr h} {m : Nat} (h1 : Ok h t m) (n : Nat) (hn : n ≤ sizeT h t) : Ok h t n := by
  cases h with
  | zero => exact ⟨hn, h1.2⟩
  | succ h => exact ⟨hn, h1.2⟩
theorem ok_size {h : Nat} {t : Tr h} {m : Nat} (h1 : Ok h t m) : m ≤ sizeT h t ∧ sizeT h t ≤ 64 := by
  cases h with
  | zero => exact h1
  | succ h => exact ⟨h1.1, h1.2.2.1⟩

theorem NodeR.cast {w : World} {nb ib cb ns nk ns' nk' : Nat} {S K S' K' : List Value} (h : NodeR w nb ib cb ns nk S K) (e1 : ns = ns') (e2 : nk = nk') (e3 : S = S') (e4 : K = K') : NodeR w nb ib cb ns' nk' S' K' := by subst e1 e2 e3 e4; exact h
theorem LeafR.cast {w : World} {nb ib n n' : Nat} {S S' : List Value} (h : LeafR w nb ib n S) (e1 : n = n') (e3 : S = S') : LeafR w nb ib n' S' := by subst e1 e3; exact h
theorem LeafR.rep {w : World} {nb ib n : Nat} {S : List Value} {items : List It} {rest : List Value} (h : LeafR w nb ib n S) (e1 : n = items.length) (e3 : S = items.map It.ptr ++ rest) (e : items.length + rest.length = 64) (hk : ∀ x ∈ items, KR w x) : Rep 0 w (mkL nb ib items) := by subst e1 e3; exact mkL_rep h.node h.row e hk
theorem NodeR.rep {w : World} {h nb ib cb ns nk : Nat} {S K : List Value} {seps : List It} {kids : List (Tr h)} {rest rest' : List Value} (hn : NodeR w nb ib cb ns nk S K) (e1 : ns = seps.length) (e2 : nk = kids.length) (e3 : S = seps.map It.ptr ++ rest) (e4 : K = kids.map (nodeV h) ++ rest') (l1 : seps.length + rest.length = 63) (l2 : kids.length + rest'.length = 64) (hk : ∀ x ∈ seps, KR w x) (hc : ∀ c ∈ kids, Rep h w c) : Rep (h + 1) w (mkI nb ib cb seps kids) := by subst e1 e2 e3 e4; exact mkI_rep hn l1 l2 hk hc

/-- What kids_fil gives. -/
def Fl (h nb ib cb : Nat) (S S' : List It) (K K' : List (Tr h)) (w w' : World) : Prop :=
  Rep (h + 1) w' (mkI nb ib cb S' K') ∧ (foot (h + 1) (mkI nb ib cb S' K')).Nodup ∧ (∀ b ∈ foot (h + 1) (mkI nb ib cb S' K'), b ∈ foot (h + 1) (mkI nb ib cb S K) ∨ w.heap.size ≤ b) ∧ Kep (fun b => b ∈ foot (h + 1) (mkI nb ib cb S K)) w w'

/-- The left neighbour is small, or there is none. -/
def LeftSmall {h : Nat} (K0 : List (Tr h)) : Prop := K0 = [] ∨ ∃ K00 l, K0 = K00 ++ [l] ∧ sizeT h l ≤ 32
theorem LeftSmall.form {h : Nat} {K0 : List (Tr h)} {w : World} (hs : LeftSmall K0) (hr : ∀ d ∈ K0, Rep h w d) : ((K0.length : Nat) : Int) = 0 ∨ ∃ j y zy : Nat, ((K0.length : Nat) : Int) - 1 = (j : Int) ∧ (K0.map (nodeV h))[j]? = some (.pointer (some ⟨y, 0, none⟩)) ∧ SizeIs w y zy ∧ (zy : Int) ≤ 32 := by
  rcases hs with rfl | ⟨K00, l, rfl, hl⟩
  · exact .inl rfl
  · refine .inr ⟨K00.length, nbOf h l, sizeT h l, by simp, by simp [nodeV], rep_size (hr l (by simp)), by omega⟩

theorem pair_ne {h nb ib cb lb lib lcb xb xib xcb : Nat} {S LS CS : List It} {K0 K2 : List (Tr (h + 1))} {LK CK : List (Tr h)} (hnd : (foot (h + 2) (mkI nb ib cb S (K0 ++ [mkI lb lib lcb LS LK, mkI xb xib xcb CS CK] ++ K2))).Nodup) :
    (nb ≠ lb ∧ nb ≠ xb ∧ lb ≠ xb ∧ ib ≠ lib ∧ ib ≠ xib ∧ lib ≠ xib ∧ cb ≠ lcb ∧ cb ≠ xcb ∧ lcb ≠ xcb) ∧ ((lb :: lib :: lcb :: LK.flatMap (foot h)) ++ (xb :: xib :: xcb :: CK.flatMap (foot h))).Nodup ∧ (∀ b, b ∈ LK.flatMap (foot h) ∨ b ∈ CK.flatMap (foot h) → b ≠ nb ∧ b ≠ ib ∧ b ≠ cb ∧ b ≠ lb ∧ b ≠ lib ∧ b ≠ lcb ∧ b ≠ xb ∧ b ≠ xib ∧ b ≠ xcb) := by
  have hnd' : (nb :: ib :: cb :: (K0 ++ [mkI lb lib lcb LS LK, mkI xb xib xcb CS CK] ++ K2).flatMap (foot (h + 1))).Nodup := hnd
  have hmid := foot_mid hnd'
  simp only [List.flatMap_cons, List.flatMap_nil, mkI_foot, List.append_nil] at hmid
  obtain ⟨m1, m2, m3, m4, m5, m6, m7⟩ := hmid
  refine ⟨?_, m7, ?_⟩
  · simp only [List.cons_append, List.mem_cons, List.mem_append, List.nodup_cons, List.nodup_append, not_or, forall_eq_or_imp] at m4 m5 m6 m7
    generalize LK.flatMap (foot h) = A at *
    generalize CK.flatMap (foot h) = B at *
    grind
  · simp only [List.cons_append, List.mem_cons, List.mem_append, List.nodup_cons, List.nodup_append, not_or, forall_eq_or_imp] at m4 m5 m6 m7
    intro b hb
    generalize LK.flatMap (foot h) = A at *
    generalize CK.flatMap (foot h) = B at *
    grind
/-- What fill leads to: the child in focus at place i' holds more than 32. -/
def Fil (h nb ib cb : Nat) (S : List It) (K : List (Tr h)) (x : Key) (lo hi : Option Key) (w w' : World) (i' : Nat) : Prop :=
  ∃ S1 S2 K1 c K2 a b, (S1.length = i' ∧ K1.length = i') ∧ Rep (h + 1) w' (mkI nb ib cb (S1 ++ S2) (K1 ++ [c] ++ K2)) ∧ (ChainL (Inv h) S1 K1 lo a ∧ Inv h c a b ∧ ChainR (Inv h) S2 K2 b hi) ∧ (geL a x ∧ ltH x b) ∧ Ok h c 33 ∧ (∀ d, d ∈ K1 ∨ d ∈ K2 → Ok h d 32) ∧
    ((K1 ++ [c] ++ K2).length ≤ 64 ∧ K.length ≤ (K1 ++ [c] ++ K2).length + 1) ∧ (∀ y, y ∈ (K1 ++ [c] ++ K2).flatMap (elems h) ↔ y ∈ K.flatMap (elems h)) ∧ (foot (h + 1) (mkI nb ib cb (S1 ++ S2) (K1 ++ [c] ++ K2))).Nodup ∧ (∀ b ∈ foot (h + 1) (mkI nb ib cb (S1 ++ S2) (K1 ++ [c] ++ K2)), b ∈ foot (h + 1) (mkI nb ib cb S K) ∨ w.heap.size ≤ b) ∧ Kep (fun b => b ∈ foot (h + 1) (mkI nb ib cb S K)) w w'

theorem fil_second {h nb ib cb : Nat} {S S0 S2 : List It} {K K0 K2 : List (Tr h)} {l c : Tr h} {y : It} {x : Key} {lo hi a b : Option Key} {w w' : World}
    (f : Rep (h + 1) w' (mkI nb ib cb (S0 ++ y :: S2) (K0 ++ [l, c] ++ K2)) ∧ (foot (h + 1) (mkI nb ib cb (S0 ++ y :: S2) (K0 ++ [l, c] ++ K2))).Nodup ∧ (∀ b ∈ foot (h + 1) (mkI nb ib cb (S0 ++ y :: S2) (K0 ++ [l, c] ++ K2)), b ∈ foot (h + 1) (mkI nb ib cb S K) ∨ w.heap.size ≤ b) ∧ Kep (fun b => b ∈ foot (h + 1) (mkI nb ib cb S K)) w w')
    (hl : S0.length = K0.length) (c1 : ChainL (Inv h) S0 K0 lo a) (c2 : Inv h l a (some y.k)) (c3 : Inv h c (some y.k) b) (c4 : ChainR (Inv h) S2 K2 b hi) (hx : y.k ≤ x ∧ ltH x b) (o1 : Ok h l 32) (o2 : Ok h c 33) (o3 : ∀ d, d ∈ K0 ∨ d ∈ K2 → Ok h d 32) (hlen : (K0 ++ [l, c] ++ K2).length ≤ 64 ∧ K.length ≤ (K0 ++ [l, c] ++ K2).length + 1)
    (mem : ∀ y, y ∈ (K0 ++ [l, c] ++ K2).flatMap (elems h) ↔ y ∈ K.flatMap (elems h)) {i' : Nat} (hi' : i' = K0.length + 1) : Fil h nb ib cb S K x lo hi w w' i' := by
  have e : K0 ++ [l, c] ++ K2 = (K0 ++ [l]) ++ [c] ++ K2 := by simp
  have e' : S0 ++ y :: S2 = (S0 ++ [y]) ++ S2 := by simp
  rw [e, e'] at f
  rw [e] at hlen mem
  refine ⟨S0 ++ [y], S2, K0 ++ [l], c, K2, some y.k, b, ⟨by simp; omega, by simp; omega⟩, f.1, ⟨c1.snoc c2, c3, c4⟩, hx, o2, fun d hd => ?_, hlen, mem, f.2.1, f.2.2.1, f.2.2.2⟩
  simp only [List.mem_append, List.mem_singleton] at hd
  rcases hd with (hd | rfl) | hd
  · exact o3 d (.inl hd)
  · exact o1
  · exact o3 d (.inr hd)
theorem fil_first {h nb ib cb : Nat} {S S0 S2 : List It} {K K0 K2 : List (Tr h)} {l c : Tr h} {y : It} {x : Key} {lo hi a b : Option Key} {w w' : World}
    (f : Rep (h + 1) w' (mkI nb ib cb (S0 ++ y :: S2) (K0 ++ [c, l] ++ K2)) ∧ (foot (h + 1) (mkI nb ib cb (S0 ++ y :: S2) (K0 ++ [c, l] ++ K2))).Nodup ∧ (∀ b ∈ foot (h + 1) (mkI nb ib cb (S0 ++ y :: S2) (K0 ++ [c, l] ++ K2)), b ∈ foot (h + 1) (mkI nb ib cb S K) ∨ w.heap.size ≤ b) ∧ Kep (fun b => b ∈ foot (h + 1) (mkI nb ib cb S K)) w w')
    (hl : S0.length = K0.length) (c1 : ChainL (Inv h) S0 K0 lo a) (c2 : Inv h c a (some y.k)) (c3 : Inv h l (some y.k) b) (c4 : ChainR (Inv h) S2 K2 b hi) (hx : geL a x ∧ x < y.k) (o1 : Ok h l 32) (o2 : Ok h c 33) (o3 : ∀ d, d ∈ K0 ∨ d ∈ K2 → Ok h d 32) (hlen : (K0 ++ [c, l] ++ K2).length ≤ 64 ∧ K.length ≤ (K0 ++ [c, l] ++ K2).length + 1)
    (mem : ∀ y, y ∈ (K0 ++ [c, l] ++ K2).flatMap (elems h) ↔ y ∈ K.flatMap (elems h)) {i' : Nat} (hi' : i' = K0.length) : Fil h nb ib cb S K x lo hi w w' i' := by
  have e : K0 ++ [c, l] ++ K2 = K0 ++ [c] ++ (l :: K2) := by simp
  rw [e] at f hlen mem
  refine ⟨S0, y :: S2, K0, c, l :: K2, a, some y.k, ⟨by omega, by omega⟩, f.1, ⟨c1, c2, ⟨rfl, ChainR.chain c3 c4⟩⟩, hx, o2, fun d hd => ?_, hlen, mem, f.2.1, f.2.2.1, f.2.2.2⟩
  rcases hd with hd | hd
  · exact o3 d (.inl hd)
  · rcases List.mem_cons.1 hd with rfl | hd
    · exact o1
    · exact o3 d (.inr hd)



set_option maxHeartbeats 1000000 in
theorem lift_ll {nb ib cb lb lib xb xib : Nat} {S0 S2 : List It} {K0 K2 : List (Tr 0)} {L I : List It} {y s : It} {w : World} {tv : Value}
    (hr : Rep 1 w (mkI nb ib cb (S0 ++ s :: S2) (K0 ++ [mkL lb lib (L ++ [y]), mkL xb xib I] ++ K2))) (hnd : (foot 1 (mkI nb ib cb (S0 ++ s :: S2) (K0 ++ [mkL lb lib (L ++ [y]), mkL xb xib I] ++ K2))).Nodup) (hlen : (K0 ++ [mkL lb lib (L ++ [y]), mkL xb xib I] ++ K2).length = (S0 ++ s :: S2).length + 1) (hl : S0.length = K0.length) (hL : 32 ≤ L.length) (hI : I.length ≤ 32) {i : Nat} (hi : i = K0.length + 1) :
    Calls Try.prog 36 #[tv, .pointer (some ⟨nb, 0, none⟩), .int .i64 (i : Int)] w fun e w' => e = .returned (.int .i64 (i : Int)) ∧ Fl 0 nb ib cb (S0 ++ s :: S2) (S0 ++ y :: S2) (K0 ++ [mkL lb lib (L ++ [y]), mkL xb xib I] ++ K2) (K0 ++ [mkL lb lib L, mkL xb xib (y :: I)] ++ K2) w w' := by
  obtain ⟨restS, restK, r1, r2, r3, r4, rk⟩ := mkI_parts hr
  obtain ⟨restA, p1', p2, p3, p4⟩ := mkL_parts (rk (mkL lb lib (L ++ [y])) (by simp))
  obtain ⟨restB, q1, q2, q3, q4⟩ := mkL_parts (rk (mkL xb xib I) (by simp))
  have hmid := foot_mid (X := [mkL lb lib (L ++ [y]), mkL xb xib I]) hnd
  simp only [List.flatMap_cons, List.flatMap_nil, mkL_foot, List.append_nil, List.cons_append, List.nil_append, List.mem_cons, List.not_mem_nil, or_false, not_or, List.nodup_cons] at hmid
  obtain ⟨m1, m2, m3, m4, m5, m6, m7⟩ := hmid
  simp only [List.length_append, List.length_cons, List.length_nil] at hlen r1 r2 r3 p1' p3 q1 q3
  have hN : NodeR w nb ib cb (S0.length + (S2.length + 1)) (K0.length + 2 + K2.length) (S0.map It.ptr ++ s.ptr :: S2.map It.ptr ++ restS) (K0.map (nodeV 0) ++ .pointer (some ⟨lb, 0, none⟩) :: .pointer (some ⟨xb, 0, none⟩) :: K2.map (nodeV 0) ++ restK) := r1.cast (by omega) (by omega) (by simp) (by simp [mkL_node])
  obtain ⟨q0, restC', rfl, hc'⟩ := cons_of_len (l := restB) (n := 63 - I.length) (by omega)
  refine (fill_ll (tv := tv) (i := i) (j := K0.length) (m := L.length) (nl := L.length + 1) (nc := I.length) (zc := I.length) (zl := L.length + 1) (S1 := S0.map It.ptr) (S2 := S2.map It.ptr) (rS := restS) (K1 := K0.map (nodeV 0)) (K2 := K2.map (nodeV 0)) (rK := restK) (P := L.map It.ptr) (p0 := some ⟨y.p, 0, none⟩) (R := restA) (Q := I.map It.ptr) (q0 := q0) (T := restC') hN ⟨p1', by simpa [It.ptr] using p2⟩ ⟨q1, q2⟩ (by simp <;> omega) (by omega) (by simp) (by omega) (by simp <;> omega) (by simp <;> omega) (by simp) (by simp) (by simp) (by omega) (by simp) (by omega) (ptrs_one _) m4.1 m4.2.2.1 m7.1.2.1 m5.2.1 m5.2.2.2 m7.2.1.2 (size_leaf q1) (by omega) (size_leaf p1') (by omega)).mono ?_
  rintro e w' ⟨rfl, o1, o2, o3, k⟩
  have kk : Kep (fun b => (b = nb ∨ b = ib ∨ b = cb) ∨ b ∈ [mkL lb lib (L ++ [y]), mkL xb xib I].flatMap (foot 0)) w w' := k.mono fun b _ hb => by
    simp only [List.flatMap_cons, List.flatMap_nil, mkL_foot, List.append_nil, List.cons_append, List.nil_append, List.mem_cons, List.not_mem_nil, or_false]
    grind
  have htt : TT w (fun b => (b = nb ∨ b = ib ∨ b = cb) ∨ b ∈ [mkL lb lib (L ++ [y]), mkL xb xib I].flatMap (foot 0)) := hr.tt.mono fun b hb => by
    rw [mkI_foot, List.flatMap_append, List.flatMap_append]
    simp only [List.mem_cons, List.mem_append]
    grind
  refine ⟨rfl, kids_fil (restS := restS) (restK := restK) hr hnd (S' := S0 ++ y :: S2) (Y := [mkL lb lib L, mkL xb xib (y :: I)]) (o1.cast (by simp <;> omega) (by simp <;> omega) (by simp [It.ptr]) (by simp [mkL_node])) (by simp <;> omega) (by simp <;> omega) kk (fun z hz => ?_) (fun d hd => ?_) ?_ (fun b hb => ?_)⟩
  · simp only [List.mem_append, List.mem_cons] at hz
    rcases hz with hz | rfl | hz
    · exact r4 z (by simp [hz])
    · exact p4 z (by simp)
    · exact r4 z (by simp [hz])
  · simp only [List.mem_cons, List.not_mem_nil, or_false] at hd
    rcases hd with rfl | rfl
    · exact o2.rep (rest := .pointer none :: restA) (by simp) (by simp) (by simp <;> omega) (fun z hz => (p4 z (by simp [hz])).kep kk htt)
    · refine o3.rep (rest := restC') (by simp) (by simp [It.ptr]) (by simp <;> omega) (fun z hz => ?_)
      rcases List.mem_cons.1 hz with rfl | hz
      · exact (p4 z (by simp)).kep kk htt
      · exact (q4 z hz).kep kk htt
  · simp only [List.flatMap_cons, List.flatMap_nil, mkL_foot, List.append_nil, List.cons_append, List.nil_append, List.nodup_cons, List.mem_cons, List.not_mem_nil, or_false, not_or]
    exact m7
  · simp only [List.flatMap_cons, List.flatMap_nil, mkL_foot, List.append_nil] at hb ⊢
    exact .inl hb

set_option maxHeartbeats 1000000 in
theorem lift_rl {nb ib cb xb xib rb rib : Nat} {S0 S2 : List It} {K0 K2 : List (Tr 0)} {I P : List It} {p0 p1 s : It} {w : World} {tv : Value}
    (hr : Rep 1 w (mkI nb ib cb (S0 ++ s :: S2) (K0 ++ [mkL xb xib I, mkL rb rib (p0 :: p1 :: P)] ++ K2))) (hnd : (foot 1 (mkI nb ib cb (S0 ++ s :: S2) (K0 ++ [mkL xb xib I, mkL rb rib (p0 :: p1 :: P)] ++ K2))).Nodup) (hlen : (K0 ++ [mkL xb xib I, mkL rb rib (p0 :: p1 :: P)] ++ K2).length = (S0 ++ s :: S2).length + 1) (hl : S0.length = K0.length) (hP : 31 ≤ P.length) (hI : I.length ≤ 32) (hls : LeftSmall K0) {i : Nat} (hi : i = K0.length) :
    Calls Try.prog 36 #[tv, .pointer (some ⟨nb, 0, none⟩), .int .i64 (i : Int)] w fun e w' => e = .returned (.int .i64 (i : Int)) ∧ Fl 0 nb ib cb (S0 ++ s :: S2) (S0 ++ p1 :: S2) (K0 ++ [mkL xb xib I, mkL rb rib (p0 :: p1 :: P)] ++ K2) (K0 ++ [mkL xb xib (I ++ [p0]), mkL rb rib (p1 :: P)] ++ K2) w w' := by
  obtain ⟨restS, restK, r1, r2, r3, r4, rk⟩ := mkI_parts hr
  obtain ⟨restA, p1', p2, p3, p4⟩ := mkL_parts (rk (mkL xb xib I) (by simp))
  obtain ⟨restB, q1, q2, q3, q4⟩ := mkL_parts (rk (mkL rb rib (p0 :: p1 :: P)) (by simp))
  have hmid := foot_mid (X := [mkL xb xib I, mkL rb rib (p0 :: p1 :: P)]) hnd
  simp only [List.flatMap_cons, List.flatMap_nil, mkL_foot, List.append_nil, List.cons_append, List.nil_append, List.mem_cons, List.not_mem_nil, or_false, not_or, List.nodup_cons] at hmid
  obtain ⟨m1, m2, m3, m4, m5, m6, m7⟩ := hmid
  simp only [List.length_append, List.length_cons, List.length_nil] at hlen r1 r2 r3 p1' p3 q1 q3
  have hN : NodeR w nb ib cb (S0.length + (S2.length + 1)) (K0.length + 2 + K2.length) (S0.map It.ptr ++ s.ptr :: S2.map It.ptr ++ restS) (K0.map (nodeV 0) ++ .pointer (some ⟨xb, 0, none⟩) :: .pointer (some ⟨rb, 0, none⟩) :: K2.map (nodeV 0) ++ restK) := r1.cast (by omega) (by omega) (by simp) (by simp [mkL_node])
  obtain ⟨q0, restC', rfl, hc'⟩ := cons_of_len (l := restA) (n := 63 - I.length) (by omega)
  have hf : Hid (((K0.length : Nat) : Int) = 0 ∨ ∃ j y zy : Nat, ((K0.length : Nat) : Int) - 1 = (j : Int) ∧ (K0.map (nodeV 0))[j]? = some (.pointer (some ⟨y, 0, none⟩)) ∧ SizeIs w y zy ∧ (zy : Int) ≤ 32) := hls.form (w := w) (fun d hd => rk d (by simp [hd]))
  subst hi
  refine (fill_rl (tv := tv) (i := K0.length) (nl := P.length + 2) (nc := I.length) (zc := I.length) (zl := P.length + 2) (S1 := S0.map It.ptr) (S2 := S2.map It.ptr) (rS := restS) (K1 := K0.map (nodeV 0)) (K2 := K2.map (nodeV 0)) (rK := restK) (P := P.map It.ptr) (p0 := some ⟨p0.p, 0, none⟩) (p1 := some ⟨p1.p, 0, none⟩) (R := restB) (Q := I.map It.ptr) (q0 := q0) (T := restC') hN ⟨q1, by simpa [It.ptr] using q2⟩ ⟨p1', p2⟩ (by simp <;> omega) (by omega) (by simp) (by omega) (by simp) (by simp <;> omega) (by simp) (by omega) (by simp) (by omega) (ptrs_one _) m4.2.2.1 m4.1 (Ne.symm m7.1.2.1) m5.2.2.2 m5.2.1 (Ne.symm m7.2.1.2) (size_leaf p1') (by omega) (size_leaf q1) (by omega) hf.out).mono ?_
  rintro e w' ⟨rfl, o1, o2, o3, k⟩
  have kk : Kep (fun b => (b = nb ∨ b = ib ∨ b = cb) ∨ b ∈ [mkL xb xib I, mkL rb rib (p0 :: p1 :: P)].flatMap (foot 0)) w w' := k.mono fun b _ hb => by
    simp only [List.flatMap_cons, List.flatMap_nil, mkL_foot, List.append_nil, List.cons_append, List.nil_append, List.mem_cons, List.not_mem_nil, or_false]
    grind
  have htt : TT w (fun b => (b = nb ∨ b = ib ∨ b = cb) ∨ b ∈ [mkL xb xib I, mkL rb rib (p0 :: p1 :: P)].flatMap (foot 0)) := hr.tt.mono fun b hb => by
    rw [mkI_foot, List.flatMap_append, List.flatMap_append]
    simp only [List.mem_cons, List.mem_append]
    grind
  refine ⟨rfl, kids_fil (restS := restS) (restK := restK) hr hnd (S' := S0 ++ p1 :: S2) (Y := [mkL xb xib (I ++ [p0]), mkL rb rib (p1 :: P)]) (o1.cast (by simp <;> omega) (by simp <;> omega) (by simp [It.ptr]) (by simp [mkL_node])) (by simp <;> omega) (by simp <;> omega) kk (fun z hz => ?_) (fun d hd => ?_) ?_ (fun b hb => ?_)⟩
  · simp only [List.mem_append, List.mem_cons] at hz
    rcases hz with hz | rfl | hz
    · exact r4 z (by simp [hz])
    · exact q4 z (by simp)
    · exact r4 z (by simp [hz])
  · simp only [List.mem_cons, List.not_mem_nil, or_false] at hd
    rcases hd with rfl | rfl
    · refine o3.rep (rest := restC') (by simp) (by simp [It.ptr]) (by simp <;> omega) (fun z hz => ?_)
      simp only [List.mem_append, List.mem_singleton] at hz
      rcases hz with hz | rfl
      · exact (p4 z hz).kep kk htt
      · exact (q4 z (by simp)).kep kk htt
    · exact o2.rep (rest := .pointer none :: restB) (by simp) (by simp [It.ptr]) (by simp <;> omega) (fun z hz => (q4 z (List.mem_cons_of_mem _ hz)).kep kk htt)
  · simp only [List.flatMap_cons, List.flatMap_nil, mkL_foot, List.append_nil, List.cons_append, List.nil_append, List.nodup_cons, List.mem_cons, List.not_mem_nil, or_false, not_or]
    exact m7
  · simp only [List.flatMap_cons, List.flatMap_nil, mkL_foot, List.append_nil] at hb ⊢
    exact .inl hb

set_option maxHeartbeats 1000000 in
theorem lift_ml {nb ib cb lb lib rb rib : Nat} {S0 S2 : List It} {K0 K2 : List (Tr 0)} {L R : List It} {s : It} {w : World} {tv : Value}
    (hr : Rep 1 w (mkI nb ib cb (S0 ++ s :: S2) (K0 ++ [mkL lb lib L, mkL rb rib R] ++ K2))) (hnd : (foot 1 (mkI nb ib cb (S0 ++ s :: S2) (K0 ++ [mkL lb lib L, mkL rb rib R] ++ K2))).Nodup) (hlen : (K0 ++ [mkL lb lib L, mkL rb rib R] ++ K2).length = (S0 ++ s :: S2).length + 1) (hl : S0.length = K0.length) (hLR : L.length + R.length ≤ 64) {i : Nat} (hi : i = K0.length) :
    Calls Try.prog 45 #[tv, .pointer (some ⟨nb, 0, none⟩), .int .i64 (i : Int)] w fun e w' => e = .returned (.tuple #[]) ∧ Fl 0 nb ib cb (S0 ++ s :: S2) (S0 ++ S2) (K0 ++ [mkL lb lib L, mkL rb rib R] ++ K2) (K0 ++ [mkL lb lib (L ++ R)] ++ K2) w w' := by
  obtain ⟨restS, restK, r1, r2, r3, r4, rk⟩ := mkI_parts hr
  obtain ⟨restA, p1', p2, p3, p4⟩ := mkL_parts (rk (mkL lb lib L) (by simp))
  obtain ⟨restB, q1, q2, q3, q4⟩ := mkL_parts (rk (mkL rb rib R) (by simp))
  have hmid := foot_mid (X := [mkL lb lib L, mkL rb rib R]) hnd
  simp only [List.flatMap_cons, List.flatMap_nil, mkL_foot, List.append_nil, List.cons_append, List.nil_append, List.mem_cons, List.not_mem_nil, or_false, not_or, List.nodup_cons] at hmid
  obtain ⟨m1, m2, m3, m4, m5, m6, m7⟩ := hmid
  simp only [List.length_append, List.length_cons, List.length_nil] at hlen r1 r2 r3 p1' p3 q1 q3
  have hN : NodeR w nb ib cb (S0.length + (S2.length + 1)) (K0.length + 2 + K2.length) (S0.map It.ptr ++ s.ptr :: S2.map It.ptr ++ restS) (K0.map (nodeV 0) ++ .pointer (some ⟨lb, 0, none⟩) :: .pointer (some ⟨rb, 0, none⟩) :: K2.map (nodeV 0) ++ restK) := r1.cast (by omega) (by omega) (by simp) (by simp [mkL_node])
  obtain ⟨R1, R2, hR12, hR1⟩ : ∃ R1 R2, restA = R1 ++ R2 ∧ R.length = R1.length := ⟨restA.take R.length, restA.drop R.length, (List.take_append_drop _ _).symm, by simp; omega⟩
  subst hR12
  simp only [List.length_append] at p3
  refine (merge_leaf (tv := tv) (i := i) (nl := L.length) (nr := R.length) (S1 := S0.map It.ptr) (sv := s.ptr) (S2 := S2.map It.ptr) (rS := restS) (K1 := K0.map (nodeV 0)) (K2 := K2.map (nodeV 0)) (rK := restK) (P := L.map It.ptr) (R1 := R1) (R2 := R2) (Q := R.map It.ptr) (T := restB) hN ⟨p1', by simpa using p2⟩ ⟨q1, q2⟩ (by simp <;> omega) (by omega) (by simp) (by omega) (by simp <;> omega) (by simp <;> omega) (by simp) (by simp) (by simp <;> omega) (by omega) (by omega) (ptrs_one _) (nodes_one _) (ptrs_one _) m4.1 m4.2.2.1 m7.1.2.1 m5.2.1 m5.2.2.2 m7.2.1.2).mono ?_
  rintro e w' ⟨rfl, o1, o2, o3, k⟩
  have kk : Kep (fun b => (b = nb ∨ b = ib ∨ b = cb) ∨ b ∈ [mkL lb lib L, mkL rb rib R].flatMap (foot 0)) w w' := k.mono fun b _ hb => by
    simp only [List.flatMap_cons, List.flatMap_nil, mkL_foot, List.append_nil, List.cons_append, List.nil_append, List.mem_cons, List.not_mem_nil, or_false]
    grind
  have htt : TT w (fun b => (b = nb ∨ b = ib ∨ b = cb) ∨ b ∈ [mkL lb lib L, mkL rb rib R].flatMap (foot 0)) := hr.tt.mono fun b hb => by
    rw [mkI_foot, List.flatMap_append, List.flatMap_append]
    simp only [List.mem_cons, List.mem_append]
    grind
  refine ⟨rfl, kids_fil (restS := (.pointer none :: restS)) (restK := (.pointer none :: restK)) hr hnd (S' := S0 ++ S2) (Y := [mkL lb lib (L ++ R)]) (o1.cast (by simp <;> omega) (by simp <;> omega) (by simp [It.ptr]) (by simp [mkL_node])) (by simp <;> omega) (by simp <;> omega) kk (fun z hz => ?_) (fun d hd => ?_) ?_ (fun b hb => ?_)⟩
  · simp only [List.mem_append] at hz
    exact r4 z (by simp only [List.mem_append, List.mem_cons]; grind)
  · simp only [List.mem_cons, List.not_mem_nil, or_false] at hd
    subst hd
    exact o2.rep (rest := R2) (by simp) (by simp) (by simp <;> omega) (fun z hz => by
      rcases List.mem_append.1 hz with hz | hz
      · exact (p4 z hz).kep kk htt
      · exact (q4 z hz).kep kk htt)
  · have hne := m7.1.1
    simp only [List.flatMap_cons, List.flatMap_nil, mkL_foot, List.append_nil]
    simp [hne]
  · simp only [List.flatMap_cons, List.flatMap_nil, mkL_foot, List.append_nil, List.cons_append, List.nil_append, List.mem_cons, List.not_mem_nil, or_false] at hb ⊢
    grind

set_option maxHeartbeats 2000000 in
theorem lift_li {h nb ib cb lb lib lcb xb xib xcb : Nat} {S0 S2 : List It} {K0 K2 : List (Tr (h + 1))} {LS CS : List It} {LK CK : List (Tr h)} {q s : It} {k : Tr h} {w : World} {tv : Value}
    (hr : Rep (h + 2) w (mkI nb ib cb (S0 ++ s :: S2) (K0 ++ [mkI lb lib lcb (LS ++ [q]) (LK ++ [k]), mkI xb xib xcb CS CK] ++ K2))) (hnd : (foot (h + 2) (mkI nb ib cb (S0 ++ s :: S2) (K0 ++ [mkI lb lib lcb (LS ++ [q]) (LK ++ [k]), mkI xb xib xcb CS CK] ++ K2))).Nodup) (hlen : (K0 ++ [mkI lb lib lcb (LS ++ [q]) (LK ++ [k]), mkI xb xib xcb CS CK] ++ K2).length = (S0 ++ s :: S2).length + 1) (hl : S0.length = K0.length) (hLS : LS.length + 1 = LK.length) (hCS : CS.length + 1 = CK.length) (hL : 32 ≤ LK.length) (hI : CK.length ≤ 32) {i : Nat} (hi : i = K0.length + 1) :
    Calls Try.prog 36 #[tv, .pointer (some ⟨nb, 0, none⟩), .int .i64 (i : Int)] w fun e w' => e = .returned (.int .i64 (i : Int)) ∧ Fl (h + 1) nb ib cb (S0 ++ s :: S2) (S0 ++ q :: S2) (K0 ++ [mkI lb lib lcb (LS ++ [q]) (LK ++ [k]), mkI xb xib xcb CS CK] ++ K2) (K0 ++ [mkI lb lib lcb LS LK, mkI xb xib xcb (s :: CS) (k :: CK)] ++ K2) w w' := by
  obtain ⟨restS, restK, r1, r2, r3, r4, rk⟩ := mkI_parts hr
  obtain ⟨restA, restA', p1', p2, p3, p4, p5⟩ := mkI_parts (rk (mkI lb lib lcb (LS ++ [q]) (LK ++ [k])) (by simp))
  obtain ⟨restB, restB', q1, q2, q3, q4, q5⟩ := mkI_parts (rk (mkI xb xib xcb CS CK) (by simp))
  obtain ⟨⟨m1, m2, m3, m4, m5, m6, m7, m8, m9⟩, mnd, mg⟩ := pair_ne hnd
  simp only [List.length_append, List.length_cons, List.length_nil] at hlen r1 r2 r3 p1' p2 p3 q1 q2 q3
  have hN : NodeR w nb ib cb (S0.length + (S2.length + 1)) (K0.length + 2 + K2.length) (S0.map It.ptr ++ s.ptr :: S2.map It.ptr ++ restS) (K0.map (nodeV (h + 1)) ++ .pointer (some ⟨lb, 0, none⟩) :: .pointer (some ⟨xb, 0, none⟩) :: K2.map (nodeV (h + 1)) ++ restK) := r1.cast (by omega) (by omega) (by simp) (by simp [mkI_node])
  obtain ⟨q0, restC, rfl, hc'⟩ := cons_of_len (l := restB) (n := 62 - CS.length) (by omega)
  obtain ⟨u0, restU, rfl, hu'⟩ := cons_of_len (l := restB') (n := 63 - CK.length) (by omega)
  simp only [List.length_cons] at q2 q3
  refine (fill_li (tv := tv) (i := i) (j := K0.length) (m := LS.length) (mk := LK.length) (nl := LS.length + 1) (ml := LK.length + 1) (nc := CS.length) (mc := CK.length) (zc := CK.length) (zl := LK.length + 1) (S1 := S0.map It.ptr) (S2 := S2.map It.ptr) (rS := restS) (K1 := K0.map (nodeV (h + 1))) (K2 := K2.map (nodeV (h + 1))) (rK := restK) (P := LS.map It.ptr) (p0 := some ⟨q.p, 0, none⟩) (R := restA) (KP := LK.map (nodeV h)) (k0 := some ⟨nbOf h k, 0, none⟩) (KR := restA') (Q := CS.map It.ptr) (q0 := q0) (T := restC) (KQ := CK.map (nodeV h)) (u0 := u0) (U := restU) (sv := some ⟨s.p, 0, none⟩) hN (p1'.cast (by omega) (by omega) (by simp [It.ptr]) (by simp [nodeV])) q1 (by simp <;> omega) (by omega) (by simp) (by omega) (by simp <;> omega) (by simp <;> omega) (by simp) (by simp) (by simp) (by omega) (by simp) (by omega) (by simp) (by simp) (by omega) (by simp) (by omega) (ptrs_one _) (nodes_one _) m1 m2 m3 m4 m5 m6 m7 m8 m9 (size_inner q1.node) (by omega) (size_inner p1'.node) (by omega)).mono ?_
  rintro e w' ⟨rfl, o1, o2, o3, kp⟩
  have kk : Kep (fun b => (b = nb ∨ b = ib ∨ b = cb) ∨ b ∈ [mkI lb lib lcb (LS ++ [q]) (LK ++ [k]), mkI xb xib xcb CS CK].flatMap (foot (h + 1))) w w' := kp.mono fun b _ hb => by
    simp only [List.flatMap_cons, List.flatMap_nil, mkI_foot, List.append_nil, List.cons_append, List.nil_append, List.mem_cons, List.mem_append]
    clear hr hnd r1 r2 r3 r4 rk p1' p2 p3 p4 p5 q1 q2 q3 q4 q5 hN o1 o2 o3 kp mg mnd
    grind
  have htt : TT w (fun b => (b = nb ∨ b = ib ∨ b = cb) ∨ b ∈ [mkI lb lib lcb (LS ++ [q]) (LK ++ [k]), mkI xb xib xcb CS CK].flatMap (foot (h + 1))) := hr.tt.mono fun b hb => by
    rw [mkI_foot, List.flatMap_append, List.flatMap_append]
    simp only [List.mem_cons, List.mem_append]
    grind
  have htt2 := htt.mono (N := fun k => k = ib ∨ k = lb ∨ k = lib ∨ k = lcb ∨ k = xb ∨ k = xib ∨ k = xcb) (fun b hb => by
    simp only [List.flatMap_cons, List.flatMap_nil, mkI_foot, List.append_nil, List.cons_append, List.nil_append, List.mem_cons, List.mem_append]
    clear hr hnd r1 r2 r3 r4 rk p1' p2 p3 p4 p5 q1 q2 q3 q4 q5 hN o1 o2 o3 kp mg mnd kk htt
    grind)
  have gk : ∀ g, g ∈ (LK ++ [k]) ∨ g ∈ CK → Rep h w' g := fun g hg => by
    refine Rep.kep (hg.elim (fun hg => p5 g hg) (fun hg => q5 g hg)) kp htt2 fun b hb hm => ?_
    have := mg b (hg.imp (fun hg => List.mem_flatMap.2 ⟨g, hg, hb⟩) (fun hg => List.mem_flatMap.2 ⟨g, hg, hb⟩))
    clear hr hnd r1 r2 r3 r4 rk p1' p2 p3 p4 p5 q1 q2 q3 q4 q5 hN o1 o2 o3 kp mg mnd kk htt htt2
    grind
  refine ⟨rfl, kids_fil (restS := restS) (restK := restK) hr hnd (S' := S0 ++ q :: S2) (Y := [mkI lb lib lcb LS LK, mkI xb xib xcb (s :: CS) (k :: CK)]) (o1.cast (by simp <;> omega) (by simp <;> omega) (by simp [It.ptr]) (by simp [mkI_node])) (by simp <;> omega) (by simp <;> omega) kk (fun z hz => ?_) (fun d hd => ?_) ?_ (fun b hb => ?_)⟩
  · simp only [List.mem_append, List.mem_cons] at hz
    rcases hz with hz | rfl | hz
    · exact r4 z (by simp [hz])
    · exact p4 z (by simp)
    · exact r4 z (by simp [hz])
  · simp only [List.mem_cons, List.not_mem_nil, or_false] at hd
    rcases hd with rfl | rfl
    · exact o2.rep (rest := .pointer none :: restA) (rest' := .pointer none :: restA') (by simp) (by simp) (by simp) (by simp) (by simp <;> omega) (by simp <;> omega) (fun z hz => (p4 z (by simp [hz])).kep kk htt) (fun g hg => gk g (.inl (by simp [hg])))
    · refine o3.rep (rest := restC) (rest' := restU) (by simp) (by simp) (by simp [It.ptr]) (by simp [nodeV]) (by simp <;> omega) (by simp <;> omega) (fun z hz => ?_) (fun g hg => ?_)
      · rcases List.mem_cons.1 hz with rfl | hz
        · exact (r4 z (by simp)).kep kk htt
        · exact (q4 z hz).kep kk htt
      · rcases List.mem_cons.1 hg with rfl | hg
        · exact gk g (.inl (by simp))
        · exact gk g (.inr hg)
  · clear hr hnd r1 r2 r3 r4 rk p1' p2 p3 p4 p5 q1 q2 q3 q4 q5 hN o1 o2 o3 kp kk htt htt2 gk mg
    simp only [List.flatMap_cons, List.flatMap_nil, mkI_foot, List.append_nil, List.flatMap_append, List.cons_append, List.nil_append, List.append_assoc, List.nodup_cons, List.nodup_append, List.mem_cons, List.mem_append, not_or, forall_eq_or_imp, List.not_mem_nil, or_false] at mnd ⊢
    generalize List.flatMap (foot h) LK = G0 at *
    generalize foot h k = G1 at *
    generalize List.flatMap (foot h) CK = G2 at *
    grind
  · clear hr hnd r1 r2 r3 r4 rk p1' p2 p3 p4 p5 q1 q2 q3 q4 q5 hN o1 o2 o3 kp kk htt htt2 gk mg mnd
    simp only [List.flatMap_cons, List.flatMap_nil, mkI_foot, List.append_nil, List.flatMap_append, List.cons_append, List.nil_append, List.append_assoc, List.mem_cons, List.mem_append, List.not_mem_nil, or_false] at hb ⊢
    grind

set_option maxHeartbeats 2000000 in
theorem lift_ri {h nb ib cb xb xib xcb rb rib rcb : Nat} {S0 S2 : List It} {K0 K2 : List (Tr (h + 1))} {CS P : List It} {CK KP : List (Tr h)} {p0 s : It} {k0 : Tr h} {w : World} {tv : Value}
    (hr : Rep (h + 2) w (mkI nb ib cb (S0 ++ s :: S2) (K0 ++ [mkI xb xib xcb CS CK, mkI rb rib rcb (p0 :: P) (k0 :: KP)] ++ K2))) (hnd : (foot (h + 2) (mkI nb ib cb (S0 ++ s :: S2) (K0 ++ [mkI xb xib xcb CS CK, mkI rb rib rcb (p0 :: P) (k0 :: KP)] ++ K2))).Nodup) (hlen : (K0 ++ [mkI xb xib xcb CS CK, mkI rb rib rcb (p0 :: P) (k0 :: KP)] ++ K2).length = (S0 ++ s :: S2).length + 1) (hl : S0.length = K0.length) (hCS : CS.length + 1 = CK.length) (hPS : P.length + 1 = KP.length) (hP : 32 ≤ KP.length) (hI : CK.length ≤ 32) (hls : LeftSmall K0) {i : Nat} (hi : i = K0.length) :
    Calls Try.prog 36 #[tv, .pointer (some ⟨nb, 0, none⟩), .int .i64 (i : Int)] w fun e w' => e = .returned (.int .i64 (i : Int)) ∧ Fl (h + 1) nb ib cb (S0 ++ s :: S2) (S0 ++ p0 :: S2) (K0 ++ [mkI xb xib xcb CS CK, mkI rb rib rcb (p0 :: P) (k0 :: KP)] ++ K2) (K0 ++ [mkI xb xib xcb (CS ++ [s]) (CK ++ [k0]), mkI rb rib rcb P KP] ++ K2) w w' := by
  obtain ⟨restS, restK, r1, r2, r3, r4, rk⟩ := mkI_parts hr
  obtain ⟨restA, restA', p1', p2, p3, p4, p5⟩ := mkI_parts (rk (mkI xb xib xcb CS CK) (by simp))
  obtain ⟨restB, restB', q1, q2, q3, q4, q5⟩ := mkI_parts (rk (mkI rb rib rcb (p0 :: P) (k0 :: KP)) (by simp))
  obtain ⟨⟨m1, m2, m3, m4, m5, m6, m7, m8, m9⟩, mnd, mg⟩ := pair_ne hnd
  simp only [List.length_append, List.length_cons, List.length_nil] at hlen r1 r2 r3 p1' p2 p3 q1 q2 q3
  have hN : NodeR w nb ib cb (S0.length + (S2.length + 1)) (K0.length + 2 + K2.length) (S0.map It.ptr ++ s.ptr :: S2.map It.ptr ++ restS) (K0.map (nodeV (h + 1)) ++ .pointer (some ⟨xb, 0, none⟩) :: .pointer (some ⟨rb, 0, none⟩) :: K2.map (nodeV (h + 1)) ++ restK) := r1.cast (by omega) (by omega) (by simp) (by simp [mkI_node])
  obtain ⟨q0, restC, rfl, hc'⟩ := cons_of_len (l := restA) (n := 62 - CS.length) (by omega)
  obtain ⟨u0, restU, rfl, hu'⟩ := cons_of_len (l := restA') (n := 63 - CK.length) (by omega)
  simp only [List.length_cons] at p2 p3
  have hf : Hid (((K0.length : Nat) : Int) = 0 ∨ ∃ j y zy : Nat, ((K0.length : Nat) : Int) - 1 = (j : Int) ∧ (K0.map (nodeV (h + 1)))[j]? = some (.pointer (some ⟨y, 0, none⟩)) ∧ SizeIs w y zy ∧ (zy : Int) ≤ 32) := hls.form (w := w) (fun d hd => rk d (by simp [hd]))
  subst hi
  refine (fill_ri (tv := tv) (i := K0.length) (nl := P.length + 1) (ml := KP.length + 1) (nc := CS.length) (mc := CK.length) (zc := CK.length) (zl := KP.length + 1) (S1 := S0.map It.ptr) (S2 := S2.map It.ptr) (rS := restS) (K1 := K0.map (nodeV (h + 1))) (K2 := K2.map (nodeV (h + 1))) (rK := restK) (P := P.map It.ptr) (p0 := some ⟨p0.p, 0, none⟩) (R := restB) (KP := KP.map (nodeV h)) (k0 := some ⟨nbOf h k0, 0, none⟩) (KR := restB') (Q := CS.map It.ptr) (q0 := q0) (T := restC) (KQ := CK.map (nodeV h)) (u0 := u0) (U := restU) (sv := some ⟨s.p, 0, none⟩) hN (q1.cast (by omega) (by omega) (by simp [It.ptr]) (by simp [nodeV])) p1' (by simp <;> omega) (by omega) (by simp) (by omega) (by simp) (by simp <;> omega) (by simp) (by omega) (by simp) (by omega) (by simp) (by omega) (by simp) (by omega) (ptrs_one _) (nodes_one _) m2 m1 (Ne.symm m3) m5 m4 (Ne.symm m6) m8 m7 (Ne.symm m9) (size_inner p1'.node) (by omega) (size_inner q1.node) (by omega) hf.out).mono ?_
  rintro e w' ⟨rfl, o1, o2, o3, kp⟩
  have kk : Kep (fun b => (b = nb ∨ b = ib ∨ b = cb) ∨ b ∈ [mkI xb xib xcb CS CK, mkI rb rib rcb (p0 :: P) (k0 :: KP)].flatMap (foot (h + 1))) w w' := kp.mono fun b _ hb => by
    simp only [List.flatMap_cons, List.flatMap_nil, mkI_foot, List.append_nil, List.cons_append, List.nil_append, List.mem_cons, List.mem_append]
    clear hr hnd r1 r2 r3 r4 rk p1' p2 p3 p4 p5 q1 q2 q3 q4 q5 hN o1 o2 o3 kp mg mnd
    grind
  have htt : TT w (fun b => (b = nb ∨ b = ib ∨ b = cb) ∨ b ∈ [mkI xb xib xcb CS CK, mkI rb rib rcb (p0 :: P) (k0 :: KP)].flatMap (foot (h + 1))) := hr.tt.mono fun b hb => by
    rw [mkI_foot, List.flatMap_append, List.flatMap_append]
    simp only [List.mem_cons, List.mem_append]
    grind
  have htt2 := htt.mono (N := fun k => k = ib ∨ k = rb ∨ k = rib ∨ k = rcb ∨ k = xb ∨ k = xib ∨ k = xcb) (fun b hb => by
    simp only [List.flatMap_cons, List.flatMap_nil, mkI_foot, List.append_nil, List.cons_append, List.nil_append, List.mem_cons, List.mem_append]
    clear hr hnd r1 r2 r3 r4 rk p1' p2 p3 p4 p5 q1 q2 q3 q4 q5 hN o1 o2 o3 kp mg mnd kk htt
    grind)
  have gk : ∀ g, g ∈ CK ∨ g ∈ (k0 :: KP) → Rep h w' g := fun g hg => by
    refine Rep.kep (hg.elim (fun hg => p5 g hg) (fun hg => q5 g hg)) kp htt2 fun b hb hm => ?_
    have := mg b (hg.imp (fun hg => List.mem_flatMap.2 ⟨g, hg, hb⟩) (fun hg => List.mem_flatMap.2 ⟨g, hg, hb⟩))
    clear hr hnd r1 r2 r3 r4 rk p1' p2 p3 p4 p5 q1 q2 q3 q4 q5 hN o1 o2 o3 kp mg mnd kk htt htt2
    grind
  refine ⟨rfl, kids_fil (restS := restS) (restK := restK) hr hnd (S' := S0 ++ p0 :: S2) (Y := [mkI xb xib xcb (CS ++ [s]) (CK ++ [k0]), mkI rb rib rcb P KP]) (o1.cast (by simp <;> omega) (by simp <;> omega) (by simp [It.ptr]) (by simp [mkI_node])) (by simp <;> omega) (by simp <;> omega) kk (fun z hz => ?_) (fun d hd => ?_) ?_ (fun b hb => ?_)⟩
  · simp only [List.mem_append, List.mem_cons] at hz
    rcases hz with hz | rfl | hz
    · exact r4 z (by simp [hz])
    · exact q4 z (by simp)
    · exact r4 z (by simp [hz])
  · simp only [List.mem_cons, List.not_mem_nil, or_false] at hd
    rcases hd with rfl | rfl
    · refine o3.rep (rest := restC) (rest' := restU) (by simp) (by simp) (by simp [It.ptr]) (by simp [nodeV]) (by simp <;> omega) (by simp <;> omega) (fun z hz => ?_) (fun g hg => ?_)
      · simp only [List.mem_append, List.mem_singleton] at hz
        rcases hz with hz | rfl
        · exact (p4 z hz).kep kk htt
        · exact (r4 z (by simp)).kep kk htt
      · simp only [List.mem_append, List.mem_singleton] at hg
        rcases hg with hg | rfl
        · exact gk g (.inl hg)
        · exact gk g (.inr (by simp))
    · exact o2.rep (rest := .pointer none :: restB) (rest' := .pointer none :: restB') (by simp) (by simp) (by simp) (by simp) (by simp <;> omega) (by simp <;> omega) (fun z hz => (q4 z (List.mem_cons_of_mem _ hz)).kep kk htt) (fun g hg => gk g (.inr (List.mem_cons_of_mem _ hg)))
  · clear hr hnd r1 r2 r3 r4 rk p1' p2 p3 p4 p5 q1 q2 q3 q4 q5 hN o1 o2 o3 kp kk htt htt2 gk mg
    simp only [List.flatMap_cons, List.flatMap_nil, mkI_foot, List.append_nil, List.flatMap_append, List.cons_append, List.nil_append, List.append_assoc, List.nodup_cons, List.nodup_append, List.mem_cons, List.mem_append, not_or, forall_eq_or_imp, List.not_mem_nil, or_false] at mnd ⊢
    generalize List.flatMap (foot h) CK = G0 at *
    generalize foot h k0 = G1 at *
    generalize List.flatMap (foot h) KP = G2 at *
    grind
  · clear hr hnd r1 r2 r3 r4 rk p1' p2 p3 p4 p5 q1 q2 q3 q4 q5 hN o1 o2 o3 kp kk htt htt2 gk mg mnd
    simp only [List.flatMap_cons, List.flatMap_nil, mkI_foot, List.append_nil, List.flatMap_append, List.cons_append, List.nil_append, List.append_assoc, List.mem_cons, List.mem_append, List.not_mem_nil, or_false] at hb ⊢
    grind

set_option maxHeartbeats 2000000 in
theorem lift_mi {h nb ib cb lb lib lcb rb rib rcb : Nat} {S0 S2 : List It} {K0 K2 : List (Tr (h + 1))} {LS RS : List It} {LK RK : List (Tr h)} {s : It} {w : World} {tv : Value}
    (hr : Rep (h + 2) w (mkI nb ib cb (S0 ++ s :: S2) (K0 ++ [mkI lb lib lcb LS LK, mkI rb rib rcb RS RK] ++ K2))) (hnd : (foot (h + 2) (mkI nb ib cb (S0 ++ s :: S2) (K0 ++ [mkI lb lib lcb LS LK, mkI rb rib rcb RS RK] ++ K2))).Nodup) (hlen : (K0 ++ [mkI lb lib lcb LS LK, mkI rb rib rcb RS RK] ++ K2).length = (S0 ++ s :: S2).length + 1) (hl : S0.length = K0.length) (hLS : LS.length + 1 = LK.length) (hRS : RS.length + 1 = RK.length) (hLR : LK.length + RK.length ≤ 64) {i : Nat} (hi : i = K0.length) :
    Calls Try.prog 45 #[tv, .pointer (some ⟨nb, 0, none⟩), .int .i64 (i : Int)] w fun e w' => e = .returned (.tuple #[]) ∧ Fl (h + 1) nb ib cb (S0 ++ s :: S2) (S0 ++ S2) (K0 ++ [mkI lb lib lcb LS LK, mkI rb rib rcb RS RK] ++ K2) (K0 ++ [mkI lb lib lcb (LS ++ s :: RS) (LK ++ RK)] ++ K2) w w' := by
  obtain ⟨restS, restK, r1, r2, r3, r4, rk⟩ := mkI_parts hr
  obtain ⟨restA, restA', p1', p2, p3, p4, p5⟩ := mkI_parts (rk (mkI lb lib lcb LS LK) (by simp))
  obtain ⟨restB, restB', q1, q2, q3, q4, q5⟩ := mkI_parts (rk (mkI rb rib rcb RS RK) (by simp))
  obtain ⟨⟨m1, m2, m3, m4, m5, m6, m7, m8, m9⟩, mnd, mg⟩ := pair_ne hnd
  simp only [List.length_append, List.length_cons, List.length_nil] at hlen r1 r2 r3 p1' p2 p3 q1 q2 q3
  have hN : NodeR w nb ib cb (S0.length + (S2.length + 1)) (K0.length + 2 + K2.length) (S0.map It.ptr ++ s.ptr :: S2.map It.ptr ++ restS) (K0.map (nodeV (h + 1)) ++ .pointer (some ⟨lb, 0, none⟩) :: .pointer (some ⟨rb, 0, none⟩) :: K2.map (nodeV (h + 1)) ++ restK) := r1.cast (by omega) (by omega) (by simp) (by simp [mkI_node])
  obtain ⟨p0, restA2, rfl, ha2⟩ := cons_of_len (l := restA) (n := 62 - LS.length) (by omega)
  obtain ⟨R1, R2, hR12, hR1⟩ : ∃ R1 R2, restA2 = R1 ++ R2 ∧ RS.length = R1.length := ⟨restA2.take RS.length, restA2.drop RS.length, (List.take_append_drop _ _).symm, by simp; omega⟩
  obtain ⟨V1, V2, hV12, hV1⟩ : ∃ V1 V2, restA' = V1 ++ V2 ∧ RK.length = V1.length := ⟨restA'.take RK.length, restA'.drop RK.length, (List.take_append_drop _ _).symm, by simp; omega⟩
  subst hR12 hV12
  simp only [List.length_append, List.length_cons] at p2 p3 ha2
  refine (merge_inner (tv := tv) (i := i) (nl := LS.length) (ml := LK.length) (nr := RS.length) (mr := RK.length) (S1 := S0.map It.ptr) (sv := some ⟨s.p, 0, none⟩) (S2 := S2.map It.ptr) (rS := restS) (K1 := K0.map (nodeV (h + 1))) (K2 := K2.map (nodeV (h + 1))) (rK := restK) (P := LS.map It.ptr) (p0 := p0) (R1 := R1) (R2 := R2) (KP := LK.map (nodeV h)) (V1 := V1) (V2 := V2) (Q := RS.map It.ptr) (T := restB) (KQ := RK.map (nodeV h)) (U := restB') hN (p1'.cast rfl rfl (by simp) (by simp)) q1 (by simp <;> omega) (by omega) (by simp) (by omega) (by simp <;> omega) (by simp <;> omega) (by simp) (by simp) (by simp <;> omega) (by omega) (by omega) (by simp) (by simp) (by simp <;> omega) (by omega) (by omega) (ptrs_one _) (nodes_one _) (ptrs_one _) (nodes_one _) m1 m2 m3 m4 m5 m6 m7 m8 m9).mono ?_
  rintro e w' ⟨rfl, o1, o2, o3, kp⟩
  have kk : Kep (fun b => (b = nb ∨ b = ib ∨ b = cb) ∨ b ∈ [mkI lb lib lcb LS LK, mkI rb rib rcb RS RK].flatMap (foot (h + 1))) w w' := kp.mono fun b _ hb => by
    simp only [List.flatMap_cons, List.flatMap_nil, mkI_foot, List.append_nil, List.cons_append, List.nil_append, List.mem_cons, List.mem_append]
    clear hr hnd r1 r2 r3 r4 rk p1' p2 p3 p4 p5 q1 q2 q3 q4 q5 hN o1 o2 o3 kp mg mnd
    grind
  have htt : TT w (fun b => (b = nb ∨ b = ib ∨ b = cb) ∨ b ∈ [mkI lb lib lcb LS LK, mkI rb rib rcb RS RK].flatMap (foot (h + 1))) := hr.tt.mono fun b hb => by
    rw [mkI_foot, List.flatMap_append, List.flatMap_append]
    simp only [List.mem_cons, List.mem_append]
    grind
  have htt2 := htt.mono (N := fun k => k = nb ∨ k = ib ∨ k = cb ∨ k = lb ∨ k = lib ∨ k = lcb) (fun b hb => by
    simp only [List.flatMap_cons, List.flatMap_nil, mkI_foot, List.append_nil, List.cons_append, List.nil_append, List.mem_cons, List.mem_append]
    clear hr hnd r1 r2 r3 r4 rk p1' p2 p3 p4 p5 q1 q2 q3 q4 q5 hN o1 o2 o3 kp mg mnd kk htt
    grind)
  have gk : ∀ g, g ∈ LK ∨ g ∈ RK → Rep h w' g := fun g hg => by
    refine Rep.kep (hg.elim (fun hg => p5 g hg) (fun hg => q5 g hg)) kp htt2 fun b hb hm => ?_
    have := mg b (hg.imp (fun hg => List.mem_flatMap.2 ⟨g, hg, hb⟩) (fun hg => List.mem_flatMap.2 ⟨g, hg, hb⟩))
    clear hr hnd r1 r2 r3 r4 rk p1' p2 p3 p4 p5 q1 q2 q3 q4 q5 hN o1 o2 o3 kp mg mnd kk htt htt2
    grind
  refine ⟨rfl, kids_fil (restS := (.pointer none :: restS)) (restK := (.pointer none :: restK)) hr hnd (S' := S0 ++ S2) (Y := [mkI lb lib lcb (LS ++ s :: RS) (LK ++ RK)]) (o1.cast (by simp <;> omega) (by simp <;> omega) (by simp [It.ptr]) (by simp [mkI_node])) (by simp <;> omega) (by simp <;> omega) kk (fun z hz => ?_) (fun d hd => ?_) ?_ (fun b hb => ?_)⟩
  · simp only [List.mem_append] at hz
    exact r4 z (by simp only [List.mem_append, List.mem_cons]; grind)
  · simp only [List.mem_cons, List.not_mem_nil, or_false] at hd
    subst hd
    refine o2.rep (rest := R2) (rest' := V2) (by simp <;> omega) (by simp) (by simp [It.ptr]) (by simp) (by simp <;> omega) (by simp <;> omega) (fun z hz => ?_) (fun g hg => gk g (List.mem_append.1 hg))
    simp only [List.mem_append, List.mem_cons] at hz
    rcases hz with hz | rfl | hz
    · exact (p4 z hz).kep kk htt
    · exact (r4 z (by simp)).kep kk htt
    · exact (q4 z hz).kep kk htt
  · clear hr hnd r1 r2 r3 r4 rk p1' p2 p3 p4 p5 q1 q2 q3 q4 q5 hN o1 o2 o3 kp kk htt htt2 gk mg
    simp only [List.flatMap_cons, List.flatMap_nil, mkI_foot, List.append_nil, List.flatMap_append, List.cons_append, List.nil_append, List.append_assoc, List.nodup_cons, List.nodup_append, List.mem_cons, List.mem_append, not_or, forall_eq_or_imp, List.not_mem_nil, or_false] at mnd ⊢
    generalize List.flatMap (foot h) LK = G0 at *
    generalize List.flatMap (foot h) RK = G1 at *
    grind
  · clear hr hnd r1 r2 r3 r4 rk p1' p2 p3 p4 p5 q1 q2 q3 q4 q5 hN o1 o2 o3 kp kk htt htt2 gk mg mnd
    simp only [List.flatMap_cons, List.flatMap_nil, mkI_foot, List.append_nil, List.flatMap_append, List.cons_append, List.nil_append, List.append_assoc, List.mem_cons, List.mem_append, List.not_mem_nil, or_false] at hb ⊢
    grind
end Go.Proofs.Qxb6615764a
