/-
  fill and merge on trees: the plain parts.
-/
import Derived.Test.Qxb6615764aFill
import Derived.Test.Qxb6615764aSet
namespace Go.Proofs.Qxb6615764a
open Go.RowKit
set_option linter.unusedVariables false
set_option linter.unusedSectionVars false
variable [Bd]

/-- Children that take others' place. -/
theorem kids_fil {h nb ib cb : Nat} {S S' : List It} {K0 X Y K2 : List (Tr h)} {restS restK : List Value} {w w' : World} (hr : Rep (h + 1) w (mkI nb ib cb S (K0 ++ X ++ K2))) (hnd : (foot (h + 1) (mkI nb ib cb S (K0 ++ X ++ K2))).Nodup)
    (hN : NodeR w' nb ib cb S'.length (K0 ++ Y ++ K2).length (S'.map It.ptr ++ restS) ((K0 ++ Y ++ K2).map (nodeV h) ++ restK)) (l1 : S'.length + restS.length = 63) (l2 : (K0 ++ Y ++ K2).length + restK.length = 64)
    (kep : Kep (fun b => (b = nb ∨ b = ib ∨ b = cb) ∨ b ∈ X.flatMap (foot h)) w w') (hS : ∀ s ∈ S', KR w s) (hY : ∀ d ∈ Y, Rep h w' d) (ndY : (Y.flatMap (foot h)).Nodup) (subY : ∀ b ∈ Y.flatMap (foot h), b ∈ X.flatMap (foot h) ∨ w.heap.size ≤ b) :
    Rep (h + 1) w' (mkI nb ib cb S' (K0 ++ Y ++ K2)) ∧ (foot (h + 1) (mkI nb ib cb S' (K0 ++ Y ++ K2))).Nodup ∧ (∀ b ∈ foot (h + 1) (mkI nb ib cb S' (K0 ++ Y ++ K2)), b ∈ foot (h + 1) (mkI nb ib cb S (K0 ++ X ++ K2)) ∨ w.heap.size ≤ b) ∧ Kep (fun b => b ∈ foot (h + 1) (mkI nb ib cb S (K0 ++ X ++ K2))) w w' := by
  have hlt := hr.lt
  have hsub : ∀ b, ((b = nb ∨ b = ib ∨ b = cb) ∨ b ∈ X.flatMap (foot h)) → b ∈ foot (h + 1) (mkI nb ib cb S (K0 ++ X ++ K2)) := fun b hb => by
    rw [mkI_foot, List.flatMap_append, List.flatMap_append]
    simp only [List.mem_cons, List.mem_append]
    grind
  have htt := hr.tt.mono hsub
  obtain ⟨_, _, _, _, _, _, rk⟩ := mkI_parts hr
  refine ⟨mkI_rep hN l1 l2 (fun x hx => (hS x hx).kep kep htt) (fun d hd => ?_), foot_replace (sz := w.heap.size) hnd hlt ndY subY, fun b hb => ?_, kep.mono fun b _ hb => hsub b hb⟩
  · have out : d ∈ K0 ∨ d ∈ K2 → Rep h w' d := fun hd => by
      refine (rk d ?_).kep kep htt fun i hi hm => ?_
      · rcases hd with hd | hd <;> simp [hd]
      · have := foot_apart hnd hd hi
        rcases hm with (e | e | e) | e
        · exact this.1 e
        · exact this.2.1 e
        · exact this.2.2.1 e
        · exact this.2.2.2 e
    simp only [List.mem_append] at hd
    rcases hd with (hd | hd) | hd
    · exact out (.inl hd)
    · exact hY d hd
    · exact out (.inr hd)
  · rw [mkI_foot, List.flatMap_append, List.flatMap_append] at hb ⊢
    have := subY b
    simp only [List.mem_cons, List.mem_append] at hb ⊢
    grind

theorem inv_ll {lb lib xb xib : Nat} {L I : List It} {y : It} {k : Key} {a b : Option Key} (h1 : Inv 0 (mkL lb lib (L ++ [y])) a (some k)) (h2 : Inv 0 (mkL xb xib I) (some k) b) : Inv 0 (mkL lb lib L) a (some y.k) ∧ Inv 0 (mkL xb xib (y :: I)) (some y.k) b ∧ y.k ≤ k := by
  obtain ⟨u1, u2, u3⟩ := h1
  obtain ⟨v1, v2, v3⟩ := h2
  have u2' : (L ++ [y]).Pairwise (fun a b => a.k < b.k) := u2
  have v2' : I.Pairwise (fun a b => a.k < b.k) := v2
  have u3' : ∀ x ∈ L ++ [y], geL a x.k ∧ ltH x.k (some k) := u3
  have v3' : ∀ x ∈ I, geL (some k) x.k ∧ ltH x.k b := v3
  have hy := u3' y (by simp)
  rw [List.pairwise_append] at u2'
  have yk : y.k < k := hy.2
  refine ⟨⟨?_, u2'.1, fun x hx => ⟨(u3' x (List.mem_append_left _ hx)).1, u2'.2.2 x hx y (by simp)⟩⟩, ⟨?_, List.pairwise_cons.2 ⟨fun x hx => ?_, v2'⟩, fun x hx => ?_⟩, by grind⟩
  · cases a with
    | none => trivial
    | some a => exact hy.1
  · cases b with
    | none => trivial
    | some b => have : k ≤ b := v1; show y.k ≤ b; grind
  · have : k ≤ x.k := (v3' x hx).1; grind
  · have hx' : x ∈ y :: I := hx
    rcases List.mem_cons.1 hx' with rfl | hx'
    · refine ⟨(by grind : x.k ≤ x.k), ?_⟩
      cases b with
      | none => trivial
      | some b => have : k ≤ b := v1; show x.k < b; grind
    · have h5 := v3' x hx'
      have : k ≤ x.k := h5.1
      exact ⟨(by grind : y.k ≤ x.k), h5.2⟩
theorem inv_rl {xb xib rb rib : Nat} {I P : List It} {p0 p1 : It} {k : Key} {a b : Option Key} (h1 : Inv 0 (mkL xb xib I) a (some k)) (h2 : Inv 0 (mkL rb rib (p0 :: p1 :: P)) (some k) b) : Inv 0 (mkL xb xib (I ++ [p0])) a (some p1.k) ∧ Inv 0 (mkL rb rib (p1 :: P)) (some p1.k) b ∧ k ≤ p1.k := by
  obtain ⟨u1, u2, u3⟩ := h1
  obtain ⟨v1, v2, v3⟩ := h2
  have u2' : I.Pairwise (fun a b => a.k < b.k) := u2
  have v2' : (p0 :: p1 :: P).Pairwise (fun a b => a.k < b.k) := v2
  have u3' : ∀ x ∈ I, geL a x.k ∧ ltH x.k (some k) := u3
  have v3' : ∀ x ∈ p0 :: p1 :: P, geL (some k) x.k ∧ ltH x.k b := v3
  have hp0 : k ≤ p0.k := (v3' p0 (by simp)).1
  have hp1 := v3' p1 (by simp)
  rw [List.pairwise_cons] at v2'
  have h01 : p0.k < p1.k := v2'.1 p1 (by simp)
  have hp := v2'.2
  rw [List.pairwise_cons] at hp
  refine ⟨⟨?_, List.pairwise_append.2 ⟨u2', List.pairwise_singleton _ _, fun x hx z hz => ?_⟩, fun x hx => ?_⟩, ⟨?_, v2'.2, fun x hx => ?_⟩, by grind⟩
  · cases a with
    | none => trivial
    | some a => have : a ≤ k := u1; show a ≤ p1.k; grind
  · simp at hz; subst hz
    have : x.k < k := (u3' x hx).2; grind
  · have hx' : x ∈ I ++ [p0] := hx
    rcases List.mem_append.1 hx' with hx' | hx'
    · have h5 := u3' x hx'
      have : x.k < k := h5.2
      exact ⟨h5.1, (by grind : x.k < p1.k)⟩
    · simp at hx'; subst hx'
      refine ⟨?_, h01⟩
      cases a with
      | none => trivial
      | some a => have : a ≤ k := u1; show a ≤ x.k; grind
  · cases b with
    | none => trivial
    | some b => have : p1.k < b := hp1.2; show p1.k ≤ b; grind
  · have hx' : x ∈ p1 :: P := hx
    have h5 := v3' x (List.mem_cons_of_mem _ hx')
    refine ⟨?_, h5.2⟩
    rcases List.mem_cons.1 hx' with rfl | hx'
    · exact (by grind : x.k ≤ x.k)
    · have := hp.1 x hx'; exact (by grind : p1.k ≤ x.k)
theorem inv_ml {lb lib rb rib : Nat} {I P : List It} {k : Key} {a b : Option Key} (h1 : Inv 0 (mkL lb lib I) a (some k)) (h2 : Inv 0 (mkL rb rib P) (some k) b) : Inv 0 (mkL lb lib (I ++ P)) a b := by
  obtain ⟨u1, u2, u3⟩ := h1
  obtain ⟨v1, v2, v3⟩ := h2
  have u3' : ∀ x ∈ I, geL a x.k ∧ ltH x.k (some k) := u3
  have v3' : ∀ x ∈ P, geL (some k) x.k ∧ ltH x.k b := v3
  refine ⟨u1.trans v1, List.pairwise_append.2 ⟨u2, v2, fun x hx z hz => ?_⟩, fun x hx => ?_⟩
  · have h3 : x.k < k := (u3' x hx).2
    have h4 : k ≤ z.k := (v3' z hz).1
    grind
  · have hx' : x ∈ I ++ P := hx
    rcases List.mem_append.1 hx' with hx' | hx'
    · have h3 := u3' x hx'
      refine ⟨h3.1, ?_⟩
      have h4 : x.k < k := h3.2
      cases b with
      | none => trivial
      | some b => have : k ≤ b := v1; show x.k < b; grind
    · have h3 := v3' x hx'
      refine ⟨?_, h3.2⟩
      have h4 : k ≤ x.k := h3.1
      cases a with
      | none => trivial
      | some a => have : a ≤ k := u1; show a ≤ x.k; grind
theorem inv_li {h : Nat} {LS CS : List It} {LK CK : List (Tr h)} {q s : It} {k : Tr h} {a b : Option Key} (h1 : Chain (Inv h) (LS ++ [q]) (LK ++ [k]) a (some s.k)) (h2 : Chain (Inv h) CS CK (some s.k) b) : Chain (Inv h) LS LK a (some q.k) ∧ Chain (Inv h) (s :: CS) (k :: CK) (some q.k) b ∧ q.k ≤ s.k := by
  have h3 : Chain (Inv h) (LS ++ q :: []) (LK ++ [k]) a (some s.k) := h1
  obtain ⟨K1, K2, e, c1, c2⟩ := Chain.split h3
  obtain ⟨k', rfl, hk'⟩ := c2
  obtain ⟨e1, e2⟩ := List.append_inj' e rfl
  subst e1
  injection e2 with e2
  subst e2
  exact ⟨c1, ⟨k, CK, rfl, hk', h2⟩, Inv.le hk'⟩
theorem inv_ri {h : Nat} {CS P : List It} {CK KP : List (Tr h)} {s p0 : It} {k0 : Tr h} {a b : Option Key} (h1 : Chain (Inv h) CS CK a (some s.k)) (h2 : Chain (Inv h) (p0 :: P) (k0 :: KP) (some s.k) b) : Chain (Inv h) (CS ++ [s]) (CK ++ [k0]) a (some p0.k) ∧ Chain (Inv h) P KP (some p0.k) b ∧ s.k ≤ p0.k := by
  obtain ⟨k', ks', e, hk, hc⟩ := h2
  injection e with e1 e2
  subst e1 e2
  exact ⟨Chain.join (S2 := []) ⟨k0, rfl, hk⟩ h1, hc, Inv.le hk⟩
end Go.Proofs.Qxb6615764a
