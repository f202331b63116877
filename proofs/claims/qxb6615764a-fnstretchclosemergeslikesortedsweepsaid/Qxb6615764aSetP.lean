/-
  Set (30): its plain parts.
-/
import Derived.Test.Qxb6615764aZip
namespace Go.Proofs.Qxb6615764a
open Go.RowKit
set_option linter.unusedVariables false
set_option linter.unusedSectionVars false
variable [Bd]

/-- The node's own cells. -/
theorem Rep.nodeRow {h : Nat} {w : World} {t : Tr h} (hr : Rep h w t) (hi : ∃ lo hi, Inv h t lo hi) (hk : Ok h t 0) : ∃ ia n c ca m d, RowB w (nbOf h t) 62 [.slice ia n c, .slice ca m d] ∧ ((decide ((n : Int) = 64) || decide ((m : Int) = 64)) = decide (sizeT h t = 64)) := by
  cases h with
  | zero =>
    refine ⟨_, _, _, _, _, _, hr.node, ?_⟩
    show (decide (((Leaf.items t).length : Int) = 64) || decide (((0 : Nat) : Int) = 64)) = decide ((Leaf.items t).length = 64)
    have : (((Leaf.items t).length : Int) = 64) ↔ ((Leaf.items t).length = 64) := by omega
    simp [this]
  | succ h =>
    obtain ⟨lo, hi, hv⟩ := hi
    have hl : (Inner.kids t).length = (Inner.seps t).length + 1 := Chain.length hv
    have h64 : (Inner.kids t).length ≤ 64 := hk.2.2.1
    refine ⟨_, _, _, _, _, _, hr.1.node, ?_⟩
    show (decide (((Inner.seps t).length : Int) = 64) || decide (((Inner.kids t).length : Int) = 64)) = decide ((Inner.kids t).length = 64)
    have h1 : ¬ (((Inner.seps t).length : Int) = 64) := by omega
    have h2 : (((Inner.kids t).length : Int) = 64) ↔ ((Inner.kids t).length = 64) := by omega
    simp [h1, h2]

theorem split_post {h nb ib cb m mc : Nat} {S1 S2 : List It} {K1 K2 : List (Tr h)} {c c1 c2 : Tr h} {s : It} {lo hi a b : Option Key} {w w' : World}
    (hr : Rep (h + 1) w (mkI nb ib cb (S1 ++ S2) (K1 ++ [c] ++ K2))) (h1 : ChainL (Inv h) S1 K1 lo a) (h2 : Inv h c a b) (h3 : ChainR (Inv h) S2 K2 b hi) (hok : ∀ d, d ∈ K1 ∨ d ∈ K2 → Ok h d 32) (hc : Ok h c mc) (hroom : (K1 ++ [c] ++ K2).length < 64) (hm : m ≤ (K1 ++ [c] ++ K2).length + 1)
    (hnd : (foot (h + 1) (mkI nb ib cb (S1 ++ S2) (K1 ++ [c] ++ K2))).Nodup) (r : Rep (h + 1) w' (mkI nb ib cb (S1 ++ s :: S2) (K1 ++ [c1, c2] ++ K2))) (so : SplitOf h c s c1 c2) (nd : ([c1, c2].flatMap (foot h)).Nodup)
    (sub : ∀ b ∈ [c1, c2].flatMap (foot h), b ∈ [c].flatMap (foot h) ∨ w.heap.size ≤ b) (kep : Kep (fun b => (b = nb ∨ b = ib ∨ b = cb) ∨ b ∈ [c].flatMap (foot h)) w w') :
    Post (h + 1) (mkI nb ib cb (S1 ++ S2) (K1 ++ [c] ++ K2)) (fun y => y ∈ elems (h + 1) (mkI nb ib cb (S1 ++ S2) (K1 ++ [c] ++ K2))) m lo hi w w' (mkI nb ib cb (S1 ++ s :: S2) (K1 ++ [c1, c2] ++ K2)) := by
  obtain ⟨i1, i2⟩ := so.inv a b h2
  have hlt := hr.lt
  refine ⟨r, Chain.of2 h1 i1 i2 h3, ?_, fun y => ?_, foot_replace (sz := w.heap.size) hnd hlt nd sub, fun i hi => ?_, rfl, kep.mono fun i _ hi => ?_⟩
  · rw [mkI_ok]
    have e : (K1 ++ [c1, c2] ++ K2).length = (K1 ++ [c] ++ K2).length + 1 := by simp; omega
    rw [e]
    refine ⟨hm, by simp; omega, by omega, fun d hd => ?_⟩
    simp only [List.mem_append, List.mem_cons, List.not_mem_nil, or_false] at hd
    rcases hd with (hd | rfl | rfl) | hd
    · exact hok d (.inl hd)
    · exact (so.ok _ hc).1
    · exact (so.ok _ hc).2
    · exact hok d (.inr hd)
  · rw [mkI_elems, mkI_elems]
    simp only [List.flatMap_append, List.flatMap_cons, List.flatMap_nil, List.append_nil, List.mem_append, so.elems]
  · rw [mkI_foot, List.flatMap_append, List.flatMap_append] at hi ⊢
    have := sub i
    simp only [List.mem_cons, List.mem_append] at hi ⊢
    grind
  · rw [mkI_foot, List.flatMap_append, List.flatMap_append]
    simp only [List.mem_cons, List.mem_append]
    grind

theorem pairwise_insert {A B : List It} {x : It} (h : (A ++ B).Pairwise (fun a b => a.k < b.k)) (hA : ∀ y ∈ A, y.k < x.k) (hB : ∀ y ∈ B, x.k < y.k) : (A ++ x :: B).Pairwise (fun a b => a.k < b.k) := by
  rw [List.pairwise_append] at h ⊢
  refine ⟨h.1, List.pairwise_cons.2 ⟨hB, h.2.1⟩, fun a ha b hb => ?_⟩
  rcases List.mem_cons.1 hb with rfl | hb
  · exact hA a ha
  · exact h.2.2 a ha b hb
theorem leaf_post {nb ib m : Nat} {A B : List It} {x : It} {lo hi : Option Key} {w w' : World} (hi0 : Inv 0 (mkL nb ib (A ++ B)) lo hi) (hok : Ok 0 (mkL nb ib (A ++ B)) m) (hsz : (A ++ B).length < 64) (hA : ∀ y ∈ A, y.k < x.k) (hB : ∀ y ∈ B, x.k < y.k) (hlo : geL lo x.k) (hhi : ltH x.k hi)
    (hne : nb ≠ ib) (r : Rep 0 w' (mkL nb ib (A ++ x :: B))) (kep : Kep (fun b => b = nb ∨ b = ib) w w') : Post 0 (mkL nb ib (A ++ B)) (fun y => y ∈ elems 0 (mkL nb ib (A ++ B)) ∨ y = x) m lo hi w w' (mkL nb ib (A ++ x :: B)) := by
  obtain ⟨v1, v2, v3⟩ := hi0
  obtain ⟨o1, o2⟩ := hok
  have o1' : m ≤ (A ++ B).length := o1
  refine ⟨r, ⟨v1, pairwise_insert v2 hA hB, fun y hy => ?_⟩, ⟨?_, ?_⟩, fun y => ?_, ?_, fun i hi => .inl hi, rfl, kep.mono fun i _ hi => ?_⟩
  · have hy' : y ∈ A ++ x :: B := hy
    simp only [List.mem_append, List.mem_cons] at hy'
    rcases hy' with hy' | rfl | hy'
    · exact v3 y (List.mem_append_left _ hy')
    · exact ⟨hlo, hhi⟩
    · exact v3 y (List.mem_append_right _ hy')
  · show m ≤ (A ++ x :: B).length
    simp at o1' ⊢; omega
  · show (A ++ x :: B).length ≤ 64
    simp at hsz ⊢; omega
  · show y ∈ A ++ x :: B ↔ y ∈ A ++ B ∨ y = x
    simp only [List.mem_append, List.mem_cons]
    grind
  · rw [mkL_foot]; simp [hne]
  · rw [mkL_foot]; simp [hi]

/-- How many separators lie at or below x parts the children. -/
theorem Upper.zip {α : Type} {ss : List It} {ks : List α} {x : Key} {i : Nat} (h : Upper ss x i) (hl : ks.length = ss.length + 1) : ∃ S1 S2 K1 c K2, ss = S1 ++ S2 ∧ ks = K1 ++ [c] ++ K2 ∧ S1.length = i ∧ K1.length = i ∧ (∀ s ∈ S1, s.k ≤ x) ∧ ∀ s ∈ S2, x < s.k := by
  obtain ⟨h1, h2⟩ := h
  obtain ⟨K1, c, K2, e, hK, _⟩ := split_list ks i (by omega)
  refine ⟨ss.take i, ss.drop i, K1, c, K2, (List.take_append_drop i ss).symm, by rw [e]; simp, by simp; omega, hK, fun s hs => ?_, fun s hs => ?_⟩
  · obtain ⟨j, hj, rfl⟩ := List.mem_iff_getElem.1 hs
    have hj' : j < min i ss.length := by simpa using hj
    have := (h2 j (ss[j]'(by omega)) (by simp)).1 (by omega)
    simpa using this
  · obtain ⟨j, hj, rfl⟩ := List.mem_iff_getElem.1 hs
    simp at hj
    have := (h2 (i + j) (ss[i + j]'(by omega)) (by simp)).2 (by omega)
    simpa using this
theorem Lower.zip {ss : List It} {x : Key} {i : Nat} (h : Lower ss x i) : ∃ A B, ss = A ++ B ∧ A.length = i ∧ (∀ s ∈ A, s.k < x) ∧ ∀ s ∈ B, x ≤ s.k := by
  obtain ⟨h1, h2⟩ := h
  refine ⟨ss.take i, ss.drop i, (List.take_append_drop i ss).symm, by simp; omega, fun s hs => ?_, fun s hs => ?_⟩
  · obtain ⟨j, hj, rfl⟩ := List.mem_iff_getElem.1 hs
    have hj' : j < min i ss.length := by simpa using hj
    have := (h2 j (ss[j]'(by omega)) (by simp)).1 (by omega)
    simpa using this
  · obtain ⟨j, hj, rfl⟩ := List.mem_iff_getElem.1 hs
    simp at hj
    have := (h2 (i + j) (ss[i + j]'(by omega)) (by simp)).2 (by omega)
    simpa using this
end Go.Proofs.Qxb6615764a
