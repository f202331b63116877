/-
  split (40) on trees.
-/
import Derived.Test.Qxb6615764aSplit3
import Derived.Test.Qxb6615764aMem
namespace Go.Proofs.Qxb6615764a
open Go.RowKit
set_option linter.unusedVariables false
set_option linter.unusedSectionVars false
variable [Bd]

theorem foot_apart {α : Type} {F : α → List Nat} {a b c : Nat} {K1 X K2 : List α} (h : (a :: b :: c :: (K1 ++ X ++ K2).flatMap F).Nodup) {d : α} (hd : d ∈ K1 ∨ d ∈ K2) {i : Nat} (hi : i ∈ F d) : i ≠ a ∧ i ≠ b ∧ i ≠ c ∧ i ∉ X.flatMap F := by
  have hm : i ∈ K1.flatMap F ∨ i ∈ K2.flatMap F := hd.imp (fun h => List.mem_flatMap.2 ⟨d, h, hi⟩) (fun h => List.mem_flatMap.2 ⟨d, h, hi⟩)
  simp only [List.flatMap_append, List.nodup_cons, List.nodup_append, List.mem_cons, List.mem_append] at h
  generalize K1.flatMap F = A at *
  generalize K2.flatMap F = B at *
  generalize X.flatMap F = C at *
  grind
theorem foot_mid {α : Type} {F : α → List Nat} {a b c : Nat} {K1 X K2 : List α} (h : (a :: b :: c :: (K1 ++ X ++ K2).flatMap F).Nodup) : a ≠ b ∧ a ≠ c ∧ b ≠ c ∧ a ∉ X.flatMap F ∧ b ∉ X.flatMap F ∧ c ∉ X.flatMap F ∧ (X.flatMap F).Nodup := by
  simp only [List.flatMap_append, List.nodup_cons, List.nodup_append, List.mem_cons, List.mem_append] at h
  generalize K1.flatMap F = A at *
  generalize K2.flatMap F = B at *
  generalize X.flatMap F = C at *
  grind

/-- The parts of a full child. -/
structure SplitOf (h : Nat) (c : Tr h) (s : It) (c1 c2 : Tr h) : Prop where
  inv : ∀ lo hi, Inv h c lo hi → Inv h c1 lo (some s.k) ∧ Inv h c2 (some s.k) hi
  elems : elems h c = Go.Proofs.Qxb6615764a.elems h c1 ++ Go.Proofs.Qxb6615764a.elems h c2
  ok : ∀ m, Ok h c m → Ok h c1 32 ∧ Ok h c2 32
  size : sizeT h c1 = 32 ∧ sizeT h c2 = 32

/-- A leaf, an inner node, as trees. -/
def mkL (nb ib : Nat) (items : List It) : Tr 0 := (⟨nb, ib, items⟩ : Leaf)
def mkI {h : Nat} (nb ib cb : Nat) (seps : List It) (kids : List (Tr h)) : Tr (h + 1) := (⟨nb, ib, cb, seps, kids⟩ : Inner (Tr h))
theorem mkL_rep {w : World} {nb ib : Nat} {items : List It} {rest : List Value} (h1 : RowB w nb 62 [.slice (some ⟨ib, 0, none⟩) items.length 64, .slice none 0 0]) (h2 : RowB w ib 46 (items.map It.ptr ++ rest)) (h3 : items.length + rest.length = 64) (h4 : ∀ x ∈ items, KR w x) : Rep 0 w (mkL nb ib items) := ⟨h1, ⟨rest, h2, h3⟩, h4⟩
theorem mkI_rep {w : World} {h nb ib cb : Nat} {seps : List It} {kids : List (Tr h)} {rest rest' : List Value} (h1 : NodeR w nb ib cb seps.length kids.length (seps.map It.ptr ++ rest) (kids.map (nodeV h) ++ rest')) (h2 : seps.length + rest.length = 63) (h3 : kids.length + rest'.length = 64) (h4 : ∀ x ∈ seps, KR w x) (h5 : ∀ c ∈ kids, Rep h w c) : Rep (h + 1) w (mkI nb ib cb seps kids) := ⟨⟨h1.node, ⟨rest, h1.row, h2⟩, ⟨rest', h1.kid, h3⟩, h4⟩, h5⟩
theorem mkL_foot (nb ib : Nat) (items : List It) : foot 0 (mkL nb ib items) = [nb, ib] := rfl
theorem mkI_foot {h : Nat} (nb ib cb : Nat) (seps : List It) (kids : List (Tr h)) : foot (h + 1) (mkI nb ib cb seps kids) = nb :: ib :: cb :: kids.flatMap (foot h) := rfl
theorem mkL_node (nb ib : Nat) (items : List It) : nodeV 0 (mkL nb ib items) = .pointer (some ⟨nb, 0, none⟩) := rfl
theorem mkI_node {h : Nat} (nb ib cb : Nat) (seps : List It) (kids : List (Tr h)) : nodeV (h + 1) (mkI nb ib cb seps kids) = .pointer (some ⟨nb, 0, none⟩) := rfl

theorem splitOf_leaf {c : Leaf} {P Q : List It} {q : It} {rb rib : Nat} (hc : c.items = P ++ q :: Q) (hP : P.length = 32) (hQ : Q.length = 31) :
    SplitOf 0 c q (mkL c.nb c.ib P) (mkL rb rib (q :: Q)) := by
  refine ⟨fun lo hi hv => ?_, hc, fun m hm => ?_, hP, by show (q :: Q).length = 32; simp [hQ]⟩
  · obtain ⟨h1, h2, h3⟩ := hv
    rw [hc] at h2 h3
    rw [List.pairwise_append] at h2
    have hq := h3 q (by simp)
    refine ⟨⟨?_, h2.1, fun x hx => ⟨(h3 x (List.mem_append_left _ hx)).1, h2.2.2 x hx q (by simp)⟩⟩, ⟨?_, h2.2.1, fun x hx => ⟨?_, (h3 x (List.mem_append_right _ hx)).2⟩⟩⟩
    · cases lo with
      | none => trivial
      | some a => exact hq.1
    · cases hi with
      | none => trivial
      | some b => have := hq.2; simp [ltH] at this; simp [leLH]; grind
    · show q.k ≤ x.k
      rcases List.mem_cons.1 hx with rfl | hx
      · grind
      · have := (List.pairwise_cons.1 h2.2.1).1 x hx; grind
  · exact ⟨⟨by show 32 ≤ P.length; omega, by show P.length ≤ 64; omega⟩, ⟨by show 32 ≤ (q :: Q).length; simp [hQ], by show (q :: Q).length ≤ 64; simp [hQ]⟩⟩
theorem splitOf_inner {h : Nat} {c : Inner (Tr h)} {P Q : List It} {s : It} {KP KQ : List (Tr h)} {rb rib rcb : Nat} (hc : c.seps = P ++ s :: Q) (hk : c.kids = KP ++ KQ) (hP : P.length = 31) (hKP : KP.length = 32) (hKQ : KQ.length = 32) :
    SplitOf (h + 1) c s (mkI c.nb c.ib c.cb P KP) (mkI rb rib rcb Q KQ) := by
  refine ⟨fun lo hi hv => ?_, ?_, fun m hm => ?_, hKP, hKQ⟩
  · have hv' : Chain (Inv h) c.seps c.kids lo hi := hv
    rw [hc, hk] at hv'
    obtain ⟨K1, K2, e, h1, h2⟩ := Chain.split hv'
    have hl := h1.length
    obtain ⟨e1, e2⟩ := List.append_inj e (by omega)
    subst e1 e2
    exact ⟨h1, h2⟩
  · show c.kids.flatMap (elems h) = KP.flatMap (elems h) ++ KQ.flatMap (elems h)
    rw [hk, List.flatMap_append]
  · obtain ⟨_, _, _, hm⟩ := hm
    rw [hk] at hm
    exact ⟨⟨by show 32 ≤ KP.length; omega, by show 2 ≤ KP.length; omega, by show KP.length ≤ 64; omega, fun d hd => hm d (List.mem_append_left _ hd)⟩, ⟨by show 32 ≤ KQ.length; omega, by show 2 ≤ KQ.length; omega, by show KQ.length ≤ 64; omega, fun d hd => hm d (List.mem_append_right _ hd)⟩⟩

theorem split_list {α : Type} (l : List α) (n : Nat) (h : n < l.length) : ∃ P q Q, l = P ++ q :: Q ∧ P.length = n ∧ Q.length = l.length - n - 1 :=
  ⟨l.take n, l[n], l.drop (n + 1), by rw [List.getElem_cons_drop]; exact (List.take_append_drop n l).symm, by simp; omega, by simp; omega⟩
theorem cons_of_len {α : Type} {l : List α} {n : Nat} (h : l.length = n + 1) : ∃ a l', l = a :: l' ∧ l'.length = n := by
  cases l with
  | nil => simp at h
  | cons a l => exact ⟨a, l, rfl, by simpa using h⟩

set_option maxHeartbeats 1000000 in
theorem split_rep {h : Nat} {w : World} {tv : Value} {t : Inner (Tr h)} {S1 S2 : List It} {K1 K2 : List (Tr h)} {c : Tr h} (hr : Rep (h + 1) w t) (hs : t.seps = S1 ++ S2) (hk : t.kids = K1 ++ [c] ++ K2) (hl : S1.length = K1.length) (hsz : t.kids.length = t.seps.length + 1) (hroom : t.kids.length < 64)
    (hfull : sizeT h c = 64) (hinv : ∃ lo hi, Inv h c lo hi) (hnd : (foot (h + 1) t).Nodup) :
    Calls Try.prog 40 #[tv, .pointer (some ⟨t.nb, 0, none⟩), .int .i64 (K1.length : Int)] w fun e w' => e = .returned (.tuple #[]) ∧ ∃ s c1 c2, Rep (h + 1) w' (mkI t.nb t.ib t.cb (S1 ++ s :: S2) (K1 ++ [c1, c2] ++ K2)) ∧ SplitOf h c s c1 c2 ∧ ([c1, c2].flatMap (foot h)).Nodup ∧
      (∀ b ∈ [c1, c2].flatMap (foot h), b ∈ [c].flatMap (foot h) ∨ w.heap.size ≤ b) ∧ Kep (fun b => (b = t.nb ∨ b = t.ib ∨ b = t.cb) ∨ b ∈ [c].flatMap (foot h)) w w' := by
  obtain ⟨⟨r1, ⟨restS, r2, r2'⟩, ⟨restK, r3, r3'⟩, r4⟩, rk⟩ := hr
  have hnd' : (t.nb :: t.ib :: t.cb :: (K1 ++ [c] ++ K2).flatMap (foot h)).Nodup := by rw [← hk]; exact hnd
  have hdis := foot_mid hnd'
  have htt : TT w (fun b => b ∈ foot (h + 1) t) := Rep.tt (h := h + 1) (t := t) ⟨⟨r1, ⟨restS, r2, r2'⟩, ⟨restK, r3, r3'⟩, r4⟩, rk⟩
  have hMM : ∀ b, ((b = t.nb ∨ b = t.ib ∨ b = t.cb) ∨ b ∈ [c].flatMap (foot h)) → b ∈ foot (h + 1) t := by
    intro b hb
    show b ∈ t.nb :: t.ib :: t.cb :: t.kids.flatMap (foot h)
    rw [hk]
    simp only [List.flatMap_append, List.mem_cons, List.mem_append] at hb ⊢
    rcases hb with (rfl | rfl | rfl) | hb
    · exact .inl rfl
    · exact .inr (.inl rfl)
    · exact .inr (.inr (.inl rfl))
    · exact .inr (.inr (.inr (.inl (.inr hb))))
  have htt' := htt.mono hMM
  have hlenk : K1.length + 1 + K2.length = t.kids.length := by rw [hk]; simp; omega
  have hlens : S1.length + S2.length = t.seps.length := by rw [hs]; simp
  obtain ⟨s0, restS', rfl, hrs⟩ := cons_of_len (l := restS) (n := 62 - t.seps.length) (by omega)
  obtain ⟨k0, restK', rfl, hrk⟩ := cons_of_len (l := restK) (n := 63 - t.kids.length) (by omega)
  have r2a : RowB w t.ib 46 (S1.map It.ptr ++ S2.map It.ptr ++ s0 :: restS') := by rw [hs] at r2; simpa using r2
  have r3a : RowB w t.cb 55 (K1.map (nodeV h) ++ nodeV h c :: K2.map (nodeV h) ++ k0 :: restK') := by rw [hk] at r3; simpa using r3
  have hrc := rk c (by rw [hk]; simp)
  have fin : ∀ (w' : World) (s : It) (c1 c2 : Tr h), NodeR w' t.nb t.ib t.cb (t.seps.length + 1) (t.kids.length + 1) (S1.map It.ptr ++ s.ptr :: S2.map It.ptr ++ restS') (K1.map (nodeV h) ++ nodeV h c1 :: nodeV h c2 :: K2.map (nodeV h) ++ restK') →
      Kep (fun b => (b = t.nb ∨ b = t.ib ∨ b = t.cb) ∨ b ∈ [c].flatMap (foot h)) w w' → KR w' s → Rep h w' c1 → Rep h w' c2 → Rep (h + 1) w' (mkI t.nb t.ib t.cb (S1 ++ s :: S2) (K1 ++ [c1, c2] ++ K2)) := by
    intro w' s c1 c2 hN kk hS h1 h2
    have e1 : (S1 ++ s :: S2).length = t.seps.length + 1 := by simp; omega
    have e2 : (K1 ++ [c1, c2] ++ K2).length = t.kids.length + 1 := by simp; omega
    refine mkI_rep (rest := restS') (rest' := restK') ?_ (by rw [e1]; omega) (by rw [e2]; omega) ?_ ?_
    · rw [e1, e2]; simpa using hN
    · intro x hx
      simp only [List.mem_append, List.mem_cons] at hx
      rcases hx with hx | rfl | hx
      · exact (r4 x (by rw [hs]; simp [hx])).kep kk htt'
      · exact hS
      · exact (r4 x (by rw [hs]; simp [hx])).kep kk htt'
    · intro d hd
      have hout : d ∈ K1 ∨ d ∈ K2 → Rep h w' d := fun hd => by
        refine (rk d (by rw [hk]; simp; rcases hd with hd | hd <;> simp [hd])).kep kk htt' fun b hb hm => ?_
        have := foot_apart hnd' hd hb
        rcases hm with (e | e | e) | e
        · exact this.1 e
        · exact this.2.1 e
        · exact this.2.2.1 e
        · exact this.2.2.2 e
      simp only [List.mem_append, List.mem_cons, List.not_mem_nil, or_false] at hd
      rcases hd with (hd | rfl | rfl) | hd
      · exact hout (.inl hd)
      · exact h1
      · exact h2
      · exact hout (.inr hd)
  cases h with
  | zero =>
    obtain ⟨c1, ⟨rest, c2, c2'⟩, c3⟩ := hrc
    have hfull' : (Leaf.items c).length = 64 := hfull
    obtain ⟨P, q, Q, hPQ, hP, hQ⟩ := split_list (Leaf.items c) 32 (by omega)
    have hrest : rest = [] := by cases rest with | nil => rfl | cons a r => simp at c2'; omega
    subst hrest
    have hf : [c].flatMap (foot 0) = [Leaf.nb c, Leaf.ib c] := by simp [foot]
    rw [hf] at hdis htt' fin ⊢
    have hne : t.nb ≠ Leaf.nb c ∧ t.ib ≠ Leaf.ib c := by
      have := hdis.2.2.2
      simp only [List.mem_cons, List.not_mem_nil, or_false, not_or] at this
      exact ⟨this.1.1, this.2.1.2⟩
    have c1' : RowB w (Leaf.nb c) 62 [.slice (some ⟨Leaf.ib c, 0, none⟩) 64 64, .slice none 0 0] := by rw [hfull'] at c1; exact c1
    have c2a : RowB w (Leaf.ib c) 46 (P.map It.ptr ++ (q :: Q).map It.ptr) := by rw [hPQ] at c2; simpa using c2
    refine (split_leaf (tv := tv) (i := K1.length) (S1 := S1.map It.ptr) (S2 := S2.map It.ptr) (K1 := K1.map (nodeV 0)) (K2 := K2.map (nodeV 0)) (P := P.map It.ptr) (Q := (q :: Q).map It.ptr) r1 r2a (by simp; omega) (by omega) r3a (by simp; omega) (by omega) (by simp) (by simp; omega) c1' c2a (by simp [hP]) (by simp; omega) (ptrs_one _) (nodes_one _) (fun u hu => ?_) hne.1 hne.2).mono ?_
    · obtain ⟨x, _, rfl⟩ := List.mem_map.1 hu; exact ⟨_, rfl⟩
    · rintro e w' ⟨rfl, ⟨q0, Q', hq0, o1⟩, o2, o3, o4, ⟨rb, rib, b1, b2, b3, o5, o6, restR, o7, o7'⟩, o8⟩
      simp only [List.map_cons, List.cons.injEq] at hq0
      obtain ⟨rfl, rfl⟩ := hq0
      have kk : Kep (fun b => (b = t.nb ∨ b = t.ib ∨ b = t.cb) ∨ b ∈ [Leaf.nb c, Leaf.ib c]) w w' := o8.mono fun b _ hb => by
        rcases hb with hb | hb | hb | hb | hb
        · exact .inl (.inl hb)
        · exact .inl (.inr (.inl hb))
        · exact .inl (.inr (.inr hb))
        · exact .inr (by rw [hb]; exact List.mem_cons_self)
        · exact .inr (by rw [hb]; simp)
      have lt1 := c1.lt
      have lt2 := c2.lt
      have hkr : ∀ x ∈ P ++ q :: Q, KR w' x := fun x hx => (c3 x (by rw [hPQ]; exact hx)).kep kk htt'
      have hr1 : Rep 0 w' (mkL (Leaf.nb c) (Leaf.ib c) P) := mkL_rep (rest := nils 32) (by rw [hP]; exact o3) o4 (by simp [hP, nils]) (fun x hx => hkr x (by simp [hx]))
      have hr2 : Rep 0 w' (mkL rb rib (q :: Q)) := mkL_rep (rest := restR) (by have : (q :: Q).length = 32 := by simp; omega
                                                                               rw [this]; exact o6) o7 (by simp; omega) (fun x hx => hkr x (by simp at hx ⊢; exact .inr hx))
      refine ⟨rfl, q, mkL (Leaf.nb c) (Leaf.ib c) P, mkL rb rib (q :: Q), fin w' q _ _ ⟨o2, o1, o5⟩ kk (hkr q (by simp)) hr1 hr2, splitOf_leaf hPQ hP (by omega), ?_, ?_, kk⟩
      · have := hdis.2.2.2.2.2.2
        simp only [List.flatMap_cons, List.flatMap_nil, mkL_foot, List.append_nil]
        simp at this ⊢
        exact ⟨⟨this, by omega, by omega⟩, ⟨by omega, by omega⟩, b3⟩
      · intro b hb
        simp only [List.flatMap_cons, List.flatMap_nil, mkL_foot, List.append_nil] at hb ⊢
        simp at hb ⊢
        rcases hb with rfl | rfl | rfl | rfl
        · exact .inl (.inl rfl)
        · exact .inl (.inr rfl)
        · exact .inr b1
        · exact .inr b2
  | succ h =>
    obtain ⟨⟨c1, ⟨rest, c2, c2'⟩, ⟨rest', c3, c3'⟩, c4⟩, ck⟩ := hrc
    have hfull' : (Inner.kids c).length = 64 := hfull
    obtain ⟨lo, hi, hv⟩ := hinv
    have hsl : (Inner.kids c).length = (Inner.seps c).length + 1 := Chain.length hv
    obtain ⟨P, q, Q, hPQ, hP, hQ⟩ := split_list (Inner.seps c) 31 (by omega)
    obtain ⟨KP, KQ, hKK, hKP, hKQ⟩ : ∃ KP KQ, Inner.kids c = KP ++ KQ ∧ KP.length = 32 ∧ KQ.length = 32 := ⟨(Inner.kids c).take 32, (Inner.kids c).drop 32, (List.take_append_drop 32 _).symm, by simp; omega, by simp; omega⟩
    have hrest : rest = [] := by cases rest with | nil => rfl | cons a r => simp at c2'; omega
    have hrest' : rest' = [] := by cases rest' with | nil => rfl | cons a r => simp at c3'; omega
    subst hrest hrest'
    have hf : [c].flatMap (foot (h + 1)) = Inner.nb c :: Inner.ib c :: Inner.cb c :: (KP ++ KQ).flatMap (foot h) := by rw [← hKK]; simp [foot]
    rw [hf] at hdis htt' fin ⊢
    have hne : t.nb ≠ Inner.nb c ∧ t.ib ≠ Inner.ib c ∧ t.cb ≠ Inner.cb c := by
      have := hdis.2.2.2
      simp only [List.mem_cons, not_or] at this
      exact ⟨this.1.1, this.2.1.2.1, this.2.2.1.2.2.1⟩
    have hcN : NodeR w (Inner.nb c) (Inner.ib c) (Inner.cb c) 63 64 (P.map It.ptr ++ .pointer (some ⟨q.p, 0, none⟩) :: Q.map It.ptr) (KP.map (nodeV h) ++ KQ.map (nodeV h)) := by
      refine ⟨?_, ?_, ?_⟩
      · have e1 : (Inner.seps c).length = 63 := by omega
        rw [e1, hfull'] at c1; exact c1
      · rw [hPQ] at c2; simpa [It.ptr] using c2
      · rw [hKK] at c3; simpa using c3
    refine (split_inner (tv := tv) (i := K1.length) (S1 := S1.map It.ptr) (S2 := S2.map It.ptr) (K1 := K1.map (nodeV (h + 1))) (K2 := K2.map (nodeV (h + 1))) (restS := restS') (restK := restK') (s0 := s0) (k0 := k0) (P := P.map It.ptr) (Q := Q.map It.ptr) (KP := KP.map (nodeV h)) (KQ := KQ.map (nodeV h)) (lb := Inner.nb c) ⟨r1, r2a, r3a⟩ (by simp; omega) (by omega) (by simp; omega) (by omega) (by simp) (by simp; omega) hcN (by simp [hP]) (by simp; omega) (by simp [hKP]) (by simp [hKQ]) (ptrs_one _) (nodes_one _) (ptrs_one _) (nodes_one _) hne.1 hne.2.1 hne.2.2).mono ?_
    rintro e w' ⟨rfl, rb, rib, rcb, R1, R2, b1, b2, b3, b4, b5, b6, lR1, lR2, o1, o2, o3, o4⟩
    have kk : Kep (fun b => (b = t.nb ∨ b = t.ib ∨ b = t.cb) ∨ b ∈ Inner.nb c :: Inner.ib c :: Inner.cb c :: (KP ++ KQ).flatMap (foot h)) w w' := o4.mono fun b _ hb => by
      rcases hb with hb | hb | hb | hb | hb | hb
      · exact .inl (.inl hb)
      · exact .inl (.inr (.inl hb))
      · exact .inl (.inr (.inr hb))
      · exact .inr (by rw [hb]; exact List.mem_cons_self)
      · exact .inr (by rw [hb]; simp)
      · exact .inr (by rw [hb]; simp)
    have hkr : ∀ x ∈ P ++ q :: Q, KR w' x := fun x hx => (c4 x (by rw [hPQ]; exact hx)).kep kk htt'
    have ltk : ∀ b ∈ (KP ++ KQ).flatMap (foot h), b < w.heap.size := fun b hb => by
      obtain ⟨d, hd, hb⟩ := List.mem_flatMap.1 hb
      exact (ck d (by rw [hKK]; exact hd)).lt b hb
    have ndc := hdis.2.2.2.2.2.2
    have tt4 : TT w (fun k => k = t.nb ∨ k = t.ib ∨ k = t.cb ∨ k = Inner.nb c ∨ k = Inner.ib c ∨ k = Inner.cb c) := htt'.mono fun b hb => by
      rcases hb with hb | hb | hb | hb | hb | hb
      · exact .inl (.inl hb)
      · exact .inl (.inr (.inl hb))
      · exact .inl (.inr (.inr hb))
      · exact .inr (by rw [hb]; exact List.mem_cons_self)
      · exact .inr (by rw [hb]; simp)
      · exact .inr (by rw [hb]; simp)
    have hkid : ∀ d ∈ KP ++ KQ, Rep h w' d := fun d hd => by
      refine (ck d (by rw [hKK]; exact hd)).kep o4 tt4 fun b hb => ?_
      have hbm : b ∈ (KP ++ KQ).flatMap (foot h) := List.mem_flatMap.2 ⟨d, hd, hb⟩
      have h1 := hdis.2.2.2
      simp only [List.mem_cons, not_or, List.nodup_cons] at h1
      intro hm
      rcases hm with rfl | rfl | rfl | rfl | rfl | rfl
      · exact h1.1.2.2.2 hbm
      · exact h1.2.1.2.2.2 hbm
      · exact h1.2.2.1.2.2.2 hbm
      · exact h1.2.2.2.1.2.2 hbm
      · exact h1.2.2.2.2.1.2 hbm
      · exact h1.2.2.2.2.2.1 hbm
    have hr1 : Rep (h + 1) w' (mkI (Inner.nb c) (Inner.ib c) (Inner.cb c) P KP) := mkI_rep (rest := nils 32) (rest' := nils 32) (by rw [hP, hKP]; exact o2) (by simp [hP, nils]) (by simp [hKP, nils]) (fun x hx => hkr x (by simp [hx])) (fun d hd => hkid d (by simp [hd]))
    have hr2 : Rep (h + 1) w' (mkI rb rib rcb Q KQ) := mkI_rep (rest := R1) (rest' := R2) (by have : Q.length = 31 := by omega
                                                                                              rw [this, hKQ]; exact o3) (by omega) (by omega) (fun x hx => hkr x (by simp [hx])) (fun d hd => hkid d (by simp [hd]))
    refine ⟨rfl, q, mkI (Inner.nb c) (Inner.ib c) (Inner.cb c) P KP, mkI rb rib rcb Q KQ, fin w' q _ _ o1 kk (hkr q (by simp)) hr1 hr2, splitOf_inner hPQ hKK hP hKP hKQ, ?_, ?_, kk⟩
    · have ltn := c1.lt
      have lti := c2.lt
      have ltc := c3.lt
      simp only [List.flatMap_cons, List.flatMap_nil, mkI_foot, List.append_nil]
      simp only [List.flatMap_append, List.nodup_cons, List.nodup_append, List.mem_cons, List.mem_append, not_or] at ndc ltk ⊢
      generalize KP.flatMap (foot h) = A at *
      generalize KQ.flatMap (foot h) = B at *
      clear fin hkid hkr hr1 hr2 o1 o2 o3 o4 kk tt4 htt' htt hdis hMM c4 ck rk r4 hne hnd hnd'
      grind
    · intro b hb
      simp only [List.flatMap_cons, List.flatMap_nil, mkI_foot, List.append_nil, List.flatMap_append, List.mem_cons, List.mem_append] at hb ⊢
      rcases hb with (rfl | rfl | rfl | hb) | (rfl | rfl | rfl | hb)
      · exact .inl (.inl rfl)
      · exact .inl (.inr (.inl rfl))
      · exact .inl (.inr (.inr (.inl rfl)))
      · exact .inl (.inr (.inr (.inr (.inl hb))))
      · exact .inr b1
      · exact .inr b2
      · exact .inr b3
      · exact .inl (.inr (.inr (.inr (.inr hb))))
end Go.Proofs.Qxb6615764a
