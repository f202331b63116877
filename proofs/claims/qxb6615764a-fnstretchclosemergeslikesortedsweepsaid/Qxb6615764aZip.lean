/-
  Trees: a child between its separators; what a change below does to the tree. No walk here.
-/
import Derived.Test.Qxb6615764aSplitR
import Derived.Test.Qxb6615764aPlain
namespace Go.Proofs.Qxb6615764a
open Go.RowKit
set_option linter.unusedVariables false
set_option linter.unusedSectionVars false
variable [Bd]

def ChainL {α : Type} (I : α → Option Key → Option Key → Prop) : List It → List α → Option Key → Option Key → Prop
  | [], ks, lo, a => ks = [] ∧ a = lo
  | s :: ss, ks, lo, a => ∃ k ks', ks = k :: ks' ∧ I k lo (some s.k) ∧ ChainL I ss ks' (some s.k) a
def ChainR {α : Type} (I : α → Option Key → Option Key → Prop) : List It → List α → Option Key → Option Key → Prop
  | [], ks, b, hi => ks = [] ∧ b = hi
  | s :: ss, ks, b, hi => b = some s.k ∧ Chain I ss ks (some s.k) hi
theorem Chain.zip {α : Type} {I : α → Option Key → Option Key → Prop} {S2 : List It} {X : List α} {hi : Option Key} : ∀ {S1 : List It} {K1 : List α} {lo : Option Key}, Chain I (S1 ++ S2) (K1 ++ X) lo hi → S1.length = K1.length → ∃ a, ChainL I S1 K1 lo a ∧ Chain I S2 X a hi
  | [], [], lo, h, _ => ⟨lo, ⟨rfl, rfl⟩, h⟩
  | s :: S1, k :: K1, lo, h, hl => by
    obtain ⟨k', ks', e, h1, h2⟩ := h
    injection e with e1 e2
    subst e1 e2
    obtain ⟨a, ha, hc⟩ := Chain.zip h2 (by simpa using hl)
    exact ⟨a, ⟨k, K1, rfl, h1, ha⟩, hc⟩
theorem ChainL.chain {α : Type} {I : α → Option Key → Option Key → Prop} {S2 : List It} {X : List α} {a hi : Option Key} (h2 : Chain I S2 X a hi) : ∀ {S1 : List It} {K1 : List α} {lo : Option Key}, ChainL I S1 K1 lo a → Chain I (S1 ++ S2) (K1 ++ X) lo hi
  | [], K1, lo, ⟨e1, e2⟩ => by subst e1 e2; exact h2
  | s :: S1, K1, lo, ⟨k, ks', e, h1, h3⟩ => by subst e; exact ⟨k, ks' ++ X, rfl, h1, ChainL.chain h2 h3⟩
theorem Chain.head {α : Type} {I : α → Option Key → Option Key → Prop} {S2 : List It} {c : α} {K2 : List α} {a hi : Option Key} (h : Chain I S2 (c :: K2) a hi) : ∃ b, I c a b ∧ ChainR I S2 K2 b hi := by
  cases S2 with
  | nil => obtain ⟨k, e, hk⟩ := h; injection e with e1 e2; subst e1 e2; exact ⟨hi, hk, rfl, rfl⟩
  | cons s ss => obtain ⟨k, ks', e, h1, h2⟩ := h; injection e with e1 e2; subst e1 e2; exact ⟨some s.k, h1, rfl, h2⟩
theorem ChainR.chain {α : Type} {I : α → Option Key → Option Key → Prop} {S2 : List It} {c : α} {K2 : List α} {a b hi : Option Key} (h1 : I c a b) (h : ChainR I S2 K2 b hi) : Chain I S2 (c :: K2) a hi := by
  cases S2 with
  | nil => obtain ⟨e1, e2⟩ := h; subst e1 e2; exact ⟨c, rfl, h1⟩
  | cons s ss => obtain ⟨e1, h2⟩ := h; subst e1; exact ⟨c, K2, rfl, h1, h2⟩
/-- A child between its separators. -/
theorem Chain.at {α : Type} {I : α → Option Key → Option Key → Prop} {S1 S2 : List It} {K1 K2 : List α} {c : α} {lo hi : Option Key} (h : Chain I (S1 ++ S2) (K1 ++ [c] ++ K2) lo hi) (hl : S1.length = K1.length) : ∃ a b, ChainL I S1 K1 lo a ∧ I c a b ∧ ChainR I S2 K2 b hi := by
  rw [List.append_assoc] at h
  obtain ⟨a, h1, h2⟩ := h.zip hl
  obtain ⟨b, h3, h4⟩ := Chain.head h2
  exact ⟨a, b, h1, h3, h4⟩
theorem Chain.of {α : Type} {I : α → Option Key → Option Key → Prop} {S1 S2 : List It} {K1 K2 : List α} {c : α} {lo hi a b : Option Key} (h1 : ChainL I S1 K1 lo a) (h2 : I c a b) (h3 : ChainR I S2 K2 b hi) : Chain I (S1 ++ S2) (K1 ++ [c] ++ K2) lo hi := by
  rw [List.append_assoc]; exact h1.chain (ChainR.chain h2 h3)
theorem Chain.of2 {α : Type} {I : α → Option Key → Option Key → Prop} {S1 S2 : List It} {K1 K2 : List α} {c d : α} {s : It} {lo hi a b : Option Key} (h1 : ChainL I S1 K1 lo a) (h2 : I c a (some s.k)) (h2' : I d (some s.k) b) (h3 : ChainR I S2 K2 b hi) : Chain I (S1 ++ s :: S2) (K1 ++ [c, d] ++ K2) lo hi := by
  rw [List.append_assoc]; exact h1.chain (ChainR.chain (S2 := s :: S2) h2 ⟨rfl, ChainR.chain h2' h3⟩)
theorem Chain.at2 {α : Type} {I : α → Option Key → Option Key → Prop} {S1 S2 : List It} {K1 K2 : List α} {c d : α} {s : It} {lo hi : Option Key} (h : Chain I (S1 ++ s :: S2) (K1 ++ [c, d] ++ K2) lo hi) (hl : S1.length = K1.length) : ∃ a b, ChainL I S1 K1 lo a ∧ I c a (some s.k) ∧ I d (some s.k) b ∧ ChainR I S2 K2 b hi := by
  rw [List.append_assoc] at h
  obtain ⟨a, h1, h2⟩ := h.zip hl
  obtain ⟨k, ks, e, h3, h4⟩ := h2
  injection e with e1 e2
  subst e1 e2
  obtain ⟨b, h5, h6⟩ := Chain.head h4
  exact ⟨a, b, h1, h3, h5, h6⟩
theorem ChainL.bound {α : Type} {I : α → Option Key → Option Key → Prop} {x : Key} : ∀ {S1 : List It} {K1 : List α} {lo a : Option Key}, ChainL I S1 K1 lo a → geL lo x → (∀ s ∈ S1, s.k ≤ x) → geL a x
  | [], _, _, _, ⟨_, e⟩, h, _ => by subst e; exact h
  | s :: ss, _, _, _, ⟨k, ks', e, h1, h2⟩, h, hs => ChainL.bound h2 (hs s (by simp)) (fun y hy => hs y (by simp [hy]))
theorem ChainR.bound {α : Type} {I : α → Option Key → Option Key → Prop} {x : Key} {S2 : List It} {K2 : List α} {b hi : Option Key} (h : ChainR I S2 K2 b hi) (hh : ltH x hi) (hs : ∀ s ∈ S2, x < s.k) : ltH x b := by
  cases S2 with
  | nil => obtain ⟨_, e⟩ := h; subst e; exact hh
  | cons s ss => obtain ⟨e, _⟩ := h; subst e; exact hs s (by simp)

/-- Keys of a tree lie in its bounds, in order. -/
theorem Inv.elems : ∀ {h : Nat} {t : Tr h} {lo hi : Option Key}, Inv h t lo hi → (elems h t).Pairwise (fun a b => a.k < b.k) ∧ ∀ x ∈ elems h t, geL lo x.k ∧ ltH x.k hi
  | 0, t, lo, hi, hv => hv.2
  | h + 1, t, lo, hi, hv => by
    have key : ∀ {ss : List It} {ks : List (Tr h)} {lo hi : Option Key}, Chain (Inv h) ss ks lo hi → (ks.flatMap (Go.Proofs.Qxb6615764a.elems h)).Pairwise (fun a b => a.k < b.k) ∧ ∀ x ∈ ks.flatMap (Go.Proofs.Qxb6615764a.elems h), geL lo x.k ∧ ltH x.k hi := by
      intro ss
      induction ss with
      | nil =>
        rintro ks lo hi ⟨k, rfl, hk⟩
        simpa using Inv.elems hk
      | cons s ss ih =>
        rintro ks lo hi ⟨k, ks', rfl, hk, hc⟩
        have h1 := Inv.elems hk
        have h2 := ih hc
        have l1 := Inv.le hk
        have l2 := Chain.le (fun _ _ _ h => Inv.le h) hc
        rw [List.flatMap_cons]
        refine ⟨List.pairwise_append.2 ⟨h1.1, h2.1, fun a ha b hb => ?_⟩, fun x hx => ?_⟩
        · have := (h1.2 a ha).2
          have := (h2.2 b hb).1
          simp [ltH, geL] at *
          grind
        · rcases List.mem_append.1 hx with hx | hx
          · refine ⟨(h1.2 x hx).1, ?_⟩
            have := (h1.2 x hx).2
            cases hi with
            | none => trivial
            | some b => simp [ltH, leLH] at *; grind
          · refine ⟨?_, (h2.2 x hx).2⟩
            have := (h2.2 x hx).1
            cases lo with
            | none => trivial
            | some b => simp [geL, leLH] at *; grind
    exact key hv
/-! ### Changes -/
/-- t' in w' takes t's place: its items are those of mem. -/
structure Post (h : Nat) (t : Tr h) (mem : It → Prop) (m : Nat) (lo hi : Option Key) (w w' : World) (t' : Tr h) : Prop where
  rep : Rep h w' t'
  inv : Inv h t' lo hi
  ok : Ok h t' m
  mem : ∀ y, y ∈ elems h t' ↔ mem y
  nd : (foot h t').Nodup
  sub : ∀ b ∈ foot h t', b ∈ foot h t ∨ w.heap.size ≤ b
  nb : nbOf h t' = nbOf h t
  kep : Kep (fun b => b ∈ foot h t) w w'
theorem Post.refl {h : Nat} {t : Tr h} {m : Nat} {lo hi : Option Key} {w : World} (h1 : Rep h w t) (h2 : Inv h t lo hi) (h3 : Ok h t m) (h4 : (foot h t).Nodup) : Post h t (fun y => y ∈ elems h t) m lo hi w w t :=
  ⟨h1, h2, h3, fun _ => Iff.rfl, h4, fun _ h => .inl h, rfl, Kep.refl _ _⟩
theorem Post.trans {h : Nat} {t t2 t' : Tr h} {mem mem' : It → Prop} {m m' : Nat} {lo hi : Option Key} {w w2 w' : World} (s : Post h t mem m lo hi w w2 t2) (p : Post h t2 mem' m' lo hi w2 w' t') : Post h t mem' m' lo hi w w' t' := by
  refine ⟨p.rep, p.inv, p.ok, p.mem, p.nd, fun b hb => ?_, p.nb.trans s.nb, s.kep.trans p.kep fun b hb hm => ?_⟩
  · rcases p.sub b hb with h1 | h1
    · exact s.sub b h1
    · exact .inr (Nat.le_trans s.kep.size h1)
  · rcases s.sub b hm with h1 | h1
    · exact h1
    · omega
theorem Post.iff {h : Nat} {t t' : Tr h} {mem mem' : It → Prop} {m : Nat} {lo hi : Option Key} {w w' : World} (p : Post h t mem m lo hi w w' t') (hm : ∀ y, mem y ↔ mem' y) : Post h t mem' m lo hi w w' t' :=
  ⟨p.rep, p.inv, p.ok, fun y => (p.mem y).trans (hm y), p.nd, p.sub, p.nb, p.kep⟩
theorem mkI_eta {h : Nat} (t : Inner (Tr h)) : (t : Tr (h + 1)) = mkI t.nb t.ib t.cb t.seps t.kids := rfl
theorem mkI_parts {w : World} {h nb ib cb : Nat} {seps : List It} {kids : List (Tr h)} (hr : Rep (h + 1) w (mkI nb ib cb seps kids)) : ∃ rest rest', NodeR w nb ib cb seps.length kids.length (seps.map It.ptr ++ rest) (kids.map (nodeV h) ++ rest') ∧ seps.length + rest.length = 63 ∧ kids.length + rest'.length = 64 ∧ (∀ x ∈ seps, KR w x) ∧ ∀ c ∈ kids, Rep h w c := by
  obtain ⟨⟨r1, ⟨restS, r2, r2'⟩, ⟨restK, r3, r3'⟩, r4⟩, rk⟩ := hr
  exact ⟨restS, restK, ⟨r1, r2, r3⟩, r2', r3', r4, rk⟩
theorem mkI_ok {h nb ib cb m : Nat} {seps : List It} {kids : List (Tr h)} : Ok (h + 1) (mkI nb ib cb seps kids) m ↔ m ≤ kids.length ∧ 2 ≤ kids.length ∧ kids.length ≤ 64 ∧ ∀ c ∈ kids, Ok h c 32 := Iff.rfl
theorem mkI_inv {h nb ib cb : Nat} {seps : List It} {kids : List (Tr h)} {lo hi : Option Key} : Inv (h + 1) (mkI nb ib cb seps kids) lo hi ↔ Chain (Inv h) seps kids lo hi := Iff.rfl
theorem mkI_elems {h nb ib cb : Nat} {seps : List It} {kids : List (Tr h)} : elems (h + 1) (mkI nb ib cb seps kids) = kids.flatMap (elems h) := rfl
/-- A change below a child. -/
theorem Post.up {h nb ib cb m : Nat} {S1 S2 : List It} {K1 K2 : List (Tr h)} {c c' : Tr h} {mem : It → Prop} {lo hi a b : Option Key} {w w' : World}
    (hr : Rep (h + 1) w (mkI nb ib cb (S1 ++ S2) (K1 ++ [c] ++ K2))) (h1 : ChainL (Inv h) S1 K1 lo a) (h3 : ChainR (Inv h) S2 K2 b hi) (hok : Ok (h + 1) (mkI nb ib cb (S1 ++ S2) (K1 ++ [c] ++ K2)) m) (hnd : (foot (h + 1) (mkI nb ib cb (S1 ++ S2) (K1 ++ [c] ++ K2))).Nodup) (p : Post h c mem 32 a b w w' c') :
    Post (h + 1) (mkI nb ib cb (S1 ++ S2) (K1 ++ [c] ++ K2)) (fun y => y ∈ K1.flatMap (elems h) ∨ mem y ∨ y ∈ K2.flatMap (elems h)) m lo hi w w' (mkI nb ib cb (S1 ++ S2) (K1 ++ [c'] ++ K2)) := by
  have hlt := hr.lt
  have htt : TT w (fun b => b ∈ foot h c) := hr.tt.mono fun i hi => by
    rw [mkI_foot, List.flatMap_append, List.flatMap_append]; simp [hi]
  obtain ⟨restS, restK, r1, r2, r3, r4, rk⟩ := mkI_parts hr
  have hnd' : (nb :: ib :: cb :: (K1 ++ [c] ++ K2).flatMap (foot h)).Nodup := hnd
  have hmid := foot_mid hnd'
  simp only [List.flatMap_cons, List.flatMap_nil, List.append_nil] at hmid
  have hnode : nodeV h c' = nodeV h c := by unfold nodeV; rw [p.nb]
  have e : (K1 ++ [c'] ++ K2).length = (K1 ++ [c] ++ K2).length := by simp
  have e2 : (K1 ++ [c'] ++ K2).map (nodeV h) = (K1 ++ [c] ++ K2).map (nodeV h) := by simp [hnode]
  refine ⟨?_, Chain.of h1 p.inv h3, ?_, fun y => ?_, ?_, fun i hi => ?_, rfl, p.kep.mono fun i _ hi => ?_⟩
  · refine mkI_rep (rest := restS) (rest' := restK) ?_ r2 (by rw [e]; exact r3) (fun y hy => (r4 y hy).kep p.kep htt) (fun d hd => ?_)
    · rw [e, e2]; exact r1.kep p.kep hmid.2.2.2.1 hmid.2.2.2.2.1 hmid.2.2.2.2.2.1
    · simp only [List.mem_append, List.mem_singleton] at hd
      have out : d ∈ K1 ∨ d ∈ K2 → Rep h w' d := fun hd => by
        refine (rk d ?_).kep p.kep htt fun i hi hm => ?_
        · rcases hd with hd | hd <;> simp [hd]
        · have := (foot_apart hnd' hd hi).2.2.2
          simp at this; exact this hm
      rcases hd with (hd | rfl) | hd
      · exact out (.inl hd)
      · exact p.rep
      · exact out (.inr hd)
  · rw [mkI_ok] at hok ⊢
    rw [e]
    refine ⟨hok.1, hok.2.1, hok.2.2.1, fun d hd => ?_⟩
    simp only [List.mem_append, List.mem_singleton] at hd
    rcases hd with (hd | rfl) | hd
    · exact hok.2.2.2 d (by simp [hd])
    · exact p.ok
    · exact hok.2.2.2 d (by simp [hd])
  · rw [mkI_elems]
    simp only [List.flatMap_append, List.flatMap_cons, List.flatMap_nil, List.append_nil, List.mem_append, p.mem]
    grind
  · exact foot_replace (sz := w.heap.size) hnd' hlt (by simpa using p.nd) (fun i hi => by simpa using p.sub i (by simpa using hi))
  · rw [mkI_foot, List.flatMap_append, List.flatMap_append] at hi ⊢
    simp only [List.flatMap_cons, List.flatMap_nil, List.append_nil, List.mem_cons, List.mem_append] at hi ⊢
    have := p.sub i
    grind
  · rw [mkI_foot, List.flatMap_append, List.flatMap_append]; simp [hi]
end Go.Proofs.Qxb6615764a
