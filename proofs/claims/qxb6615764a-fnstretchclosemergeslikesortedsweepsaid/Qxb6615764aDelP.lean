/-
  Delete (28): the plain parts.
-/
import Derived.Test.Qxb6615764aFillT
import Derived.LaidEqlPtr
namespace Go.Proofs.Qxb6615764a
open Go.RowKit
set_option linter.unusedVariables false
set_option linter.unusedSectionVars false
variable [Bd]

theorem Try.size62 : (Try.prog.info? 62).map (·.size) = some 2 := by kernel_rfl
@[go_sem] theorem eql55_same (w : World) (a : Addr) : (binOp .eql 55 (.pointer (some a)) (.pointer (some a))).run Try.prog w = .ok (.bool true) w := by
  have h := Try.size62
  cases hj : Try.prog.info? 62 with
  | none => rw [hj] at h; cases h
  | some j => exact run_eql_ptr_same w a Try.underlying55 hj
theorem eql55_other {w : World} {a b : Nat} {x y : List Value} (ha : RowB w a 62 x) (hb : RowB w b 62 y) (hne : a ≠ b) : (binOp .eql 55 (.pointer (some ⟨a, 0, none⟩)) (.pointer (some ⟨b, 0, none⟩))).run Try.prog w = .ok (.bool false) w := by
  have h := Try.size62
  cases hj : Try.prog.info? 62 with
  | none => rw [hj] at h; cases h
  | some j =>
    rw [hj] at h
    simp at h
    exact run_eql_ptr_other w Try.underlying55 hj (by omega) (fun e => hne (by injection e)) ha hb
theorem ChainL.elems_lt {h : Nat} {S1 : List It} {K1 : List (Tr h)} {lo a : Option Key} (hc : ChainL (Inv h) S1 K1 lo a) (hl : S1.length = K1.length) : ∀ y ∈ K1.flatMap (elems h), ∃ ak, a = some ak ∧ y.k < ak := by
  intro y hy
  by_cases e : K1 = []
  · subst e; simp at hy
  · obtain ⟨K0, c, rfl, hK0⟩ := snoc_of_len (l := K1) (n := K1.length - 1) (by have := List.length_pos_iff.2 e; omega)
    obtain ⟨S0, s, rfl, hS0⟩ := snoc_of_len (l := S1) (n := S1.length - 1) (by simp at hl; omega)
    obtain ⟨a0, g1, g2, rfl⟩ := ChainL.unsnoc (by simpa using hl) hc
    have : Inv (h + 1) (mkI 0 0 0 S0 (K0 ++ [c])) lo (some s.k) := by
      have := ChainL.chain (S2 := []) (X := [c]) (a := a0) (hi := some s.k) ⟨c, rfl, g2⟩ g1
      rw [List.append_nil] at this
      exact this
    exact ⟨s.k, rfl, (this.elems.2 y hy).2⟩
theorem ChainR.elems_ge {h : Nat} {S2 : List It} {K2 : List (Tr h)} {b hi : Option Key} (hc : ChainR (Inv h) S2 K2 b hi) : ∀ y ∈ K2.flatMap (elems h), ∃ bk, b = some bk ∧ bk ≤ y.k := by
  intro y hy
  cases S2 with
  | nil => obtain ⟨e, _⟩ := hc; subst e; simp at hy
  | cons s ss =>
    obtain ⟨e, hc⟩ := hc
    subst e
    have : Inv (h + 1) (mkI 0 0 0 ss K2) (some s.k) hi := hc
    exact ⟨s.k, rfl, (this.elems.2 y hy).1⟩
/-- An item whose key lies in a child's bounds lies in that child. -/
theorem in_child {h : Nat} {S1 S2 : List It} {K1 K2 : List (Tr h)} {c : Tr h} {lo hi a b : Option Key} (c1 : ChainL (Inv h) S1 K1 lo a) (c3 : ChainR (Inv h) S2 K2 b hi) (hl : S1.length = K1.length) {x : It} (hx : geL a x.k ∧ ltH x.k b) (hm : x ∈ (K1 ++ [c] ++ K2).flatMap (elems h)) : x ∈ elems h c := by
  simp only [List.flatMap_append, List.flatMap_cons, List.flatMap_nil, List.append_nil, List.mem_append] at hm
  rcases hm with (hm | hm) | hm
  · obtain ⟨ak, rfl, hlt⟩ := c1.elems_lt hl x hm
    have : ak ≤ x.k := hx.1
    grind
  · exact hm
  · obtain ⟨bk, rfl, hge⟩ := c3.elems_ge x hm
    have : x.k < bk := hx.2
    grind
/-- .. and no other child holds that key. -/
theorem not_out {h : Nat} {S1 S2 : List It} {K1 K2 : List (Tr h)} {lo hi a b : Option Key} (c1 : ChainL (Inv h) S1 K1 lo a) (c3 : ChainR (Inv h) S2 K2 b hi) (hl : S1.length = K1.length) {k : Key} (hx : geL a k ∧ ltH k b) {y : It} (hm : y ∈ K1.flatMap (elems h) ∨ y ∈ K2.flatMap (elems h)) : y.k ≠ k := by
  rcases hm with hm | hm
  · obtain ⟨ak, rfl, hlt⟩ := c1.elems_lt hl y hm
    have : ak ≤ k := hx.1
    grind
  · obtain ⟨bk, rfl, hge⟩ := c3.elems_ge y hm
    have : k < bk := hx.2
    grind

/-- The one item of that key goes. -/
theorem leaf_del {nb ib m : Nat} {A B : List It} {x : It} {lo hi : Option Key} {w w' : World} (hi0 : Inv 0 (mkL nb ib (A ++ x :: B)) lo hi) (hok : Ok 0 (mkL nb ib (A ++ x :: B)) 0) (hm : m = 0 ∨ m + 1 ≤ (A ++ x :: B).length) (hne : nb ≠ ib) (r : Rep 0 w' (mkL nb ib (A ++ B))) (kep : Kep (fun b => b = nb ∨ b = ib) w w') :
    Post 0 (mkL nb ib (A ++ x :: B)) (fun y => y ∈ elems 0 (mkL nb ib (A ++ x :: B)) ∧ y.k ≠ x.k) m lo hi w w' (mkL nb ib (A ++ B)) := by
  obtain ⟨v1, v2, v3⟩ := hi0
  have v2' : (A ++ x :: B).Pairwise (fun a b => a.k < b.k) := v2
  have v3' : ∀ y ∈ A ++ x :: B, geL lo y.k ∧ ltH y.k hi := v3
  rw [mkL_ok] at hok
  have hp := v2'
  rw [List.pairwise_append] at hp
  have hpc := hp.2.1
  rw [List.pairwise_cons] at hpc
  simp at hok hm
  refine ⟨r, ⟨v1, List.pairwise_append.2 ⟨hp.1, hpc.2, fun a ha b hb => hp.2.2 a ha b (by simp [hb])⟩, fun y hy => ?_⟩, mkL_ok.2 ⟨by simp; omega, by simp; omega⟩, fun y => ?_, by rw [mkL_foot]; simp [hne], fun i hi => .inl hi, rfl, kep.mono fun i _ hi => by rw [mkL_foot]; simp [hi]⟩
  · have hy' : y ∈ A ++ B := hy
    refine v3' y ?_
    simp only [List.mem_append, List.mem_cons] at hy' ⊢
    grind
  · rw [mkL_elems, mkL_elems]
    simp only [List.mem_append, List.mem_cons]
    constructor
    · rintro (hy | hy)
      · have := hp.2.2 y hy x (by simp); exact ⟨.inl hy, by grind⟩
      · have := hpc.1 y hy; exact ⟨.inr (.inr hy), by grind⟩
    · rintro ⟨hy | rfl | hy, hne⟩
      · exact .inl hy
      · exact absurd rfl hne
      · exact .inr hy
theorem found_at {A B : List It} {x : It} : foundAt (A ++ x :: B) x.k A.length = true := by
  unfold foundAt; simp
theorem lower_at {A B : List It} {x : It} (hp : (A ++ x :: B).Pairwise (fun a b => a.k < b.k)) : Lower (A ++ x :: B) x.k A.length := by
  rw [List.pairwise_append] at hp
  have hpc := hp.2.1
  rw [List.pairwise_cons] at hpc
  refine ⟨by simp, fun q s hq => ⟨fun hlt => ?_, fun hle => ?_⟩⟩
  · rw [List.getElem?_append_left hlt] at hq
    exact hp.2.2 s (List.mem_of_getElem? hq) x (by simp)
  · rw [List.getElem?_append_right hle] at hq
    have := List.mem_of_getElem? hq
    rcases List.mem_cons.1 this with rfl | h
    · grind
    · have := hpc.1 s h; grind
/-- What fill did, as a change. -/
theorem fil_post {h nb ib cb m : Nat} {S S1 S2 : List It} {K K1 K2 : List (Tr h)} {c : Tr h} {lo hi a b : Option Key} {w w' : World} (r : Rep (h + 1) w' (mkI nb ib cb (S1 ++ S2) (K1 ++ [c] ++ K2))) (ch : ChainL (Inv h) S1 K1 lo a ∧ Inv h c a b ∧ ChainR (Inv h) S2 K2 b hi) (okc : Ok h c 33) (oks : ∀ d, d ∈ K1 ∨ d ∈ K2 → Ok h d 32) (len : (K1 ++ [c] ++ K2).length ≤ 64) (hm : m ≤ (K1 ++ [c] ++ K2).length) (h2 : 2 ≤ (K1 ++ [c] ++ K2).length)
    (mem : ∀ y, y ∈ (K1 ++ [c] ++ K2).flatMap (elems h) ↔ y ∈ K.flatMap (elems h)) (nd : (foot (h + 1) (mkI nb ib cb (S1 ++ S2) (K1 ++ [c] ++ K2))).Nodup) (sub : ∀ b ∈ foot (h + 1) (mkI nb ib cb (S1 ++ S2) (K1 ++ [c] ++ K2)), b ∈ foot (h + 1) (mkI nb ib cb S K) ∨ w.heap.size ≤ b) (kep : Kep (fun b => b ∈ foot (h + 1) (mkI nb ib cb S K)) w w') :
    Post (h + 1) (mkI nb ib cb S K) (fun y => y ∈ elems (h + 1) (mkI nb ib cb S K)) m lo hi w w' (mkI nb ib cb (S1 ++ S2) (K1 ++ [c] ++ K2)) := by
  refine ⟨r, mkI_inv.2 (Chain.of ch.1 ch.2.1 ch.2.2), mkI_ok.2 ⟨hm, h2, len, fun d hd => ?_⟩, fun y => by rw [mkI_elems, mkI_elems]; exact mem y, nd, sub, rfl, kep⟩
  simp only [List.mem_append, List.mem_singleton] at hd
  rcases hd with (hd | rfl) | hd
  · exact oks d (.inl hd)
  · exact ok_mono okc 32 (by have := (ok_size okc).1; omega)
  · exact oks d (.inr hd)

/-- What Delete leads to, the root at rb. -/
def DelGoal (tb : Nat) (H : Nat) (T : Tr H) (x : Key) (w : World) (rb : Nat) (w' : World) : Prop :=
  ∃ H' T', nbOf H' T' = rb ∧ Rep H' w' T' ∧ Inv H' T' none none ∧ Ok H' T' 0 ∧ (∀ y, y ∈ elems H' T' ↔ y ∈ elems H T ∧ y.k ≠ x) ∧ (foot H' T').Nodup ∧ (∀ b ∈ foot H' T', b ∈ foot H T ∨ w.heap.size ≤ b) ∧ Kep (fun b => b ∈ foot H T ∨ b = tb) w w'
/-- What the way down holds. -/
def DelInv (tb : Nat) (H : Nat) (T : Tr H) (x : It) (l : Int) (w : World) (k : Nat) (n : Value) (wr : World) : Prop :=
  ∃ (t : Tr k) (lo hi : Option Key) (m rb : Nat), n = .pointer (some ⟨nbOf k t, 0, none⟩) ∧ Rep k wr t ∧ Inv k t lo hi ∧ Ok k t 0 ∧ (m = 0 ∨ m + 1 ≤ sizeT k t) ∧ (geL lo x.k ∧ ltH x.k hi) ∧ (foot k t).Nodup ∧ x ∈ elems k t ∧ RowB wr tb 57 [.func (.func 23) #[] #[], .pointer (some ⟨rb, 0, none⟩), .int .i64 l] ∧ KR wr x ∧
    ((nbOf k t = rb ∧ m = 0 ∧ lo = none ∧ hi = none ∧ (∀ y, y ∈ elems k t ↔ y ∈ elems H T) ∧ (∀ b ∈ foot k t, b ∈ foot H T ∨ w.heap.size ≤ b) ∧ Kep (fun b => b ∈ foot H T ∨ b = tb) w wr) ∨
     (rb ∉ foot k t ∧ (∃ cur, RowB wr rb 62 cur) ∧ m = 32 ∧ ∀ w' t', Post k t (fun y => y ∈ elems k t ∧ y.k ≠ x.k) m lo hi wr w' t' → DelGoal tb H T x.k w rb w'))
theorem DelInv.root {tb H : Nat} {T : Tr H} {x : Key} {w wr : World} {k : Nat} {t : Tr k} (h1 : ∀ y, y ∈ elems k t ↔ y ∈ elems H T) (h2 : ∀ b ∈ foot k t, b ∈ foot H T ∨ w.heap.size ≤ b) (h3 : Kep (fun b => b ∈ foot H T ∨ b = tb) w wr) : ∀ w' t', Post k t (fun y => y ∈ elems k t ∧ y.k ≠ x) 0 none none wr w' t' → DelGoal tb H T x w (nbOf k t) w' := by
  intro w' t' p
  refine ⟨k, t', p.nb, p.rep, p.inv, p.ok, fun y => by rw [p.mem, h1], p.nd, fun b hb => ?_, h3.trans p.kep fun b hb hm => ?_⟩
  · rcases p.sub b hb with h | h
    · exact h2 b h
    · exact .inr (Nat.le_trans h3.size h)
  · rcases h2 b hm with h | h
    · exact .inl h
    · omega
/-- A child of a node with two children or more. -/
theorem del_child {h nb ib cb m : Nat} {S S1 S2 : List It} {K K1 K2 : List (Tr h)} {c : Tr h} {lo hi a b : Option Key} {w w2 : World} {x : It} {G : World → Prop} (P : Post (h + 1) (mkI nb ib cb S K) (fun y => y ∈ elems (h + 1) (mkI nb ib cb S K)) m lo hi w w2 (mkI nb ib cb (S1 ++ S2) (K1 ++ [c] ++ K2))) (c1 : ChainL (Inv h) S1 K1 lo a) (c3 : ChainR (Inv h) S2 K2 b hi) (hl : S1.length = K1.length) (hx : geL a x.k ∧ ltH x.k b)
    (cont : ∀ w' t', Post (h + 1) (mkI nb ib cb S K) (fun y => y ∈ elems (h + 1) (mkI nb ib cb S K) ∧ y.k ≠ x.k) m lo hi w w' t' → G w') : ∀ w' c', Post h c (fun y => y ∈ elems h c ∧ y.k ≠ x.k) 32 a b w2 w' c' → G w' := by
  intro w' c' p
  refine cont w' _ (P.trans ((Post.up P.rep c1 c3 P.ok P.nd p).iff fun y => ?_))
  have hmem := P.mem y
  rw [mkI_elems] at hmem
  rw [← hmem]
  simp only [List.flatMap_append, List.flatMap_cons, List.flatMap_nil, List.append_nil, List.mem_append]
  constructor
  · rintro (h1 | ⟨h1, h2⟩ | h1)
    · exact ⟨.inl (.inl h1), not_out c1 c3 hl hx (.inl h1)⟩
    · exact ⟨.inl (.inr h1), h2⟩
    · exact ⟨.inr h1, not_out c1 c3 hl hx (.inr h1)⟩
  · rintro ⟨(h1 | h1) | h1, h2⟩
    · exact .inl h1
    · exact .inr (.inl ⟨h1, h2⟩)
    · exact .inr (.inr h1)
end Go.Proofs.Qxb6615764a
