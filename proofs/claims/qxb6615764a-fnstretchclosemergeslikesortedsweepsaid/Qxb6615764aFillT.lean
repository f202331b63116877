/-
  fill (36) on trees, all ways.
-/
import Derived.Test.Qxb6615764aFillR
namespace Go.Proofs.Qxb6615764a
open Go.RowKit
set_option linter.unusedVariables false
set_option linter.unusedSectionVars false
set_option linter.unusedSimpArgs false
variable [Bd]

theorem snoc_of_len {α : Type} {l : List α} {n : Nat} (h : l.length = n + 1) : ∃ l' a, l = l' ++ [a] ∧ l'.length = n :=
  ⟨l.dropLast, l.getLast (by intro e; rw [e] at h; simp at h), (List.dropLast_concat_getLast _).symm, by simp [h]⟩
theorem mkL_ok {nb ib m : Nat} {items : List It} : Ok 0 (mkL nb ib items) m ↔ m ≤ items.length ∧ items.length ≤ 64 := Iff.rfl
theorem mkL_elems {nb ib : Nat} {items : List It} : elems 0 (mkL nb ib items) = items := rfl
theorem mkL_size {nb ib : Nat} {items : List It} : sizeT 0 (mkL nb ib items) = items.length := rfl
theorem mkI_size {h nb ib cb : Nat} {seps : List It} {kids : List (Tr h)} : sizeT (h + 1) (mkI nb ib cb seps kids) = kids.length := rfl

theorem shiftL {h nb ib cb : Nat} {S0 S2 : List It} {s : It} {K0 K2 : List (Tr h)} {l c : Tr h} {a b : Option Key} {w : World} {tv : Value} (hr : Rep (h + 1) w (mkI nb ib cb (S0 ++ s :: S2) (K0 ++ [l, c] ++ K2))) (hnd : (foot (h + 1) (mkI nb ib cb (S0 ++ s :: S2) (K0 ++ [l, c] ++ K2))).Nodup) (hlen : (K0 ++ [l, c] ++ K2).length = (S0 ++ s :: S2).length + 1) (hl : S0.length = K0.length)
    (i1 : Inv h l a (some s.k)) (i2 : Inv h c (some s.k) b) (o1 : Ok h l 32) (o2 : Ok h c 32) (z1 : 32 < sizeT h l) (z2 : sizeT h c ≤ 32) {i : Nat} (hi : i = K0.length + 1) :
    Calls Try.prog 36 #[tv, .pointer (some ⟨nb, 0, none⟩), .int .i64 (i : Int)] w fun e w' => e = .returned (.int .i64 (i : Int)) ∧ ∃ y l' c', Fl h nb ib cb (S0 ++ s :: S2) (S0 ++ y :: S2) (K0 ++ [l, c] ++ K2) (K0 ++ [l', c'] ++ K2) w w' ∧ (Inv h l' a (some y.k) ∧ Inv h c' (some y.k) b ∧ y.k ≤ s.k) ∧ (Ok h l' 32 ∧ Ok h c' 33) ∧ (∀ z, (z ∈ elems h l' ∨ z ∈ elems h c') ↔ (z ∈ elems h l ∨ z ∈ elems h c)) := by
  cases h with
  | zero =>
    obtain ⟨lb, lib, I1, rfl⟩ := Tr.leaf l
    obtain ⟨xb, xib, I, rfl⟩ := Tr.leaf c
    rw [mkL_ok] at o1 o2
    rw [mkL_size] at z1 z2
    obtain ⟨L, y, rfl, hL⟩ := snoc_of_len (l := I1) (n := I1.length - 1) (by omega)
    simp at z1 o1
    refine (lift_ll (tv := tv) hr hnd hlen hl (by omega) z2 hi).mono ?_
    rintro e w' ⟨rfl, f⟩
    have hv := inv_ll i1 i2
    refine ⟨rfl, y, _, _, f, hv, ⟨mkL_ok.2 ⟨by omega, by omega⟩, mkL_ok.2 ⟨by simp; omega, by simp; omega⟩⟩, fun z => ?_⟩
    simp only [mkL_elems, List.mem_append, List.mem_cons, List.not_mem_nil, or_false]
    grind
  | succ h =>
    obtain ⟨lb, lib, lcb, LS1, LK1, rfl⟩ := Tr.inner l
    obtain ⟨xb, xib, xcb, CS, CK, rfl⟩ := Tr.inner c
    rw [mkI_ok] at o1 o2
    rw [mkI_size] at z1 z2
    rw [mkI_inv] at i1 i2
    have n1 := i1.length
    have n2 := i2.length
    obtain ⟨LS, q, rfl, hLS⟩ := snoc_of_len (l := LS1) (n := LS1.length - 1) (by omega)
    obtain ⟨LK, k, rfl, hLK⟩ := snoc_of_len (l := LK1) (n := LK1.length - 1) (by omega)
    simp at z1 n1
    have o11 := o1.1
    have o13 := o1.2.2.1
    simp at o11 o13
    refine (lift_li (tv := tv) hr hnd hlen hl (by omega) (by omega) (by omega) z2 hi).mono ?_
    rintro e w' ⟨rfl, f⟩
    have hv := inv_li i1 i2
    refine ⟨rfl, q, _, _, f, hv, ⟨mkI_ok.2 ⟨by omega, by omega, by omega, fun d hd => o1.2.2.2 d (by simp [hd])⟩, mkI_ok.2 ⟨by simp; omega, by simp; omega, by simp; omega, fun d hd => ?_⟩⟩, fun z => ?_⟩
    · rcases List.mem_cons.1 hd with rfl | hd
      · exact o1.2.2.2 d (by simp)
      · exact o2.2.2.2 d hd
    · simp only [mkI_elems, List.flatMap_append, List.flatMap_cons, List.flatMap_nil, List.append_nil, List.mem_append]
      grind

theorem shiftR {h nb ib cb : Nat} {S0 S2 : List It} {s : It} {K0 K2 : List (Tr h)} {c r : Tr h} {a b : Option Key} {w : World} {tv : Value} (hr : Rep (h + 1) w (mkI nb ib cb (S0 ++ s :: S2) (K0 ++ [c, r] ++ K2))) (hnd : (foot (h + 1) (mkI nb ib cb (S0 ++ s :: S2) (K0 ++ [c, r] ++ K2))).Nodup) (hlen : (K0 ++ [c, r] ++ K2).length = (S0 ++ s :: S2).length + 1) (hl : S0.length = K0.length)
    (i1 : Inv h c a (some s.k)) (i2 : Inv h r (some s.k) b) (o1 : Ok h c 32) (o2 : Ok h r 32) (z1 : sizeT h c ≤ 32) (z2 : 32 < sizeT h r) (hls : LeftSmall K0) {i : Nat} (hi : i = K0.length) :
    Calls Try.prog 36 #[tv, .pointer (some ⟨nb, 0, none⟩), .int .i64 (i : Int)] w fun e w' => e = .returned (.int .i64 (i : Int)) ∧ ∃ y c' r', Fl h nb ib cb (S0 ++ s :: S2) (S0 ++ y :: S2) (K0 ++ [c, r] ++ K2) (K0 ++ [c', r'] ++ K2) w w' ∧ (Inv h c' a (some y.k) ∧ Inv h r' (some y.k) b ∧ s.k ≤ y.k) ∧ (Ok h c' 33 ∧ Ok h r' 32) ∧ (∀ z, (z ∈ elems h c' ∨ z ∈ elems h r') ↔ (z ∈ elems h c ∨ z ∈ elems h r)) := by
  cases h with
  | zero =>
    obtain ⟨xb, xib, I, rfl⟩ := Tr.leaf c
    obtain ⟨rb, rib, P1, rfl⟩ := Tr.leaf r
    rw [mkL_ok] at o1 o2
    rw [mkL_size] at z1 z2
    obtain ⟨p0, P2, rfl, hP2⟩ := cons_of_len (l := P1) (n := P1.length - 1) (by omega)
    simp at z2 o2
    obtain ⟨p1, P, rfl, hP⟩ := cons_of_len (l := P2) (n := P2.length - 1) (by omega)
    simp at z2 o2
    refine (lift_rl (tv := tv) hr hnd hlen hl (by omega) z1 hls hi).mono ?_
    rintro e w' ⟨rfl, f⟩
    have hv := inv_rl i1 i2
    refine ⟨rfl, p1, _, _, f, hv, ⟨mkL_ok.2 ⟨by simp; omega, by simp; omega⟩, mkL_ok.2 ⟨by simp; omega, by simp; omega⟩⟩, fun z => ?_⟩
    simp only [mkL_elems, List.mem_append, List.mem_cons, List.not_mem_nil, or_false]
    grind
  | succ h =>
    obtain ⟨xb, xib, xcb, CS, CK, rfl⟩ := Tr.inner c
    obtain ⟨rb, rib, rcb, P1, KP1, rfl⟩ := Tr.inner r
    rw [mkI_ok] at o1 o2
    rw [mkI_size] at z1 z2
    rw [mkI_inv] at i1 i2
    have n1 := i1.length
    have n2 := i2.length
    obtain ⟨p0, P, rfl, hP⟩ := cons_of_len (l := P1) (n := P1.length - 1) (by omega)
    obtain ⟨k0, KP, rfl, hKP⟩ := cons_of_len (l := KP1) (n := KP1.length - 1) (by omega)
    simp at z2 n2
    have o21 := o2.1
    have o23 := o2.2.2.1
    simp at o21 o23
    refine (lift_ri (tv := tv) hr hnd hlen hl (by omega) (by omega) (by omega) z1 hls hi).mono ?_
    rintro e w' ⟨rfl, f⟩
    have hv := inv_ri i1 i2
    refine ⟨rfl, p0, _, _, f, hv, ⟨mkI_ok.2 ⟨by simp; omega, by simp; omega, by simp; omega, fun d hd => ?_⟩, mkI_ok.2 ⟨by omega, by omega, by omega, fun d hd => o2.2.2.2 d (by simp [hd])⟩⟩, fun z => ?_⟩
    · simp only [List.mem_append, List.mem_singleton] at hd
      rcases hd with hd | rfl
      · exact o1.2.2.2 d hd
      · exact o2.2.2.2 d (by simp)
    · simp only [mkI_elems, List.flatMap_append, List.flatMap_cons, List.flatMap_nil, List.append_nil, List.mem_append]
      grind

theorem mergeT {h nb ib cb : Nat} {S0 S2 : List It} {s : It} {K0 K2 : List (Tr h)} {l r : Tr h} {a b : Option Key} {w : World} {tv : Value} (hr : Rep (h + 1) w (mkI nb ib cb (S0 ++ s :: S2) (K0 ++ [l, r] ++ K2))) (hnd : (foot (h + 1) (mkI nb ib cb (S0 ++ s :: S2) (K0 ++ [l, r] ++ K2))).Nodup) (hlen : (K0 ++ [l, r] ++ K2).length = (S0 ++ s :: S2).length + 1) (hl : S0.length = K0.length)
    (i1 : Inv h l a (some s.k)) (i2 : Inv h r (some s.k) b) (o1 : Ok h l 32) (o2 : Ok h r 32) (z1 : sizeT h l ≤ 32) (z2 : sizeT h r ≤ 32) {i : Nat} (hi : i = K0.length) :
    Calls Try.prog 45 #[tv, .pointer (some ⟨nb, 0, none⟩), .int .i64 (i : Int)] w fun e w' => e = .returned (.tuple #[]) ∧ ∃ l', Fl h nb ib cb (S0 ++ s :: S2) (S0 ++ S2) (K0 ++ [l, r] ++ K2) (K0 ++ [l'] ++ K2) w w' ∧ Inv h l' a b ∧ Ok h l' 33 ∧ (∀ z, z ∈ elems h l' ↔ (z ∈ elems h l ∨ z ∈ elems h r)) := by
  cases h with
  | zero =>
    obtain ⟨lb, lib, L, rfl⟩ := Tr.leaf l
    obtain ⟨rb, rib, R, rfl⟩ := Tr.leaf r
    rw [mkL_ok] at o1 o2
    rw [mkL_size] at z1 z2
    refine (lift_ml (tv := tv) hr hnd hlen hl (by omega) hi).mono ?_
    rintro e w' ⟨rfl, f⟩
    refine ⟨rfl, _, f, inv_ml i1 i2, mkL_ok.2 ⟨by simp; omega, by simp; omega⟩, fun z => ?_⟩
    simp only [mkL_elems, List.mem_append]
  | succ h =>
    obtain ⟨lb, lib, lcb, LS, LK, rfl⟩ := Tr.inner l
    obtain ⟨rb, rib, rcb, RS, RK, rfl⟩ := Tr.inner r
    rw [mkI_ok] at o1 o2
    rw [mkI_size] at z1 z2
    rw [mkI_inv] at i1 i2
    have n1 := i1.length
    have n2 := i2.length
    refine (lift_mi (tv := tv) hr hnd hlen hl (by omega) (by omega) (by omega) hi).mono ?_
    rintro e w' ⟨rfl, f⟩
    refine ⟨rfl, _, f, mkI_inv.2 (Chain.join i2 i1), mkI_ok.2 ⟨by simp; omega, by simp; omega, by simp; omega, fun d hd => ?_⟩, fun z => ?_⟩
    · rcases List.mem_append.1 hd with hd | hd
      · exact o1.2.2.2 d hd
      · exact o2.2.2.2 d hd
    · simp only [mkI_elems, List.flatMap_append, List.mem_append]

theorem ChainL.unsnoc {α : Type} {I : α → Option Key → Option Key → Prop} {c : α} {s : It} : ∀ {S1 : List It} {K1 : List α} {lo a : Option Key}, S1.length = K1.length → ChainL I (S1 ++ [s]) (K1 ++ [c]) lo a → ∃ a0, ChainL I S1 K1 lo a0 ∧ I c a0 (some s.k) ∧ a = some s.k
  | [], [], lo, a, _, ⟨k, ks', e, h1, h2⟩ => by
    injection e with e1 e2
    subst e1 e2
    exact ⟨lo, ⟨rfl, rfl⟩, h1, h2.2⟩
  | t :: S1, u :: K1, lo, a, hl, ⟨k, ks', e, h1, h2⟩ => by
    injection e with e1 e2
    subst e1 e2
    obtain ⟨a0, g1, g2, g3⟩ := ChainL.unsnoc (by simpa using hl) h2
    exact ⟨a0, ⟨u, K1, rfl, h1, g1⟩, g2, g3⟩
theorem fil_one {h nb ib cb : Nat} {S S0 S2 : List It} {K K0 K2 : List (Tr h)} {c : Tr h} {x : Key} {lo hi a b : Option Key} {w w' : World}
    (f : Fl h nb ib cb S (S0 ++ S2) K (K0 ++ [c] ++ K2) w w')
    (hl : S0.length = K0.length) (c1 : ChainL (Inv h) S0 K0 lo a) (c2 : Inv h c a b) (c4 : ChainR (Inv h) S2 K2 b hi) (hx : geL a x ∧ ltH x b) (o2 : Ok h c 33) (o3 : ∀ d, d ∈ K0 ∨ d ∈ K2 → Ok h d 32) (hlen : (K0 ++ [c] ++ K2).length ≤ 64 ∧ K.length ≤ (K0 ++ [c] ++ K2).length + 1)
    (mem : ∀ y, y ∈ (K0 ++ [c] ++ K2).flatMap (elems h) ↔ y ∈ K.flatMap (elems h)) {i' : Nat} (hi' : i' = K0.length) : Fil h nb ib cb S K x lo hi w w' i' :=
  ⟨S0, S2, K0, c, K2, a, b, ⟨by omega, by omega⟩, f.1, ⟨c1, c2, c4⟩, hx, o2, o3, hlen, mem, f.2.1, f.2.2.1, f.2.2.2⟩

set_option maxHeartbeats 1000000 in
theorem fill_rep {h nb ib cb m : Nat} {S1 S2 : List It} {K1 K2 : List (Tr h)} {c : Tr h} {x : Key} {lo hi a b : Option Key} {w : World} {tv : Value} (hr : Rep (h + 1) w (mkI nb ib cb (S1 ++ S2) (K1 ++ [c] ++ K2))) (hnd : (foot (h + 1) (mkI nb ib cb (S1 ++ S2) (K1 ++ [c] ++ K2))).Nodup)
    (c1 : ChainL (Inv h) S1 K1 lo a) (c2 : Inv h c a b) (c3 : ChainR (Inv h) S2 K2 b hi) (hlo : geL lo x) (hhi : ltH x hi) (hb1 : ∀ s ∈ S1, s.k ≤ x) (hb2 : ∀ s ∈ S2, x < s.k) (hok : Ok (h + 1) (mkI nb ib cb (S1 ++ S2) (K1 ++ [c] ++ K2)) m) (hl : S1.length = K1.length) {i : Nat} (hi' : i = K1.length) :
    Calls Try.prog 36 #[tv, .pointer (some ⟨nb, 0, none⟩), .int .i64 (i : Int)] w fun e w' => ∃ i' : Nat, e = .returned (.int .i64 (i' : Int)) ∧ Fil h nb ib cb (S1 ++ S2) (K1 ++ [c] ++ K2) x lo hi w w' i' := by
  have hlen : (K1 ++ [c] ++ K2).length = (S1 ++ S2).length + 1 := (Chain.of c1 c2 c3).length
  rw [mkI_ok] at hok
  obtain ⟨ok1, ok2, ok3, ok4⟩ := hok
  obtain ⟨restS, restK, r1, r2, r3, r4, rk⟩ := mkI_parts hr
  have okc := ok4 c (by simp)
  have oks : ∀ d, d ∈ K1 ∨ d ∈ K2 → Ok h d 32 := fun d hd => ok4 d (by rcases hd with hd | hd <;> simp [hd])
  have hrc := rk c (by simp)
  have hkc : ((K1 ++ [c] ++ K2).map (nodeV h) ++ restK)[i]? = some (.pointer (some ⟨nbOf h c, 0, none⟩)) := by
    rw [hi', List.getElem?_append_left (by simp)]
    simp [List.getElem?_append_right, nodeV]
  have hsc := ok_size okc
  have hx : geL a x ∧ ltH x b := ⟨c1.bound hlo hb1, c3.bound hhi hb2⟩
  have hik : (i : Int) < (((K1 ++ [c] ++ K2).length : Nat) : Int) := by simp; omega
  by_cases z : 32 < sizeT h c
  · refine (fill_none (tv := tv) r1 hkc hik (rep_size hrc) (by omega)).mono ?_
    rintro e w' ⟨rfl, hw⟩
    obtain rfl := hw.symm
    exact ⟨i, rfl, S1, S2, K1, c, K2, a, b, ⟨by omega, by omega⟩, hr, ⟨c1, c2, c3⟩, hx, ok_mono okc 33 (by omega), oks, ⟨ok3, by omega⟩, fun _ => Iff.rfl, hnd, fun _ h => .inl h, Kep.refl _ _⟩
  · have z' : sizeT h c ≤ 32 := by omega
    -- the right neighbour gives one
    have right : ∀ (s' : It) (S2' : List It) (r : Tr h) (K2' : List (Tr h)), S2 = s' :: S2' → K2 = r :: K2' → 32 < sizeT h r → LeftSmall K1 → Calls Try.prog 36 #[tv, .pointer (some ⟨nb, 0, none⟩), .int .i64 (i : Int)] w fun e w' => ∃ i' : Nat, e = .returned (.int .i64 (i' : Int)) ∧ Fil h nb ib cb (S1 ++ S2) (K1 ++ [c] ++ K2) x lo hi w w' i' := by
      rintro s' S2' r K2' rfl rfl zr hls
      obtain ⟨e1, c3'⟩ := c3
      subst e1
      obtain ⟨b', i2, c4⟩ := Chain.head c3'
      have ek : K1 ++ [c] ++ r :: K2' = K1 ++ [c, r] ++ K2' := by simp
      rw [ek] at hr hnd hlen ok3 ⊢
      refine (shiftR (tv := tv) hr hnd hlen hl c2 i2 okc (oks r (.inr (by simp))) z' zr hls hi').mono ?_
      rintro e w' ⟨rfl, y, c', r', f, ⟨v1, v2, v3⟩, ⟨u1, u2⟩, mem⟩
      refine ⟨i, rfl, fil_first f hl c1 v1 v2 c4 ⟨hx.1, by have := hb2 s' (by simp); grind⟩ u2 u1 (fun d hd => oks d (by rcases hd with hd | hd <;> simp [hd])) ⟨by simp at ok3 ⊢ <;> omega, by simp <;> omega⟩ (fun y => ?_) hi'⟩
      simp only [List.flatMap_append, List.flatMap_cons, List.flatMap_nil, List.append_nil, List.mem_append]
      have := mem y
      grind
    by_cases e1 : K1 = []
    · subst e1
      have hS1 : S1 = [] := by cases S1 with | nil => rfl | cons s S => simp at hl
      subst hS1
      obtain ⟨r, K2', rfl, hK2⟩ := cons_of_len (l := K2) (n := K2.length - 1) (by simp at ok2; omega)
      obtain ⟨s', S2', rfl, hS2⟩ := cons_of_len (l := S2) (n := S2.length - 1) (by simp at hlen; omega)
      by_cases zr : 32 < sizeT h r
      · exact right s' S2' r K2' rfl rfl zr (.inl rfl)
      · obtain ⟨e2, c3'⟩ := c3
        subst e2
        obtain ⟨b', i2, c4⟩ := Chain.head c3'
        have hm := mergeT (tv := tv) (K0 := []) (S0 := []) (s := s') (l := c) (r := r) (K2 := K2') (S2 := S2') hr hnd hlen rfl c2 i2 okc (oks r (.inr (by simp))) z' (by omega) (i := 0) rfl
        have hi0 : i = 0 := by simpa using hi'
        subst hi0
        refine (fill_mright (tv := tv) (z := nbOf h r) r1 hkc (by simp [nodeV]) (by simp; omega) (by simp at ok3 ⊢; omega) (rep_size hrc) (by omega) (rep_size (rk r (by simp))) (by omega) hm).mono ?_
        rintro e w' ⟨rfl, l', f, v1, u1, mem⟩
        refine ⟨0, rfl, fil_one (K0 := []) (S0 := []) f rfl c1 v1 c4 ⟨hx.1, c4.bound hhi (fun s hs => hb2 s (by simp [hs]))⟩ u1 (fun d hd => oks d (by rcases hd with hd | hd <;> simp at hd ⊢; exact .inr hd)) ⟨by simp at ok3 ⊢; omega, by simp⟩ (fun y => ?_) rfl⟩
        simp only [List.nil_append, List.flatMap_append, List.flatMap_cons, List.flatMap_nil, List.append_nil, List.mem_append, List.cons_append]
        have := mem y
        grind
    · obtain ⟨K0, l, rfl, hK0⟩ := snoc_of_len (l := K1) (n := K1.length - 1) (by have := List.length_pos_iff.2 e1; omega)
      obtain ⟨S0, s, rfl, hS0⟩ := snoc_of_len (l := S1) (n := S1.length - 1) (by simp at hl; omega)
      have hl0 : S0.length = K0.length := by simpa using hl
      obtain ⟨a0, g1, g2, rfl⟩ := ChainL.unsnoc hl0 c1
      have okl := oks l (.inl (by simp))
      have hsl := ok_size okl
      have ek : K0 ++ [l] ++ [c] ++ K2 = K0 ++ [l, c] ++ K2 := by simp
      have es : S0 ++ [s] ++ S2 = S0 ++ s :: S2 := by simp
      by_cases zl : 32 < sizeT h l
      · rw [ek, es] at hr hnd hlen ⊢
        rw [ek] at ok3
        refine (shiftL (tv := tv) hr hnd hlen hl0 g2 c2 okl okc zl z' (by simpa using hi')).mono ?_
        rintro e w' ⟨rfl, y, l', c', f, ⟨v1, v2, v3⟩, ⟨u1, u2⟩, mem⟩
        refine ⟨i, rfl, fil_second f hl0 g1 v1 v2 c3 ⟨by have := hb1 s (by simp); grind, hx.2⟩ u1 u2 (fun d hd => oks d (by rcases hd with hd | hd <;> simp [hd])) ⟨by simp at ok3 ⊢ <;> omega, by simp <;> omega⟩ (fun y => ?_) (by simpa using hi')⟩
        simp only [List.flatMap_append, List.flatMap_cons, List.flatMap_nil, List.append_nil, List.mem_append]
        have := mem y
        grind
      · by_cases zr : ∃ (s' : It) (S2' : List It) (r : Tr h) (K2' : List (Tr h)), S2 = s' :: S2' ∧ K2 = r :: K2' ∧ 32 < sizeT h r
        · obtain ⟨s', S2', r, K2', h1, h2, h3⟩ := zr
          exact right s' S2' r K2' h1 h2 h3 (.inr ⟨K0, l, rfl, by omega⟩)
        · have hrl := rk l (by simp)
          have hkl : ((K0 ++ [l] ++ [c] ++ K2).map (nodeV h) ++ restK)[K0.length]? = some (.pointer (some ⟨nbOf h l, 0, none⟩)) := by
            rw [List.getElem?_append_left (by simp)]
            simp [List.getElem?_append_right, nodeV]
          have hno : (i : Int) + 1 < (((K0 ++ [l] ++ [c] ++ K2).length : Nat) : Int) → ∃ z nz : Nat, ((K0 ++ [l] ++ [c] ++ K2).map (nodeV h) ++ restK)[i + 1]? = some (.pointer (some ⟨z, 0, none⟩)) ∧ SizeIs w z nz ∧ (nz : Int) ≤ 32 := fun hlt => by
            simp at hlt hi'
            obtain ⟨r, K2', rfl, hK2⟩ := cons_of_len (l := K2) (n := K2.length - 1) (by omega)
            obtain ⟨s', S2', rfl, hS2⟩ := cons_of_len (l := S2) (n := S2.length - 1) (by simp at hlen; omega)
            refine ⟨nbOf h r, sizeT h r, ?_, rep_size (rk r (by simp)), ?_⟩
            · have e : (K0 ++ [l] ++ [c] ++ r :: K2').map (nodeV h) ++ restK = (K0 ++ [l, c]).map (nodeV h) ++ nodeV h r :: (K2'.map (nodeV h) ++ restK) := by simp
              rw [e, List.getElem?_append_right (by simp; omega)]
              have e2 : i + 1 - ((K0 ++ [l, c]).map (nodeV h)).length = 0 := by simp; omega
              rw [e2]; rfl
            · have : ¬ 32 < sizeT h r := fun h3 => zr ⟨s', S2', r, K2', rfl, rfl, h3⟩
              omega
          have hm := mergeT (tv := tv) (K0 := K0) (S0 := S0) (s := s) (l := l) (r := c) (K2 := K2) (S2 := S2) (by rw [← ek, ← es]; exact hr) (by rw [← ek, ← es]; exact hnd) (by rw [← ek, ← es]; exact hlen) hl0 g2 c2 okl okc (by omega) z' (i := K0.length) rfl
          simp at hi'
          refine (fill_mleft (tv := tv) (j := K0.length) (y := nbOf h l) r1 hkc hkl hik (by omega) (by simp at ok3 ⊢; omega) (rep_size hrc) (by omega) (rep_size hrl) (by omega) hno hm).mono ?_
          rintro e w' ⟨rfl, l', f, v1, u1, mem⟩
          rw [ek, es]
          rw [ek] at ok3
          refine ⟨K0.length, rfl, fil_one f hl0 g1 v1 c3 ⟨g1.bound hlo (fun s hs => hb1 s (by simp [hs])), hx.2⟩ u1 (fun d hd => oks d (by rcases hd with hd | hd <;> simp [hd])) ⟨by simp at ok3 ⊢ <;> omega, by simp <;> omega⟩ (fun y => ?_) rfl⟩
          simp only [List.flatMap_append, List.flatMap_cons, List.flatMap_nil, List.append_nil, List.mem_append]
          have := mem y
          grind
end Go.Proofs.Qxb6615764a
