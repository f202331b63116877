/-
  Set (30): a full root gets a new one above it.
-/
import Derived.Test.Qxb6615764aSetP
import Derived.Deep.LoopGhost
namespace Go.Proofs.Qxb6615764a
open Go.RowKit Go.Lib
set_option linter.unusedVariables false
set_option linter.unusedSectionVars false
set_option linter.unusedSimpArgs false
variable [Bd]

/-- A tree in memory. -/
structure TreeR (w : World) (tb H : Nat) (T : Tr H) (l : Int) : Prop where
  row : RowB w tb 57 [cmpV, nodeV H T, .int .i64 l]
  rep : Rep H w T
  inv : Inv H T none none
  ok : Ok H T 0
  nd : (foot H T).Nodup
theorem RowB.not_foot {w : World} {tb H : Nat} {T : Tr H} {ty : TypeId} {cur : List Value} (h : RowB w tb ty cur) (hr : Rep H w T) (h1 : ty ≠ 62) (h2 : ty ≠ 46) (h3 : ty ≠ 55) : tb ∉ foot H T := fun hm => by
  obtain ⟨ty', cur', hr', ht⟩ := hr.typed tb hm
  rcases ht with rfl | rfl | rfl
  · exact row_ne h hr' h1 rfl
  · exact row_ne h hr' h2 rfl
  · exact row_ne h hr' h3 rfl
theorem Tr.inner {h : Nat} (t : Tr (h + 1)) : ∃ nb ib cb seps kids, t = mkI nb ib cb seps kids := ⟨_, _, _, _, _, rfl⟩
theorem Tr.leaf (t : Tr 0) : ∃ nb ib items, t = mkL nb ib items := ⟨_, _, _, rfl⟩

theorem Lower.unique {L : List It} {x : Key} {c c' : Nat} (h : Lower L x c) (h' : Lower L x c') : c = c' := by
  obtain ⟨h1, h2⟩ := h
  obtain ⟨h3, h4⟩ := h'
  rcases Nat.lt_trichotomy c c' with hl | hl | hl
  · have hc : c < L.length := by omega
    have a := (h2 c L[c] (by simp [hc])).2 (Nat.le_refl _)
    have b := (h4 c L[c] (by simp [hc])).1 hl
    grind
  · exact hl
  · have hc : c' < L.length := by omega
    have a := (h4 c' L[c'] (by simp [hc])).2 (Nat.le_refl _)
    have b := (h2 c' L[c'] (by simp [hc])).1 hl
    grind
theorem Lower.ex : ∀ {L : List It} (x : Key), L.Pairwise (fun a b => a.k < b.k) → ∃ c, Lower L x c
  | [], x, _ => ⟨0, Nat.le_refl _, fun q s h => by simp at h⟩
  | y :: L, x, hp => by
    rw [List.pairwise_cons] at hp
    by_cases hy : y.k < x
    · obtain ⟨c, h1, h2⟩ := Lower.ex x hp.2
      refine ⟨c + 1, by simp; omega, fun q s hq => ?_⟩
      cases q with
      | zero => simp at hq; subst hq; exact ⟨fun _ => hy, fun h => by omega⟩
      | succ q => have := h2 q s (by simpa using hq); exact ⟨fun h => this.1 (by omega), fun h => this.2 (by omega)⟩
    · refine ⟨0, by simp, fun q s hq => ⟨fun h => by omega, fun _ => ?_⟩⟩
      cases q with
      | zero => simp at hq; subst hq; grind
      | succ q =>
        have := hp.1 s (List.mem_of_getElem? (by simpa using hq))
        grind
theorem search_at {w : World} {ib xb xo c i : Nat} {L : List It} {rest : List Value} {x : Key} (hI : RowB w ib 46 (L.map It.ptr ++ rest)) (hK : ∀ s ∈ L, KR w s) (hx : KAt w ⟨xb, xo, none⟩ x) (hs : L.Pairwise (fun a b => a.k < b.k)) (hl : L.length ≤ 1000) (hi : Lower L x i) :
    Calls Try.prog 35 #[.slice (some ⟨ib, 0, none⟩) L.length c, .pointer (some ⟨xb, xo, none⟩), .func (.func 23) #[] #[]] w fun e w' => e = .returned (.tuple #[.int .i64 (i : Nat), .bool (foundAt L x i)]) ∧ ∃ n, w' = w.drewN n :=
  (search_any hI hK hx hs hl).mono fun e w' ⟨⟨c, he, hc⟩, hn⟩ => ⟨by rw [he, hc.unique hi], hn⟩

/-- What the way down holds: at most k nodes to come. -/
def SetInv (tb : Nat) (x : It) (H1 : Nat) (T1 : Tr H1) (l : Int) (wc : World) (k : Nat) (n : Value) (wr : World) : Prop :=
  ∃ (t : Tr k) (lo hi : Option Key) (m : Nat), n = .pointer (some ⟨nbOf k t, 0, none⟩) ∧ Rep k wr t ∧ Inv k t lo hi ∧ Ok k t m ∧ sizeT k t < 64 ∧ (geL lo x.k ∧ ltH x.k hi) ∧ (foot k t).Nodup ∧ (∀ y ∈ elems k t, y.k ≠ x.k) ∧ RowB wr tb 57 [.func (.func 23) #[] #[], .pointer (some ⟨nbOf H1 T1, 0, none⟩), .int .i64 l] ∧ KR wr x ∧
    ∀ w' t', Post k t (fun y => y ∈ elems k t ∨ y = x) m lo hi wr w' t' → ∃ T', Post H1 T1 (fun y => y ∈ elems H1 T1 ∨ y = x) 0 none none wc w' T'

theorem RowB.drewN {w : World} {b : Nat} {ty : TypeId} {cur : List Value} (h : RowB w b ty cur) (n : Nat) : RowB (w.drewN n) b ty cur := h
theorem mkL_parts {w : World} {nb ib : Nat} {items : List It} (hr : Rep 0 w (mkL nb ib items)) : ∃ rest, RowB w nb 62 [.slice (some ⟨ib, 0, none⟩) items.length 64, .slice none 0 0] ∧ RowB w ib 46 (items.map It.ptr ++ rest) ∧ items.length + rest.length = 64 ∧ ∀ x ∈ items, KR w x := by
  obtain ⟨h1, ⟨rest, h2, h3⟩, h4⟩ := hr
  exact ⟨rest, h1, h2, h3, h4⟩
theorem mkL_nb (nb ib : Nat) (items : List It) : nbOf 0 (mkL nb ib items) = nb := rfl
theorem mkI_nb {h : Nat} (nb ib cb : Nat) (seps : List It) (kids : List (Tr h)) : nbOf (h + 1) (mkI nb ib cb seps kids) = nb := rfl
theorem not_found {L : List It} {x : Key} (h : ∀ y ∈ L, y.k ≠ x) (c : Nat) : foundAt L x c = false := by
  unfold foundAt
  cases hc : L[c]? with
  | none => rfl
  | some s => simpa using h s (List.mem_of_getElem? hc)

theorem Post.drewN {h : Nat} {t t' : Tr h} {mem : It → Prop} {m : Nat} {lo hi : Option Key} {w w' : World} (p : Post h t mem m lo hi w w' t') (n : Nat) : Post h t mem m lo hi w (w'.drewN n) t' :=
  ⟨p.rep.kep (Kep.refl (fun _ => False) _ |>.drewN n) (TT.false _) (fun _ _ => id), p.inv, p.ok, p.mem, p.nd, p.sub, p.nb, p.kep.drewN n⟩
theorem ChainL.snoc {α : Type} {I : α → Option Key → Option Key → Prop} {c : α} {s : It} : ∀ {S1 : List It} {K1 : List α} {lo a : Option Key}, ChainL I S1 K1 lo a → I c a (some s.k) → ChainL I (S1 ++ [s]) (K1 ++ [c]) lo (some s.k)
  | [], K1, lo, a, ⟨e1, e2⟩, h => by subst e1 e2; exact ⟨c, [], rfl, h, rfl, rfl⟩
  | t :: S1, K1, lo, a, ⟨k, ks', e, h1, h2⟩, h => by subst e; exact ⟨k, ks' ++ [c], rfl, h1, ChainL.snoc h2 h⟩
theorem Post.up1 {h nb ib cb m : Nat} {S1 S2 : List It} {K1 K2 : List (Tr h)} {c d c' : Tr h} {s : It} {mem : It → Prop} {lo hi a b : Option Key} {w w' : World}
    (hr : Rep (h + 1) w (mkI nb ib cb (S1 ++ s :: S2) (K1 ++ [c, d] ++ K2))) (h1 : ChainL (Inv h) S1 K1 lo a) (h2 : Inv h d (some s.k) b) (h3 : ChainR (Inv h) S2 K2 b hi) (hok : Ok (h + 1) (mkI nb ib cb (S1 ++ s :: S2) (K1 ++ [c, d] ++ K2)) m) (hnd : (foot (h + 1) (mkI nb ib cb (S1 ++ s :: S2) (K1 ++ [c, d] ++ K2))).Nodup) (p : Post h c mem 32 a (some s.k) w w' c') :
    Post (h + 1) (mkI nb ib cb (S1 ++ s :: S2) (K1 ++ [c, d] ++ K2)) (fun y => y ∈ K1.flatMap (elems h) ∨ mem y ∨ y ∈ (d :: K2).flatMap (elems h)) m lo hi w w' (mkI nb ib cb (S1 ++ s :: S2) (K1 ++ [c', d] ++ K2)) := by
  have e : ∀ c : Tr h, K1 ++ [c, d] ++ K2 = K1 ++ [c] ++ (d :: K2) := fun c => by simp
  rw [e] at hr hok hnd ⊢
  rw [e]
  exact Post.up hr h1 (show ChainR (Inv h) (s :: S2) (d :: K2) (some s.k) hi from ⟨rfl, ChainR.chain h2 h3⟩) hok hnd p
theorem Post.up2 {h nb ib cb m : Nat} {S1 S2 : List It} {K1 K2 : List (Tr h)} {c d d' : Tr h} {s : It} {mem : It → Prop} {lo hi a b : Option Key} {w w' : World}
    (hr : Rep (h + 1) w (mkI nb ib cb (S1 ++ s :: S2) (K1 ++ [c, d] ++ K2))) (h1 : ChainL (Inv h) S1 K1 lo a) (h2 : Inv h c a (some s.k)) (h3 : ChainR (Inv h) S2 K2 b hi) (hok : Ok (h + 1) (mkI nb ib cb (S1 ++ s :: S2) (K1 ++ [c, d] ++ K2)) m) (hnd : (foot (h + 1) (mkI nb ib cb (S1 ++ s :: S2) (K1 ++ [c, d] ++ K2))).Nodup) (p : Post h d mem 32 (some s.k) b w w' d') :
    Post (h + 1) (mkI nb ib cb (S1 ++ s :: S2) (K1 ++ [c, d] ++ K2)) (fun y => y ∈ (K1 ++ [c]).flatMap (elems h) ∨ mem y ∨ y ∈ K2.flatMap (elems h)) m lo hi w w' (mkI nb ib cb (S1 ++ s :: S2) (K1 ++ [c, d'] ++ K2)) := by
  have e : ∀ d : Tr h, K1 ++ [c, d] ++ K2 = (K1 ++ [c]) ++ [d] ++ K2 := fun d => by simp
  have e' : S1 ++ s :: S2 = (S1 ++ [s]) ++ S2 := by simp
  rw [e, e'] at hr hok hnd ⊢
  rw [e]
  exact Post.up hr (h1.snoc h2) h3 hok hnd p

set_option maxHeartbeats 4000000 in
set_option maxRecDepth 100000 in
theorem set_any {w : World} {tb H : Nat} {T : Tr H} {x : It} {l : Int} (hT : TreeR w tb H T l) (hx : KR w x) (hno : ∀ y ∈ elems H T, y.k ≠ x.k) :
    Calls Try.prog 30 #[.pointer (some ⟨tb, 0, none⟩), .pointer (some ⟨x.p, 0, none⟩)] w fun e w' => (∃ v, e = .returned v) ∧ ∃ H' T' l', TreeR w' tb H' T' l' ∧ (∀ y, y ∈ elems H' T' ↔ y ∈ elems H T ∨ y = x) ∧ (∀ b ∈ foot H' T', b ∈ foot H T ∨ w.heap.size ≤ b) ∧ Kep (fun b => b ∈ foot H T ∨ b = tb) w w' := by
  obtain ⟨ia, n, c, ca, m, d, hnr, hfl⟩ := hT.rep.nodeRow ⟨_, _, hT.inv⟩ hT.ok
  have t0 := hT.row.cell 0
  have t1 := hT.row.cell 1
  simp only [List.getElem?_cons_zero, List.getElem?_cons_succ] at t0 t1
  have HT : Hid (TreeR w tb H T l ∧ KR w x ∧ (∀ y ∈ elems H T, y.k ≠ x.k)) := ⟨hT, hx, hno⟩
  have HF : Hid ((decide ((n : Int) = 64) || decide ((m : Int) = 64)) = decide (sizeT H T = 64)) := hfl
  have HR : Hid (RowB w (nbOf H T) 62 [.slice ia n c, .slice ca m d]) := hnr
  clear hT hx hno hfl hnr
  unfold nodeV cmpV at *
  go_enter Try.func30, Try.ntmps30
  go_wp2_with fail
  refine (full_any HR.out).mono ?_
  rintro e w' ⟨rfl, hw⟩
  obtain rfl := hw.symm
  clear hw
  rw [HF.out]
  go_upto_if 17 with fail
  go_cut [] from 6 (fun wc => ∃ H1 T1, TreeR wc tb H1 T1 l ∧ sizeT H1 T1 < 64 ∧ KR wc x ∧ (∀ y, y ∈ elems H1 T1 ↔ y ∈ elems H T) ∧ (∀ b ∈ foot H1 T1, b ∈ foot H T ∨ w.heap.size ≤ b) ∧ Kep (fun b => b ∈ foot H T ∨ b = tb) w wc)
  case first =>
    by_cases hf : sizeT H T = 64
    · have hd : decide (sizeT H T = 64) = true := by simp [hf]
      have HS : Hid (sizeT H T = 64) := hf
      clear hf HF HR
      rw [hd]
      clear hd
      go_upto_region 2 with fail
      go_cut [] from 6 (fun wd => ∃ rb rib rcb, (w.heap.size ≤ rb ∧ w.heap.size ≤ rib ∧ w.heap.size ≤ rcb) ∧ RowB wd tb 57 [.func (.func 23) #[] #[], .pointer (some ⟨rb, 0, none⟩), .int .i64 l] ∧ NodeR wd rb rib rcb 0 1 (nils 63) (.pointer (some ⟨nbOf H T, 0, none⟩) :: nils 63) ∧ Kep (fun k => k = tb) w wd)
      case first =>
        have HS2 : Hid (∀ W W', (RowB W tb 57 [.func (.func 23) #[] #[], .pointer (some ⟨nbOf H T, 0, none⟩), .int .i64 l] ∧ Kep (fun _ => False) w W) → Kep (fun k => w.heap.size ≤ k) W W' → (RowB W' tb 57 [.func (.func 23) #[] #[], .pointer (some ⟨nbOf H T, 0, none⟩), .int .i64 l] ∧ Kep (fun _ => False) w W')) := by
          intro W W' ⟨h1, h2⟩ k
          have := HT.out.1.row.lt
          exact ⟨h1.kep k (by omega), h2.trans k (fun j hj hh => by omega)⟩
        have FW0 : Hid (RowB w.drew tb 57 [.func (.func 23) #[] #[], .pointer (some ⟨nbOf H T, 0, none⟩), .int .i64 l] ∧ Kep (fun _ => False) w w.drew) := ⟨HT.out.1.row.kep (Kep.refl (fun _ => False) w).drew id, (Kep.refl _ _).drew⟩
        refine wp_region_G (fun w' => w'.cell? ⟨tb, 1, none⟩ = some (.pointer (some ⟨nbOf H T, 0, none⟩))) (fun _ => True) [13] (by kernel_rfl) ?_
        clear t0 t1
        generalize w.drew = W0 at *
        have HA : Hid (W0.cell? ⟨tb, 1, none⟩ = some (.pointer (some ⟨nbOf H T, 0, none⟩))) := by rw [FW0.out.1.cell]; rfl
        refine wpAnyG_takeB (i := 0) (v := .pointer (some ⟨tb, 0, none⟩)) rfl (by kernel_rfl) (by kernel_rfl) (by kernel_rfl) (by kernel_rfl) (fun _ _ _ h => h) (fun _ => HA.out) trivial (Or.inl ⟨by rfl, fun w' hSw => by kernel_rfl⟩) ?_
        try simp only [Act.put, List.getElem_toArray, List.getElem_cons_succ, List.getElem_cons_zero, List.setIfInBounds_toArray, List.set_cons_zero, List.set_cons_succ]
        refine wpAnyG_takeB (i := 3) (v := .pointer (some ⟨tb, 0, none⟩)) rfl (by kernel_rfl) (by kernel_rfl) (by kernel_rfl) (by kernel_rfl) (fun _ _ _ h => h) (fun _ => HA.out) trivial (Or.inl ⟨by rfl, fun w' hSw => by kernel_rfl⟩) ?_
        try simp only [Act.put, List.getElem_toArray, List.getElem_cons_succ, List.getElem_cons_zero, List.setIfInBounds_toArray, List.set_cons_zero, List.set_cons_succ]
        refine wpAnyG_takeB (i := 4) (v := .pointer (some ⟨tb, 0, none⟩)) rfl (by kernel_rfl) (by kernel_rfl) (by kernel_rfl) (by kernel_rfl) (fun _ _ _ h => h) (fun _ => HA.out) trivial (Or.inl ⟨by rfl, fun w' hSw => by go_simp⟩) ?_
        try simp only [Act.put, List.getElem_toArray, List.getElem_cons_succ, List.getElem_cons_zero, List.setIfInBounds_toArray, List.set_cons_zero, List.set_cons_succ]
        refine wpAnyG_takeB (i := 5) (v := .pointer (some ⟨tb, 1, none⟩)) rfl (by kernel_rfl) (by kernel_rfl) (by kernel_rfl) (by kernel_rfl) (fun _ _ _ h => h) (fun _ => HA.out) trivial (Or.inl ⟨by rfl, fun w' hSw => by go_simp⟩) ?_
        try simp only [Act.put, List.getElem_toArray, List.getElem_cons_succ, List.getElem_cons_zero, List.setIfInBounds_toArray, List.set_cons_zero, List.set_cons_succ]
        refine wpAnyG_take (i := 6) (v := .pointer (some ⟨nbOf H T, 0, none⟩)) rfl (by kernel_rfl) (by kernel_rfl) (by kernel_rfl) (by kernel_rfl) (fun _ _ _ h => h) HA.out trivial (Or.inl ⟨by rfl, fun w' hSw => by (have h := hSw.1; go_simp)⟩) ?_
        try simp only [Act.put, List.getElem_toArray, List.getElem_cons_succ, List.getElem_cons_zero, List.setIfInBounds_toArray, List.set_cons_zero, List.set_cons_succ]
        clear HA
        refine wpAnyG_ready (rs := [1, 2, 7]) (by kernel_rfl) (by simp) ?_
        refine AllReadyG.cons rfl (fun K hK => ?_) (AllReadyG.cons rfl (fun K hK => ?_) (AllReadyG.cons rfl (fun K hK => ?_) AllReadyG.nil))
        · go_simp
          have kW1 : Kep (fun _ => False) W0 (W0.alloc (.cells (nilA 63) 46)) := (Kep.refl _ _).alloc _
          have FW1 : Hid (RowB (W0.alloc (.cells (nilA 63) 46)) tb 57 [.func (.func 23) #[] #[], .pointer (some ⟨nbOf H T, 0, none⟩), .int .i64 l] ∧ Kep (fun _ => False) w (W0.alloc (.cells (nilA 63) 46))) := HS2.out _ _ FW0.out (kW1.mono (fun _ _ h => h.elim))
          have hribW1 : RowB (W0.alloc (.cells (nilA 63) 46)) W0.heap.size 46 (nils 63) := by have := row_newA W0 46 (nilA 63); rwa [nilA_list] at this
          have grib : w.heap.size ≤ W0.heap.size := FW0.out.2.size
          refine hK.out _ _ trivial (fun _ => by rw [FW1.out.1.cell]; rfl) ?_
          clear hK kW1
          generalize W0.heap.size = rib at *
          generalize W0.alloc (.cells (nilA 63) 46) = W1 at *
          try simp only [Act.put, List.getElem_toArray, List.getElem_cons_succ, List.getElem_cons_zero, List.setIfInBounds_toArray, List.set_cons_zero, List.set_cons_succ]
          refine wpAnyG_ready (rs := [2, 7]) (by kernel_rfl) (by simp) ?_
          refine AllReadyG.cons rfl (fun K hK => ?_) (AllReadyG.cons rfl (fun K hK => ?_) AllReadyG.nil)
          · go_simp
            have kW2 : Kep (fun _ => False) W1 (W1.alloc (.cells (nilA 64) 55)) := (Kep.refl _ _).alloc _
            have FW2 : Hid (RowB (W1.alloc (.cells (nilA 64) 55)) tb 57 [.func (.func 23) #[] #[], .pointer (some ⟨nbOf H T, 0, none⟩), .int .i64 l] ∧ Kep (fun _ => False) w (W1.alloc (.cells (nilA 64) 55))) := HS2.out _ _ FW1.out (kW2.mono (fun _ _ h => h.elim))
            have hrcbW2 : RowB (W1.alloc (.cells (nilA 64) 55)) W1.heap.size 55 (nils 64) := by have := row_newA W1 55 (nilA 64); rwa [nilA_list] at this
            have grcb : w.heap.size ≤ W1.heap.size := FW1.out.2.size
            have neribrcb : rib ≠ W1.heap.size := Nat.ne_of_lt hribW1.lt
            have hribW2 : RowB (W1.alloc (.cells (nilA 64) 55)) rib 46 (nils 63) := hribW1.kep kW2 (by first | exact id | (have := ne; omega) | omega)
            refine hK.out _ _ trivial (fun _ => by rw [FW2.out.1.cell]; rfl) ?_
            clear hK kW2
            clear hribW1
            generalize W1.heap.size = rcb at *
            generalize W1.alloc (.cells (nilA 64) 55) = W2 at *
            try simp only [Act.put, List.getElem_toArray, List.getElem_cons_succ, List.getElem_cons_zero, List.setIfInBounds_toArray, List.set_cons_zero, List.set_cons_succ]
            refine wpAnyG_ready (rs := [7]) (by kernel_rfl) (by simp) ?_
            refine AllReadyG.cons rfl (fun K hK => ?_) AllReadyG.nil
            go_simp
            have kW3 : Kep (fun _ => False) W2 (W2.alloc (.cells #[.pointer (some ⟨nbOf H T, 0, none⟩)] 55)) := (Kep.refl _ _).alloc _
            have FW3 : Hid (RowB (W2.alloc (.cells #[.pointer (some ⟨nbOf H T, 0, none⟩)] 55)) tb 57 [.func (.func 23) #[] #[], .pointer (some ⟨nbOf H T, 0, none⟩), .int .i64 l] ∧ Kep (fun _ => False) w (W2.alloc (.cells #[.pointer (some ⟨nbOf H T, 0, none⟩)] 55))) := HS2.out _ _ FW2.out (kW3.mono (fun _ _ h => h.elim))
            have hvbW3 : RowB (W2.alloc (.cells #[.pointer (some ⟨nbOf H T, 0, none⟩)] 55)) W2.heap.size 55 [.pointer (some ⟨nbOf H T, 0, none⟩)] := row_new W2 55 [.pointer (some ⟨nbOf H T, 0, none⟩)]
            have gvb : w.heap.size ≤ W2.heap.size := FW2.out.2.size
            have neribvb : rib ≠ W2.heap.size := Nat.ne_of_lt hribW2.lt
            have nercbvb : rcb ≠ W2.heap.size := Nat.ne_of_lt hrcbW2.lt
            have hribW3 : RowB (W2.alloc (.cells #[.pointer (some ⟨nbOf H T, 0, none⟩)] 55)) rib 46 (nils 63) := hribW2.kep kW3 (by first | exact id | (have := ne; omega) | omega)
            have hrcbW3 : RowB (W2.alloc (.cells #[.pointer (some ⟨nbOf H T, 0, none⟩)] 55)) rcb 55 (nils 64) := hrcbW2.kep kW3 (by first | exact id | (have := ne; omega) | omega)
            refine hK.out _ _ trivial (fun _ => by rw [FW3.out.1.cell]; rfl) ?_
            clear hK kW3
            clear hribW2
            clear hrcbW2
            generalize W2.heap.size = vb at *
            generalize W2.alloc (.cells #[.pointer (some ⟨nbOf H T, 0, none⟩)] 55) = W3 at *
            try simp only [Act.put, List.getElem_toArray, List.getElem_cons_succ, List.getElem_cons_zero, List.setIfInBounds_toArray, List.set_cons_zero, List.set_cons_succ]
            refine wpAnyG_ready (rs := [8]) (by kernel_rfl) (by simp) ?_
            refine AllReadyG.cons rfl (fun K hK => ?_) AllReadyG.nil
            have ap : ∀ ty, (Builtin.append_ #[60, 60] ty #[.slice (some ⟨rcb, 0, none⟩) 0 64, .slice (some ⟨vb, 0, none⟩) 1 1]).run Try.prog W3 = .ok (.slice (some ⟨rcb, 0, none⟩) 1 64) (W3.setCells rcb 0 [.pointer (some ⟨nbOf H T, 0, none⟩)]) ∧ RowB (W3.setCells rcb 0 [.pointer (some ⟨nbOf H T, 0, none⟩)]) rcb 55 ([] ++ [.pointer (some ⟨nbOf H T, 0, none⟩)] ++ nils 63) ∧ Kep (fun k => k = rcb) W3 (W3.setCells rcb 0 [.pointer (some ⟨nbOf H T, 0, none⟩)]) := fun ty =>
              append60 (w := W3) (b := rcb) (a := vb) (o := 0) (n := 0) (c := 64) (m := 1) (X := []) (R1 := nils 1) (R2 := nils 63) (A := []) (news := [.pointer (some ⟨nbOf H T, 0, none⟩)]) (A2 := []) (by have := hrcbW3; simpa [nils] using this) rfl (by simp [nils]) rfl (by simp [nils]) hvbW3 rfl (fun u hu => by simp at hu; subst hu; rfl) ty 1
            refine step_append_runI rfl (.tmp 20) (.tmp 25) 60 rfl _ _ rfl rfl (ap _).1 ?_
            have kW4 := (ap 0).2.2
            have FW4 : Hid (RowB (W3.setCells rcb 0 [.pointer (some ⟨nbOf H T, 0, none⟩)]) tb 57 [.func (.func 23) #[] #[], .pointer (some ⟨nbOf H T, 0, none⟩), .int .i64 l] ∧ Kep (fun _ => False) w (W3.setCells rcb 0 [.pointer (some ⟨nbOf H T, 0, none⟩)])) := HS2.out _ _ FW3.out (kW4.mono (fun j _ h => by rw [h]; exact grcb))
            have hrcbW4 : RowB (W3.setCells rcb 0 [.pointer (some ⟨nbOf H T, 0, none⟩)]) rcb 55 (.pointer (some ⟨nbOf H T, 0, none⟩) :: nils 63) := (ap 0).2.1
            have hribW4 : RowB (W3.setCells rcb 0 [.pointer (some ⟨nbOf H T, 0, none⟩)]) rib 46 (nils 63) := hribW3.kep kW4 (row_ne hribW3 hrcbW3 (by decide))
            refine hK.out _ _ trivial (fun _ => by rw [FW4.out.1.cell]; rfl) ?_
            clear hK kW4 ap
            generalize W3.setCells rcb 0 [.pointer (some ⟨nbOf H T, 0, none⟩)] = W4 at *
            try simp only [Act.put, List.getElem_toArray, List.getElem_cons_succ, List.getElem_cons_zero, List.setIfInBounds_toArray, List.set_cons_zero, List.set_cons_succ]
            have HA2 : Hid (W4.cell? ⟨tb, 1, none⟩ = some (.pointer (some ⟨nbOf H T, 0, none⟩))) := by rw [FW4.out.1.cell]; rfl
            refine wpAnyG_takeB (i := 9) (v := .agg #[.slice (some ⟨rib, 0, none⟩) 0 63, .slice (some ⟨rcb, 0, none⟩) 1 64]) rfl (by kernel_rfl) (by kernel_rfl) (by kernel_rfl) (by kernel_rfl) (fun _ _ _ h => h) (fun _ => HA2.out) trivial (Or.inl ⟨by rfl, fun w' hSw => by kernel_rfl⟩) ?_
            try simp only [Act.put, List.getElem_toArray, List.getElem_cons_succ, List.getElem_cons_zero, List.setIfInBounds_toArray, List.set_cons_zero, List.set_cons_succ]
            refine wpAnyG_step (i := 10) (by kernel_rfl) rfl (fun K hK => ?_)
            go_simp
            have kf : Kep (fun _ => False) W4 (W4.alloc (.cells #[.slice (some ⟨rib, 0, none⟩) 0 63, .slice (some ⟨rcb, 0, none⟩) 1 64] 62)) := (Kep.refl _ _).alloc _
            have FF : Hid (RowB (W4.alloc (.cells #[.slice (some ⟨rib, 0, none⟩) 0 63, .slice (some ⟨rcb, 0, none⟩) 1 64] 62)) tb 57 [.func (.func 23) #[] #[], .pointer (some ⟨nbOf H T, 0, none⟩), .int .i64 l] ∧ Kep (fun _ => False) w (W4.alloc (.cells #[.slice (some ⟨rib, 0, none⟩) 0 63, .slice (some ⟨rcb, 0, none⟩) 1 64] 62))) := HS2.out _ _ FW4.out (kf.mono (fun _ _ h => h.elim))
            have hrb : RowB (W4.alloc (.cells #[.slice (some ⟨rib, 0, none⟩) 0 63, .slice (some ⟨rcb, 0, none⟩) 1 64] 62)) W4.heap.size 62 [.slice (some ⟨rib, 0, none⟩) 0 63, .slice (some ⟨rcb, 0, none⟩) 1 64] := row_new W4 62 [.slice (some ⟨rib, 0, none⟩) 0 63, .slice (some ⟨rcb, 0, none⟩) 1 64]
            have hRR : Hid (NodeR (W4.alloc (.cells #[.slice (some ⟨rib, 0, none⟩) 0 63, .slice (some ⟨rcb, 0, none⟩) 1 64] 62)) W4.heap.size rib rcb 0 1 (nils 63) (.pointer (some ⟨nbOf H T, 0, none⟩) :: nils 63)) := ⟨hrb, hribW4.kep kf id, hrcbW4.kep kf id⟩
            have gg : Hid (w.heap.size ≤ W4.heap.size ∧ w.heap.size ≤ rib ∧ w.heap.size ≤ rcb) := ⟨FW4.out.2.size, grib, grcb⟩
            refine hK.out _ _ trivial (fun _ => by rw [FF.out.1.cell]; rfl) ?_
            clear hK kf hrb HA2
            generalize W4.heap.size = rb at *
            generalize W4.alloc (.cells #[.slice (some ⟨rib, 0, none⟩) 0 63, .slice (some ⟨rcb, 0, none⟩) 1 64] 62) = WF at *
            try simp only [Act.put, List.getElem_toArray, List.getElem_cons_succ, List.getElem_cons_zero, List.setIfInBounds_toArray, List.set_cons_zero, List.set_cons_succ]
            have HA2 : Hid (WF.cell? ⟨tb, 1, none⟩ = some (.pointer (some ⟨nbOf H T, 0, none⟩))) := by rw [FF.out.1.cell]; rfl
            refine wpAnyG_takeB (i := 11) (v := .pointer (some ⟨tb, 0, none⟩)) rfl (by kernel_rfl) (by kernel_rfl) (by kernel_rfl) (by kernel_rfl) (fun _ _ _ h => h) (fun _ => HA2.out) trivial (Or.inl ⟨by rfl, fun w' hSw => by go_simp⟩) ?_
            try simp only [Act.put, List.getElem_toArray, List.getElem_cons_succ, List.getElem_cons_zero, List.setIfInBounds_toArray, List.set_cons_zero, List.set_cons_succ]
            refine wpAnyG_takeB (i := 12) (v := .pointer (some ⟨tb, 1, none⟩)) rfl (by kernel_rfl) (by kernel_rfl) (by kernel_rfl) (by kernel_rfl) (fun _ _ _ h => h) (fun _ => HA2.out) trivial (Or.inl ⟨by rfl, fun w' hSw => by go_simp⟩) ?_
            try simp only [Act.put, List.getElem_toArray, List.getElem_cons_succ, List.getElem_cons_zero, List.setIfInBounds_toArray, List.set_cons_zero, List.set_cons_succ]
            have c1 := HA2.out
            have f1 := FF.out.1.frozen 1
            refine wpAnyG_step (i := 13) (by kernel_rfl) rfl (fun K hK => ?_)
            go_simp
            refine hK.out _ _ trivial (fun h => not_early (by kernel_rfl) h) ?_
            clear hK c1 f1 HA2
            try simp only [Act.put, List.getElem_toArray, List.getElem_cons_succ, List.getElem_cons_zero, List.setIfInBounds_toArray, List.set_cons_zero, List.set_cons_succ]
            refine wpAnyG_done (by kernel_rfl) ?_ _
            refine NoPanic.normal ?_
            go_wp2_with fail
            go_meet
            case rel =>
              have hlt := HT.out.1.row.lt
              exact ⟨rb, rib, rcb, ⟨gg.out.1, gg.out.2.1, gg.out.2.2⟩, FF.out.1.set (P := [.func (.func 23) #[] #[]]) rfl rfl, hRR.out.kep (kep_set _ _ _ _) (by have := gg.out; omega) (by have := gg.out; omega) (by have := gg.out; omega), (FF.out.2.mono (N := fun k => k = tb) (fun _ _ h => h.elim)).trans (kep_set _ _ _ _) (fun _ _ h => h)⟩
          · go_simp
            have kW2 : Kep (fun _ => False) W1 (W1.alloc (.cells #[.pointer (some ⟨nbOf H T, 0, none⟩)] 55)) := (Kep.refl _ _).alloc _
            have FW2 : Hid (RowB (W1.alloc (.cells #[.pointer (some ⟨nbOf H T, 0, none⟩)] 55)) tb 57 [.func (.func 23) #[] #[], .pointer (some ⟨nbOf H T, 0, none⟩), .int .i64 l] ∧ Kep (fun _ => False) w (W1.alloc (.cells #[.pointer (some ⟨nbOf H T, 0, none⟩)] 55))) := HS2.out _ _ FW1.out (kW2.mono (fun _ _ h => h.elim))
            have hvbW2 : RowB (W1.alloc (.cells #[.pointer (some ⟨nbOf H T, 0, none⟩)] 55)) W1.heap.size 55 [.pointer (some ⟨nbOf H T, 0, none⟩)] := row_new W1 55 [.pointer (some ⟨nbOf H T, 0, none⟩)]
            have gvb : w.heap.size ≤ W1.heap.size := FW1.out.2.size
            have neribvb : rib ≠ W1.heap.size := Nat.ne_of_lt hribW1.lt
            have hribW2 : RowB (W1.alloc (.cells #[.pointer (some ⟨nbOf H T, 0, none⟩)] 55)) rib 46 (nils 63) := hribW1.kep kW2 (by first | exact id | (have := ne; omega) | omega)
            refine hK.out _ _ trivial (fun _ => by rw [FW2.out.1.cell]; rfl) ?_
            clear hK kW2
            clear hribW1
            generalize W1.heap.size = vb at *
            generalize W1.alloc (.cells #[.pointer (some ⟨nbOf H T, 0, none⟩)] 55) = W2 at *
            try simp only [Act.put, List.getElem_toArray, List.getElem_cons_succ, List.getElem_cons_zero, List.setIfInBounds_toArray, List.set_cons_zero, List.set_cons_succ]
            refine wpAnyG_ready (rs := [2]) (by kernel_rfl) (by simp) ?_
            refine AllReadyG.cons rfl (fun K hK => ?_) AllReadyG.nil
            go_simp
            have kW3 : Kep (fun _ => False) W2 (W2.alloc (.cells (nilA 64) 55)) := (Kep.refl _ _).alloc _
            have FW3 : Hid (RowB (W2.alloc (.cells (nilA 64) 55)) tb 57 [.func (.func 23) #[] #[], .pointer (some ⟨nbOf H T, 0, none⟩), .int .i64 l] ∧ Kep (fun _ => False) w (W2.alloc (.cells (nilA 64) 55))) := HS2.out _ _ FW2.out (kW3.mono (fun _ _ h => h.elim))
            have hrcbW3 : RowB (W2.alloc (.cells (nilA 64) 55)) W2.heap.size 55 (nils 64) := by have := row_newA W2 55 (nilA 64); rwa [nilA_list] at this
            have grcb : w.heap.size ≤ W2.heap.size := FW2.out.2.size
            have neribrcb : rib ≠ W2.heap.size := Nat.ne_of_lt hribW2.lt
            have nevbrcb : vb ≠ W2.heap.size := Nat.ne_of_lt hvbW2.lt
            have hribW3 : RowB (W2.alloc (.cells (nilA 64) 55)) rib 46 (nils 63) := hribW2.kep kW3 (by first | exact id | (have := ne; omega) | omega)
            have hvbW3 : RowB (W2.alloc (.cells (nilA 64) 55)) vb 55 [.pointer (some ⟨nbOf H T, 0, none⟩)] := hvbW2.kep kW3 (by first | exact id | (have := ne; omega) | omega)
            refine hK.out _ _ trivial (fun _ => by rw [FW3.out.1.cell]; rfl) ?_
            clear hK kW3
            clear hribW2
            clear hvbW2
            generalize W2.heap.size = rcb at *
            generalize W2.alloc (.cells (nilA 64) 55) = W3 at *
            try simp only [Act.put, List.getElem_toArray, List.getElem_cons_succ, List.getElem_cons_zero, List.setIfInBounds_toArray, List.set_cons_zero, List.set_cons_succ]
            refine wpAnyG_ready (rs := [8]) (by kernel_rfl) (by simp) ?_
            refine AllReadyG.cons rfl (fun K hK => ?_) AllReadyG.nil
            have ap : ∀ ty, (Builtin.append_ #[60, 60] ty #[.slice (some ⟨rcb, 0, none⟩) 0 64, .slice (some ⟨vb, 0, none⟩) 1 1]).run Try.prog W3 = .ok (.slice (some ⟨rcb, 0, none⟩) 1 64) (W3.setCells rcb 0 [.pointer (some ⟨nbOf H T, 0, none⟩)]) ∧ RowB (W3.setCells rcb 0 [.pointer (some ⟨nbOf H T, 0, none⟩)]) rcb 55 ([] ++ [.pointer (some ⟨nbOf H T, 0, none⟩)] ++ nils 63) ∧ Kep (fun k => k = rcb) W3 (W3.setCells rcb 0 [.pointer (some ⟨nbOf H T, 0, none⟩)]) := fun ty =>
              append60 (w := W3) (b := rcb) (a := vb) (o := 0) (n := 0) (c := 64) (m := 1) (X := []) (R1 := nils 1) (R2 := nils 63) (A := []) (news := [.pointer (some ⟨nbOf H T, 0, none⟩)]) (A2 := []) (by have := hrcbW3; simpa [nils] using this) rfl (by simp [nils]) rfl (by simp [nils]) hvbW3 rfl (fun u hu => by simp at hu; subst hu; rfl) ty 1
            refine step_append_runI rfl (.tmp 20) (.tmp 25) 60 rfl _ _ rfl rfl (ap _).1 ?_
            have kW4 := (ap 0).2.2
            have FW4 : Hid (RowB (W3.setCells rcb 0 [.pointer (some ⟨nbOf H T, 0, none⟩)]) tb 57 [.func (.func 23) #[] #[], .pointer (some ⟨nbOf H T, 0, none⟩), .int .i64 l] ∧ Kep (fun _ => False) w (W3.setCells rcb 0 [.pointer (some ⟨nbOf H T, 0, none⟩)])) := HS2.out _ _ FW3.out (kW4.mono (fun j _ h => by rw [h]; exact grcb))
            have hrcbW4 : RowB (W3.setCells rcb 0 [.pointer (some ⟨nbOf H T, 0, none⟩)]) rcb 55 (.pointer (some ⟨nbOf H T, 0, none⟩) :: nils 63) := (ap 0).2.1
            have hribW4 : RowB (W3.setCells rcb 0 [.pointer (some ⟨nbOf H T, 0, none⟩)]) rib 46 (nils 63) := hribW3.kep kW4 (row_ne hribW3 hrcbW3 (by decide))
            refine hK.out _ _ trivial (fun _ => by rw [FW4.out.1.cell]; rfl) ?_
            clear hK kW4 ap
            generalize W3.setCells rcb 0 [.pointer (some ⟨nbOf H T, 0, none⟩)] = W4 at *
            try simp only [Act.put, List.getElem_toArray, List.getElem_cons_succ, List.getElem_cons_zero, List.setIfInBounds_toArray, List.set_cons_zero, List.set_cons_succ]
            have HA2 : Hid (W4.cell? ⟨tb, 1, none⟩ = some (.pointer (some ⟨nbOf H T, 0, none⟩))) := by rw [FW4.out.1.cell]; rfl
            refine wpAnyG_takeB (i := 9) (v := .agg #[.slice (some ⟨rib, 0, none⟩) 0 63, .slice (some ⟨rcb, 0, none⟩) 1 64]) rfl (by kernel_rfl) (by kernel_rfl) (by kernel_rfl) (by kernel_rfl) (fun _ _ _ h => h) (fun _ => HA2.out) trivial (Or.inl ⟨by rfl, fun w' hSw => by kernel_rfl⟩) ?_
            try simp only [Act.put, List.getElem_toArray, List.getElem_cons_succ, List.getElem_cons_zero, List.setIfInBounds_toArray, List.set_cons_zero, List.set_cons_succ]
            refine wpAnyG_step (i := 10) (by kernel_rfl) rfl (fun K hK => ?_)
            go_simp
            have kf : Kep (fun _ => False) W4 (W4.alloc (.cells #[.slice (some ⟨rib, 0, none⟩) 0 63, .slice (some ⟨rcb, 0, none⟩) 1 64] 62)) := (Kep.refl _ _).alloc _
            have FF : Hid (RowB (W4.alloc (.cells #[.slice (some ⟨rib, 0, none⟩) 0 63, .slice (some ⟨rcb, 0, none⟩) 1 64] 62)) tb 57 [.func (.func 23) #[] #[], .pointer (some ⟨nbOf H T, 0, none⟩), .int .i64 l] ∧ Kep (fun _ => False) w (W4.alloc (.cells #[.slice (some ⟨rib, 0, none⟩) 0 63, .slice (some ⟨rcb, 0, none⟩) 1 64] 62))) := HS2.out _ _ FW4.out (kf.mono (fun _ _ h => h.elim))
            have hrb : RowB (W4.alloc (.cells #[.slice (some ⟨rib, 0, none⟩) 0 63, .slice (some ⟨rcb, 0, none⟩) 1 64] 62)) W4.heap.size 62 [.slice (some ⟨rib, 0, none⟩) 0 63, .slice (some ⟨rcb, 0, none⟩) 1 64] := row_new W4 62 [.slice (some ⟨rib, 0, none⟩) 0 63, .slice (some ⟨rcb, 0, none⟩) 1 64]
            have hRR : Hid (NodeR (W4.alloc (.cells #[.slice (some ⟨rib, 0, none⟩) 0 63, .slice (some ⟨rcb, 0, none⟩) 1 64] 62)) W4.heap.size rib rcb 0 1 (nils 63) (.pointer (some ⟨nbOf H T, 0, none⟩) :: nils 63)) := ⟨hrb, hribW4.kep kf id, hrcbW4.kep kf id⟩
            have gg : Hid (w.heap.size ≤ W4.heap.size ∧ w.heap.size ≤ rib ∧ w.heap.size ≤ rcb) := ⟨FW4.out.2.size, grib, grcb⟩
            refine hK.out _ _ trivial (fun _ => by rw [FF.out.1.cell]; rfl) ?_
            clear hK kf hrb HA2
            generalize W4.heap.size = rb at *
            generalize W4.alloc (.cells #[.slice (some ⟨rib, 0, none⟩) 0 63, .slice (some ⟨rcb, 0, none⟩) 1 64] 62) = WF at *
            try simp only [Act.put, List.getElem_toArray, List.getElem_cons_succ, List.getElem_cons_zero, List.setIfInBounds_toArray, List.set_cons_zero, List.set_cons_succ]
            have HA2 : Hid (WF.cell? ⟨tb, 1, none⟩ = some (.pointer (some ⟨nbOf H T, 0, none⟩))) := by rw [FF.out.1.cell]; rfl
            refine wpAnyG_takeB (i := 11) (v := .pointer (some ⟨tb, 0, none⟩)) rfl (by kernel_rfl) (by kernel_rfl) (by kernel_rfl) (by kernel_rfl) (fun _ _ _ h => h) (fun _ => HA2.out) trivial (Or.inl ⟨by rfl, fun w' hSw => by go_simp⟩) ?_
            try simp only [Act.put, List.getElem_toArray, List.getElem_cons_succ, List.getElem_cons_zero, List.setIfInBounds_toArray, List.set_cons_zero, List.set_cons_succ]
            refine wpAnyG_takeB (i := 12) (v := .pointer (some ⟨tb, 1, none⟩)) rfl (by kernel_rfl) (by kernel_rfl) (by kernel_rfl) (by kernel_rfl) (fun _ _ _ h => h) (fun _ => HA2.out) trivial (Or.inl ⟨by rfl, fun w' hSw => by go_simp⟩) ?_
            try simp only [Act.put, List.getElem_toArray, List.getElem_cons_succ, List.getElem_cons_zero, List.setIfInBounds_toArray, List.set_cons_zero, List.set_cons_succ]
            have c1 := HA2.out
            have f1 := FF.out.1.frozen 1
            refine wpAnyG_step (i := 13) (by kernel_rfl) rfl (fun K hK => ?_)
            go_simp
            refine hK.out _ _ trivial (fun h => not_early (by kernel_rfl) h) ?_
            clear hK c1 f1 HA2
            try simp only [Act.put, List.getElem_toArray, List.getElem_cons_succ, List.getElem_cons_zero, List.setIfInBounds_toArray, List.set_cons_zero, List.set_cons_succ]
            refine wpAnyG_done (by kernel_rfl) ?_ _
            refine NoPanic.normal ?_
            go_wp2_with fail
            go_meet
            case rel =>
              have hlt := HT.out.1.row.lt
              exact ⟨rb, rib, rcb, ⟨gg.out.1, gg.out.2.1, gg.out.2.2⟩, FF.out.1.set (P := [.func (.func 23) #[] #[]]) rfl rfl, hRR.out.kep (kep_set _ _ _ _) (by have := gg.out; omega) (by have := gg.out; omega) (by have := gg.out; omega), (FF.out.2.mono (N := fun k => k = tb) (fun _ _ h => h.elim)).trans (kep_set _ _ _ _) (fun _ _ h => h)⟩
        · go_simp
          have kW1 : Kep (fun _ => False) W0 (W0.alloc (.cells (nilA 64) 55)) := (Kep.refl _ _).alloc _
          have FW1 : Hid (RowB (W0.alloc (.cells (nilA 64) 55)) tb 57 [.func (.func 23) #[] #[], .pointer (some ⟨nbOf H T, 0, none⟩), .int .i64 l] ∧ Kep (fun _ => False) w (W0.alloc (.cells (nilA 64) 55))) := HS2.out _ _ FW0.out (kW1.mono (fun _ _ h => h.elim))
          have hrcbW1 : RowB (W0.alloc (.cells (nilA 64) 55)) W0.heap.size 55 (nils 64) := by have := row_newA W0 55 (nilA 64); rwa [nilA_list] at this
          have grcb : w.heap.size ≤ W0.heap.size := FW0.out.2.size
          refine hK.out _ _ trivial (fun _ => by rw [FW1.out.1.cell]; rfl) ?_
          clear hK kW1
          generalize W0.heap.size = rcb at *
          generalize W0.alloc (.cells (nilA 64) 55) = W1 at *
          try simp only [Act.put, List.getElem_toArray, List.getElem_cons_succ, List.getElem_cons_zero, List.setIfInBounds_toArray, List.set_cons_zero, List.set_cons_succ]
          refine wpAnyG_ready (rs := [1, 7]) (by kernel_rfl) (by simp) ?_
          refine AllReadyG.cons rfl (fun K hK => ?_) (AllReadyG.cons rfl (fun K hK => ?_) AllReadyG.nil)
          · go_simp
            have kW2 : Kep (fun _ => False) W1 (W1.alloc (.cells (nilA 63) 46)) := (Kep.refl _ _).alloc _
            have FW2 : Hid (RowB (W1.alloc (.cells (nilA 63) 46)) tb 57 [.func (.func 23) #[] #[], .pointer (some ⟨nbOf H T, 0, none⟩), .int .i64 l] ∧ Kep (fun _ => False) w (W1.alloc (.cells (nilA 63) 46))) := HS2.out _ _ FW1.out (kW2.mono (fun _ _ h => h.elim))
            have hribW2 : RowB (W1.alloc (.cells (nilA 63) 46)) W1.heap.size 46 (nils 63) := by have := row_newA W1 46 (nilA 63); rwa [nilA_list] at this
            have grib : w.heap.size ≤ W1.heap.size := FW1.out.2.size
            have nercbrib : rcb ≠ W1.heap.size := Nat.ne_of_lt hrcbW1.lt
            have hrcbW2 : RowB (W1.alloc (.cells (nilA 63) 46)) rcb 55 (nils 64) := hrcbW1.kep kW2 (by first | exact id | (have := ne; omega) | omega)
            refine hK.out _ _ trivial (fun _ => by rw [FW2.out.1.cell]; rfl) ?_
            clear hK kW2
            clear hrcbW1
            generalize W1.heap.size = rib at *
            generalize W1.alloc (.cells (nilA 63) 46) = W2 at *
            try simp only [Act.put, List.getElem_toArray, List.getElem_cons_succ, List.getElem_cons_zero, List.setIfInBounds_toArray, List.set_cons_zero, List.set_cons_succ]
            refine wpAnyG_ready (rs := [7]) (by kernel_rfl) (by simp) ?_
            refine AllReadyG.cons rfl (fun K hK => ?_) AllReadyG.nil
            go_simp
            have kW3 : Kep (fun _ => False) W2 (W2.alloc (.cells #[.pointer (some ⟨nbOf H T, 0, none⟩)] 55)) := (Kep.refl _ _).alloc _
            have FW3 : Hid (RowB (W2.alloc (.cells #[.pointer (some ⟨nbOf H T, 0, none⟩)] 55)) tb 57 [.func (.func 23) #[] #[], .pointer (some ⟨nbOf H T, 0, none⟩), .int .i64 l] ∧ Kep (fun _ => False) w (W2.alloc (.cells #[.pointer (some ⟨nbOf H T, 0, none⟩)] 55))) := HS2.out _ _ FW2.out (kW3.mono (fun _ _ h => h.elim))
            have hvbW3 : RowB (W2.alloc (.cells #[.pointer (some ⟨nbOf H T, 0, none⟩)] 55)) W2.heap.size 55 [.pointer (some ⟨nbOf H T, 0, none⟩)] := row_new W2 55 [.pointer (some ⟨nbOf H T, 0, none⟩)]
            have gvb : w.heap.size ≤ W2.heap.size := FW2.out.2.size
            have nercbvb : rcb ≠ W2.heap.size := Nat.ne_of_lt hrcbW2.lt
            have neribvb : rib ≠ W2.heap.size := Nat.ne_of_lt hribW2.lt
            have hrcbW3 : RowB (W2.alloc (.cells #[.pointer (some ⟨nbOf H T, 0, none⟩)] 55)) rcb 55 (nils 64) := hrcbW2.kep kW3 (by first | exact id | (have := ne; omega) | omega)
            have hribW3 : RowB (W2.alloc (.cells #[.pointer (some ⟨nbOf H T, 0, none⟩)] 55)) rib 46 (nils 63) := hribW2.kep kW3 (by first | exact id | (have := ne; omega) | omega)
            refine hK.out _ _ trivial (fun _ => by rw [FW3.out.1.cell]; rfl) ?_
            clear hK kW3
            clear hrcbW2
            clear hribW2
            generalize W2.heap.size = vb at *
            generalize W2.alloc (.cells #[.pointer (some ⟨nbOf H T, 0, none⟩)] 55) = W3 at *
            try simp only [Act.put, List.getElem_toArray, List.getElem_cons_succ, List.getElem_cons_zero, List.setIfInBounds_toArray, List.set_cons_zero, List.set_cons_succ]
            refine wpAnyG_ready (rs := [8]) (by kernel_rfl) (by simp) ?_
            refine AllReadyG.cons rfl (fun K hK => ?_) AllReadyG.nil
            have ap : ∀ ty, (Builtin.append_ #[60, 60] ty #[.slice (some ⟨rcb, 0, none⟩) 0 64, .slice (some ⟨vb, 0, none⟩) 1 1]).run Try.prog W3 = .ok (.slice (some ⟨rcb, 0, none⟩) 1 64) (W3.setCells rcb 0 [.pointer (some ⟨nbOf H T, 0, none⟩)]) ∧ RowB (W3.setCells rcb 0 [.pointer (some ⟨nbOf H T, 0, none⟩)]) rcb 55 ([] ++ [.pointer (some ⟨nbOf H T, 0, none⟩)] ++ nils 63) ∧ Kep (fun k => k = rcb) W3 (W3.setCells rcb 0 [.pointer (some ⟨nbOf H T, 0, none⟩)]) := fun ty =>
              append60 (w := W3) (b := rcb) (a := vb) (o := 0) (n := 0) (c := 64) (m := 1) (X := []) (R1 := nils 1) (R2 := nils 63) (A := []) (news := [.pointer (some ⟨nbOf H T, 0, none⟩)]) (A2 := []) (by have := hrcbW3; simpa [nils] using this) rfl (by simp [nils]) rfl (by simp [nils]) hvbW3 rfl (fun u hu => by simp at hu; subst hu; rfl) ty 1
            refine step_append_runI rfl (.tmp 20) (.tmp 25) 60 rfl _ _ rfl rfl (ap _).1 ?_
            have kW4 := (ap 0).2.2
            have FW4 : Hid (RowB (W3.setCells rcb 0 [.pointer (some ⟨nbOf H T, 0, none⟩)]) tb 57 [.func (.func 23) #[] #[], .pointer (some ⟨nbOf H T, 0, none⟩), .int .i64 l] ∧ Kep (fun _ => False) w (W3.setCells rcb 0 [.pointer (some ⟨nbOf H T, 0, none⟩)])) := HS2.out _ _ FW3.out (kW4.mono (fun j _ h => by rw [h]; exact grcb))
            have hrcbW4 : RowB (W3.setCells rcb 0 [.pointer (some ⟨nbOf H T, 0, none⟩)]) rcb 55 (.pointer (some ⟨nbOf H T, 0, none⟩) :: nils 63) := (ap 0).2.1
            have hribW4 : RowB (W3.setCells rcb 0 [.pointer (some ⟨nbOf H T, 0, none⟩)]) rib 46 (nils 63) := hribW3.kep kW4 (row_ne hribW3 hrcbW3 (by decide))
            refine hK.out _ _ trivial (fun _ => by rw [FW4.out.1.cell]; rfl) ?_
            clear hK kW4 ap
            generalize W3.setCells rcb 0 [.pointer (some ⟨nbOf H T, 0, none⟩)] = W4 at *
            try simp only [Act.put, List.getElem_toArray, List.getElem_cons_succ, List.getElem_cons_zero, List.setIfInBounds_toArray, List.set_cons_zero, List.set_cons_succ]
            have HA2 : Hid (W4.cell? ⟨tb, 1, none⟩ = some (.pointer (some ⟨nbOf H T, 0, none⟩))) := by rw [FW4.out.1.cell]; rfl
            refine wpAnyG_takeB (i := 9) (v := .agg #[.slice (some ⟨rib, 0, none⟩) 0 63, .slice (some ⟨rcb, 0, none⟩) 1 64]) rfl (by kernel_rfl) (by kernel_rfl) (by kernel_rfl) (by kernel_rfl) (fun _ _ _ h => h) (fun _ => HA2.out) trivial (Or.inl ⟨by rfl, fun w' hSw => by kernel_rfl⟩) ?_
            try simp only [Act.put, List.getElem_toArray, List.getElem_cons_succ, List.getElem_cons_zero, List.setIfInBounds_toArray, List.set_cons_zero, List.set_cons_succ]
            refine wpAnyG_step (i := 10) (by kernel_rfl) rfl (fun K hK => ?_)
            go_simp
            have kf : Kep (fun _ => False) W4 (W4.alloc (.cells #[.slice (some ⟨rib, 0, none⟩) 0 63, .slice (some ⟨rcb, 0, none⟩) 1 64] 62)) := (Kep.refl _ _).alloc _
            have FF : Hid (RowB (W4.alloc (.cells #[.slice (some ⟨rib, 0, none⟩) 0 63, .slice (some ⟨rcb, 0, none⟩) 1 64] 62)) tb 57 [.func (.func 23) #[] #[], .pointer (some ⟨nbOf H T, 0, none⟩), .int .i64 l] ∧ Kep (fun _ => False) w (W4.alloc (.cells #[.slice (some ⟨rib, 0, none⟩) 0 63, .slice (some ⟨rcb, 0, none⟩) 1 64] 62))) := HS2.out _ _ FW4.out (kf.mono (fun _ _ h => h.elim))
            have hrb : RowB (W4.alloc (.cells #[.slice (some ⟨rib, 0, none⟩) 0 63, .slice (some ⟨rcb, 0, none⟩) 1 64] 62)) W4.heap.size 62 [.slice (some ⟨rib, 0, none⟩) 0 63, .slice (some ⟨rcb, 0, none⟩) 1 64] := row_new W4 62 [.slice (some ⟨rib, 0, none⟩) 0 63, .slice (some ⟨rcb, 0, none⟩) 1 64]
            have hRR : Hid (NodeR (W4.alloc (.cells #[.slice (some ⟨rib, 0, none⟩) 0 63, .slice (some ⟨rcb, 0, none⟩) 1 64] 62)) W4.heap.size rib rcb 0 1 (nils 63) (.pointer (some ⟨nbOf H T, 0, none⟩) :: nils 63)) := ⟨hrb, hribW4.kep kf id, hrcbW4.kep kf id⟩
            have gg : Hid (w.heap.size ≤ W4.heap.size ∧ w.heap.size ≤ rib ∧ w.heap.size ≤ rcb) := ⟨FW4.out.2.size, grib, grcb⟩
            refine hK.out _ _ trivial (fun _ => by rw [FF.out.1.cell]; rfl) ?_
            clear hK kf hrb HA2
            generalize W4.heap.size = rb at *
            generalize W4.alloc (.cells #[.slice (some ⟨rib, 0, none⟩) 0 63, .slice (some ⟨rcb, 0, none⟩) 1 64] 62) = WF at *
            try simp only [Act.put, List.getElem_toArray, List.getElem_cons_succ, List.getElem_cons_zero, List.setIfInBounds_toArray, List.set_cons_zero, List.set_cons_succ]
            have HA2 : Hid (WF.cell? ⟨tb, 1, none⟩ = some (.pointer (some ⟨nbOf H T, 0, none⟩))) := by rw [FF.out.1.cell]; rfl
            refine wpAnyG_takeB (i := 11) (v := .pointer (some ⟨tb, 0, none⟩)) rfl (by kernel_rfl) (by kernel_rfl) (by kernel_rfl) (by kernel_rfl) (fun _ _ _ h => h) (fun _ => HA2.out) trivial (Or.inl ⟨by rfl, fun w' hSw => by go_simp⟩) ?_
            try simp only [Act.put, List.getElem_toArray, List.getElem_cons_succ, List.getElem_cons_zero, List.setIfInBounds_toArray, List.set_cons_zero, List.set_cons_succ]
            refine wpAnyG_takeB (i := 12) (v := .pointer (some ⟨tb, 1, none⟩)) rfl (by kernel_rfl) (by kernel_rfl) (by kernel_rfl) (by kernel_rfl) (fun _ _ _ h => h) (fun _ => HA2.out) trivial (Or.inl ⟨by rfl, fun w' hSw => by go_simp⟩) ?_
            try simp only [Act.put, List.getElem_toArray, List.getElem_cons_succ, List.getElem_cons_zero, List.setIfInBounds_toArray, List.set_cons_zero, List.set_cons_succ]
            have c1 := HA2.out
            have f1 := FF.out.1.frozen 1
            refine wpAnyG_step (i := 13) (by kernel_rfl) rfl (fun K hK => ?_)
            go_simp
            refine hK.out _ _ trivial (fun h => not_early (by kernel_rfl) h) ?_
            clear hK c1 f1 HA2
            try simp only [Act.put, List.getElem_toArray, List.getElem_cons_succ, List.getElem_cons_zero, List.setIfInBounds_toArray, List.set_cons_zero, List.set_cons_succ]
            refine wpAnyG_done (by kernel_rfl) ?_ _
            refine NoPanic.normal ?_
            go_wp2_with fail
            go_meet
            case rel =>
              have hlt := HT.out.1.row.lt
              exact ⟨rb, rib, rcb, ⟨gg.out.1, gg.out.2.1, gg.out.2.2⟩, FF.out.1.set (P := [.func (.func 23) #[] #[]]) rfl rfl, hRR.out.kep (kep_set _ _ _ _) (by have := gg.out; omega) (by have := gg.out; omega) (by have := gg.out; omega), (FF.out.2.mono (N := fun k => k = tb) (fun _ _ h => h.elim)).trans (kep_set _ _ _ _) (fun _ _ h => h)⟩
          · go_simp
            have kW2 : Kep (fun _ => False) W1 (W1.alloc (.cells #[.pointer (some ⟨nbOf H T, 0, none⟩)] 55)) := (Kep.refl _ _).alloc _
            have FW2 : Hid (RowB (W1.alloc (.cells #[.pointer (some ⟨nbOf H T, 0, none⟩)] 55)) tb 57 [.func (.func 23) #[] #[], .pointer (some ⟨nbOf H T, 0, none⟩), .int .i64 l] ∧ Kep (fun _ => False) w (W1.alloc (.cells #[.pointer (some ⟨nbOf H T, 0, none⟩)] 55))) := HS2.out _ _ FW1.out (kW2.mono (fun _ _ h => h.elim))
            have hvbW2 : RowB (W1.alloc (.cells #[.pointer (some ⟨nbOf H T, 0, none⟩)] 55)) W1.heap.size 55 [.pointer (some ⟨nbOf H T, 0, none⟩)] := row_new W1 55 [.pointer (some ⟨nbOf H T, 0, none⟩)]
            have gvb : w.heap.size ≤ W1.heap.size := FW1.out.2.size
            have nercbvb : rcb ≠ W1.heap.size := Nat.ne_of_lt hrcbW1.lt
            have hrcbW2 : RowB (W1.alloc (.cells #[.pointer (some ⟨nbOf H T, 0, none⟩)] 55)) rcb 55 (nils 64) := hrcbW1.kep kW2 (by first | exact id | (have := ne; omega) | omega)
            refine hK.out _ _ trivial (fun _ => by rw [FW2.out.1.cell]; rfl) ?_
            clear hK kW2
            clear hrcbW1
            generalize W1.heap.size = vb at *
            generalize W1.alloc (.cells #[.pointer (some ⟨nbOf H T, 0, none⟩)] 55) = W2 at *
            try simp only [Act.put, List.getElem_toArray, List.getElem_cons_succ, List.getElem_cons_zero, List.setIfInBounds_toArray, List.set_cons_zero, List.set_cons_succ]
            refine wpAnyG_ready (rs := [1, 8]) (by kernel_rfl) (by simp) ?_
            refine AllReadyG.cons rfl (fun K hK => ?_) (AllReadyG.cons rfl (fun K hK => ?_) AllReadyG.nil)
            · go_simp
              have kW3 : Kep (fun _ => False) W2 (W2.alloc (.cells (nilA 63) 46)) := (Kep.refl _ _).alloc _
              have FW3 : Hid (RowB (W2.alloc (.cells (nilA 63) 46)) tb 57 [.func (.func 23) #[] #[], .pointer (some ⟨nbOf H T, 0, none⟩), .int .i64 l] ∧ Kep (fun _ => False) w (W2.alloc (.cells (nilA 63) 46))) := HS2.out _ _ FW2.out (kW3.mono (fun _ _ h => h.elim))
              have hribW3 : RowB (W2.alloc (.cells (nilA 63) 46)) W2.heap.size 46 (nils 63) := by have := row_newA W2 46 (nilA 63); rwa [nilA_list] at this
              have grib : w.heap.size ≤ W2.heap.size := FW2.out.2.size
              have nercbrib : rcb ≠ W2.heap.size := Nat.ne_of_lt hrcbW2.lt
              have nevbrib : vb ≠ W2.heap.size := Nat.ne_of_lt hvbW2.lt
              have hrcbW3 : RowB (W2.alloc (.cells (nilA 63) 46)) rcb 55 (nils 64) := hrcbW2.kep kW3 (by first | exact id | (have := ne; omega) | omega)
              have hvbW3 : RowB (W2.alloc (.cells (nilA 63) 46)) vb 55 [.pointer (some ⟨nbOf H T, 0, none⟩)] := hvbW2.kep kW3 (by first | exact id | (have := ne; omega) | omega)
              refine hK.out _ _ trivial (fun _ => by rw [FW3.out.1.cell]; rfl) ?_
              clear hK kW3
              clear hrcbW2
              clear hvbW2
              generalize W2.heap.size = rib at *
              generalize W2.alloc (.cells (nilA 63) 46) = W3 at *
              try simp only [Act.put, List.getElem_toArray, List.getElem_cons_succ, List.getElem_cons_zero, List.setIfInBounds_toArray, List.set_cons_zero, List.set_cons_succ]
              refine wpAnyG_ready (rs := [8]) (by kernel_rfl) (by simp) ?_
              refine AllReadyG.cons rfl (fun K hK => ?_) AllReadyG.nil
              have ap : ∀ ty, (Builtin.append_ #[60, 60] ty #[.slice (some ⟨rcb, 0, none⟩) 0 64, .slice (some ⟨vb, 0, none⟩) 1 1]).run Try.prog W3 = .ok (.slice (some ⟨rcb, 0, none⟩) 1 64) (W3.setCells rcb 0 [.pointer (some ⟨nbOf H T, 0, none⟩)]) ∧ RowB (W3.setCells rcb 0 [.pointer (some ⟨nbOf H T, 0, none⟩)]) rcb 55 ([] ++ [.pointer (some ⟨nbOf H T, 0, none⟩)] ++ nils 63) ∧ Kep (fun k => k = rcb) W3 (W3.setCells rcb 0 [.pointer (some ⟨nbOf H T, 0, none⟩)]) := fun ty =>
                append60 (w := W3) (b := rcb) (a := vb) (o := 0) (n := 0) (c := 64) (m := 1) (X := []) (R1 := nils 1) (R2 := nils 63) (A := []) (news := [.pointer (some ⟨nbOf H T, 0, none⟩)]) (A2 := []) (by have := hrcbW3; simpa [nils] using this) rfl (by simp [nils]) rfl (by simp [nils]) hvbW3 rfl (fun u hu => by simp at hu; subst hu; rfl) ty 1
              refine step_append_runI rfl (.tmp 20) (.tmp 25) 60 rfl _ _ rfl rfl (ap _).1 ?_
              have kW4 := (ap 0).2.2
              have FW4 : Hid (RowB (W3.setCells rcb 0 [.pointer (some ⟨nbOf H T, 0, none⟩)]) tb 57 [.func (.func 23) #[] #[], .pointer (some ⟨nbOf H T, 0, none⟩), .int .i64 l] ∧ Kep (fun _ => False) w (W3.setCells rcb 0 [.pointer (some ⟨nbOf H T, 0, none⟩)])) := HS2.out _ _ FW3.out (kW4.mono (fun j _ h => by rw [h]; exact grcb))
              have hrcbW4 : RowB (W3.setCells rcb 0 [.pointer (some ⟨nbOf H T, 0, none⟩)]) rcb 55 (.pointer (some ⟨nbOf H T, 0, none⟩) :: nils 63) := (ap 0).2.1
              have hribW4 : RowB (W3.setCells rcb 0 [.pointer (some ⟨nbOf H T, 0, none⟩)]) rib 46 (nils 63) := hribW3.kep kW4 (row_ne hribW3 hrcbW3 (by decide))
              refine hK.out _ _ trivial (fun _ => by rw [FW4.out.1.cell]; rfl) ?_
              clear hK kW4 ap
              generalize W3.setCells rcb 0 [.pointer (some ⟨nbOf H T, 0, none⟩)] = W4 at *
              try simp only [Act.put, List.getElem_toArray, List.getElem_cons_succ, List.getElem_cons_zero, List.setIfInBounds_toArray, List.set_cons_zero, List.set_cons_succ]
              have HA2 : Hid (W4.cell? ⟨tb, 1, none⟩ = some (.pointer (some ⟨nbOf H T, 0, none⟩))) := by rw [FW4.out.1.cell]; rfl
              refine wpAnyG_takeB (i := 9) (v := .agg #[.slice (some ⟨rib, 0, none⟩) 0 63, .slice (some ⟨rcb, 0, none⟩) 1 64]) rfl (by kernel_rfl) (by kernel_rfl) (by kernel_rfl) (by kernel_rfl) (fun _ _ _ h => h) (fun _ => HA2.out) trivial (Or.inl ⟨by rfl, fun w' hSw => by kernel_rfl⟩) ?_
              try simp only [Act.put, List.getElem_toArray, List.getElem_cons_succ, List.getElem_cons_zero, List.setIfInBounds_toArray, List.set_cons_zero, List.set_cons_succ]
              refine wpAnyG_step (i := 10) (by kernel_rfl) rfl (fun K hK => ?_)
              go_simp
              have kf : Kep (fun _ => False) W4 (W4.alloc (.cells #[.slice (some ⟨rib, 0, none⟩) 0 63, .slice (some ⟨rcb, 0, none⟩) 1 64] 62)) := (Kep.refl _ _).alloc _
              have FF : Hid (RowB (W4.alloc (.cells #[.slice (some ⟨rib, 0, none⟩) 0 63, .slice (some ⟨rcb, 0, none⟩) 1 64] 62)) tb 57 [.func (.func 23) #[] #[], .pointer (some ⟨nbOf H T, 0, none⟩), .int .i64 l] ∧ Kep (fun _ => False) w (W4.alloc (.cells #[.slice (some ⟨rib, 0, none⟩) 0 63, .slice (some ⟨rcb, 0, none⟩) 1 64] 62))) := HS2.out _ _ FW4.out (kf.mono (fun _ _ h => h.elim))
              have hrb : RowB (W4.alloc (.cells #[.slice (some ⟨rib, 0, none⟩) 0 63, .slice (some ⟨rcb, 0, none⟩) 1 64] 62)) W4.heap.size 62 [.slice (some ⟨rib, 0, none⟩) 0 63, .slice (some ⟨rcb, 0, none⟩) 1 64] := row_new W4 62 [.slice (some ⟨rib, 0, none⟩) 0 63, .slice (some ⟨rcb, 0, none⟩) 1 64]
              have hRR : Hid (NodeR (W4.alloc (.cells #[.slice (some ⟨rib, 0, none⟩) 0 63, .slice (some ⟨rcb, 0, none⟩) 1 64] 62)) W4.heap.size rib rcb 0 1 (nils 63) (.pointer (some ⟨nbOf H T, 0, none⟩) :: nils 63)) := ⟨hrb, hribW4.kep kf id, hrcbW4.kep kf id⟩
              have gg : Hid (w.heap.size ≤ W4.heap.size ∧ w.heap.size ≤ rib ∧ w.heap.size ≤ rcb) := ⟨FW4.out.2.size, grib, grcb⟩
              refine hK.out _ _ trivial (fun _ => by rw [FF.out.1.cell]; rfl) ?_
              clear hK kf hrb HA2
              generalize W4.heap.size = rb at *
              generalize W4.alloc (.cells #[.slice (some ⟨rib, 0, none⟩) 0 63, .slice (some ⟨rcb, 0, none⟩) 1 64] 62) = WF at *
              try simp only [Act.put, List.getElem_toArray, List.getElem_cons_succ, List.getElem_cons_zero, List.setIfInBounds_toArray, List.set_cons_zero, List.set_cons_succ]
              have HA2 : Hid (WF.cell? ⟨tb, 1, none⟩ = some (.pointer (some ⟨nbOf H T, 0, none⟩))) := by rw [FF.out.1.cell]; rfl
              refine wpAnyG_takeB (i := 11) (v := .pointer (some ⟨tb, 0, none⟩)) rfl (by kernel_rfl) (by kernel_rfl) (by kernel_rfl) (by kernel_rfl) (fun _ _ _ h => h) (fun _ => HA2.out) trivial (Or.inl ⟨by rfl, fun w' hSw => by go_simp⟩) ?_
              try simp only [Act.put, List.getElem_toArray, List.getElem_cons_succ, List.getElem_cons_zero, List.setIfInBounds_toArray, List.set_cons_zero, List.set_cons_succ]
              refine wpAnyG_takeB (i := 12) (v := .pointer (some ⟨tb, 1, none⟩)) rfl (by kernel_rfl) (by kernel_rfl) (by kernel_rfl) (by kernel_rfl) (fun _ _ _ h => h) (fun _ => HA2.out) trivial (Or.inl ⟨by rfl, fun w' hSw => by go_simp⟩) ?_
              try simp only [Act.put, List.getElem_toArray, List.getElem_cons_succ, List.getElem_cons_zero, List.setIfInBounds_toArray, List.set_cons_zero, List.set_cons_succ]
              have c1 := HA2.out
              have f1 := FF.out.1.frozen 1
              refine wpAnyG_step (i := 13) (by kernel_rfl) rfl (fun K hK => ?_)
              go_simp
              refine hK.out _ _ trivial (fun h => not_early (by kernel_rfl) h) ?_
              clear hK c1 f1 HA2
              try simp only [Act.put, List.getElem_toArray, List.getElem_cons_succ, List.getElem_cons_zero, List.setIfInBounds_toArray, List.set_cons_zero, List.set_cons_succ]
              refine wpAnyG_done (by kernel_rfl) ?_ _
              refine NoPanic.normal ?_
              go_wp2_with fail
              go_meet
              case rel =>
                have hlt := HT.out.1.row.lt
                exact ⟨rb, rib, rcb, ⟨gg.out.1, gg.out.2.1, gg.out.2.2⟩, FF.out.1.set (P := [.func (.func 23) #[] #[]]) rfl rfl, hRR.out.kep (kep_set _ _ _ _) (by have := gg.out; omega) (by have := gg.out; omega) (by have := gg.out; omega), (FF.out.2.mono (N := fun k => k = tb) (fun _ _ h => h.elim)).trans (kep_set _ _ _ _) (fun _ _ h => h)⟩
            · have ap : ∀ ty, (Builtin.append_ #[60, 60] ty #[.slice (some ⟨rcb, 0, none⟩) 0 64, .slice (some ⟨vb, 0, none⟩) 1 1]).run Try.prog W2 = .ok (.slice (some ⟨rcb, 0, none⟩) 1 64) (W2.setCells rcb 0 [.pointer (some ⟨nbOf H T, 0, none⟩)]) ∧ RowB (W2.setCells rcb 0 [.pointer (some ⟨nbOf H T, 0, none⟩)]) rcb 55 ([] ++ [.pointer (some ⟨nbOf H T, 0, none⟩)] ++ nils 63) ∧ Kep (fun k => k = rcb) W2 (W2.setCells rcb 0 [.pointer (some ⟨nbOf H T, 0, none⟩)]) := fun ty =>
                append60 (w := W2) (b := rcb) (a := vb) (o := 0) (n := 0) (c := 64) (m := 1) (X := []) (R1 := nils 1) (R2 := nils 63) (A := []) (news := [.pointer (some ⟨nbOf H T, 0, none⟩)]) (A2 := []) (by have := hrcbW2; simpa [nils] using this) rfl (by simp [nils]) rfl (by simp [nils]) hvbW2 rfl (fun u hu => by simp at hu; subst hu; rfl) ty 1
              refine step_append_runI rfl (.tmp 20) (.tmp 25) 60 rfl _ _ rfl rfl (ap _).1 ?_
              have kW3 := (ap 0).2.2
              have FW3 : Hid (RowB (W2.setCells rcb 0 [.pointer (some ⟨nbOf H T, 0, none⟩)]) tb 57 [.func (.func 23) #[] #[], .pointer (some ⟨nbOf H T, 0, none⟩), .int .i64 l] ∧ Kep (fun _ => False) w (W2.setCells rcb 0 [.pointer (some ⟨nbOf H T, 0, none⟩)])) := HS2.out _ _ FW2.out (kW3.mono (fun j _ h => by rw [h]; exact grcb))
              have hrcbW3 : RowB (W2.setCells rcb 0 [.pointer (some ⟨nbOf H T, 0, none⟩)]) rcb 55 (.pointer (some ⟨nbOf H T, 0, none⟩) :: nils 63) := (ap 0).2.1
              refine hK.out _ _ trivial (fun _ => by rw [FW3.out.1.cell]; rfl) ?_
              clear hK kW3 ap
              generalize W2.setCells rcb 0 [.pointer (some ⟨nbOf H T, 0, none⟩)] = W3 at *
              try simp only [Act.put, List.getElem_toArray, List.getElem_cons_succ, List.getElem_cons_zero, List.setIfInBounds_toArray, List.set_cons_zero, List.set_cons_succ]
              refine wpAnyG_ready (rs := [1]) (by kernel_rfl) (by simp) ?_
              refine AllReadyG.cons rfl (fun K hK => ?_) AllReadyG.nil
              go_simp
              have kW4 : Kep (fun _ => False) W3 (W3.alloc (.cells (nilA 63) 46)) := (Kep.refl _ _).alloc _
              have FW4 : Hid (RowB (W3.alloc (.cells (nilA 63) 46)) tb 57 [.func (.func 23) #[] #[], .pointer (some ⟨nbOf H T, 0, none⟩), .int .i64 l] ∧ Kep (fun _ => False) w (W3.alloc (.cells (nilA 63) 46))) := HS2.out _ _ FW3.out (kW4.mono (fun _ _ h => h.elim))
              have hribW4 : RowB (W3.alloc (.cells (nilA 63) 46)) W3.heap.size 46 (nils 63) := by have := row_newA W3 46 (nilA 63); rwa [nilA_list] at this
              have grib : w.heap.size ≤ W3.heap.size := FW3.out.2.size
              have nercbrib : rcb ≠ W3.heap.size := Nat.ne_of_lt hrcbW3.lt
              have hrcbW4 : RowB (W3.alloc (.cells (nilA 63) 46)) rcb 55 (.pointer (some ⟨nbOf H T, 0, none⟩) :: nils 63) := hrcbW3.kep kW4 (by first | exact id | (have := ne; omega) | omega)
              refine hK.out _ _ trivial (fun _ => by rw [FW4.out.1.cell]; rfl) ?_
              clear hK kW4
              clear hrcbW3
              generalize W3.heap.size = rib at *
              generalize W3.alloc (.cells (nilA 63) 46) = W4 at *
              try simp only [Act.put, List.getElem_toArray, List.getElem_cons_succ, List.getElem_cons_zero, List.setIfInBounds_toArray, List.set_cons_zero, List.set_cons_succ]
              have HA2 : Hid (W4.cell? ⟨tb, 1, none⟩ = some (.pointer (some ⟨nbOf H T, 0, none⟩))) := by rw [FW4.out.1.cell]; rfl
              refine wpAnyG_takeB (i := 9) (v := .agg #[.slice (some ⟨rib, 0, none⟩) 0 63, .slice (some ⟨rcb, 0, none⟩) 1 64]) rfl (by kernel_rfl) (by kernel_rfl) (by kernel_rfl) (by kernel_rfl) (fun _ _ _ h => h) (fun _ => HA2.out) trivial (Or.inl ⟨by rfl, fun w' hSw => by kernel_rfl⟩) ?_
              try simp only [Act.put, List.getElem_toArray, List.getElem_cons_succ, List.getElem_cons_zero, List.setIfInBounds_toArray, List.set_cons_zero, List.set_cons_succ]
              refine wpAnyG_step (i := 10) (by kernel_rfl) rfl (fun K hK => ?_)
              go_simp
              have kf : Kep (fun _ => False) W4 (W4.alloc (.cells #[.slice (some ⟨rib, 0, none⟩) 0 63, .slice (some ⟨rcb, 0, none⟩) 1 64] 62)) := (Kep.refl _ _).alloc _
              have FF : Hid (RowB (W4.alloc (.cells #[.slice (some ⟨rib, 0, none⟩) 0 63, .slice (some ⟨rcb, 0, none⟩) 1 64] 62)) tb 57 [.func (.func 23) #[] #[], .pointer (some ⟨nbOf H T, 0, none⟩), .int .i64 l] ∧ Kep (fun _ => False) w (W4.alloc (.cells #[.slice (some ⟨rib, 0, none⟩) 0 63, .slice (some ⟨rcb, 0, none⟩) 1 64] 62))) := HS2.out _ _ FW4.out (kf.mono (fun _ _ h => h.elim))
              have hrb : RowB (W4.alloc (.cells #[.slice (some ⟨rib, 0, none⟩) 0 63, .slice (some ⟨rcb, 0, none⟩) 1 64] 62)) W4.heap.size 62 [.slice (some ⟨rib, 0, none⟩) 0 63, .slice (some ⟨rcb, 0, none⟩) 1 64] := row_new W4 62 [.slice (some ⟨rib, 0, none⟩) 0 63, .slice (some ⟨rcb, 0, none⟩) 1 64]
              have hRR : Hid (NodeR (W4.alloc (.cells #[.slice (some ⟨rib, 0, none⟩) 0 63, .slice (some ⟨rcb, 0, none⟩) 1 64] 62)) W4.heap.size rib rcb 0 1 (nils 63) (.pointer (some ⟨nbOf H T, 0, none⟩) :: nils 63)) := ⟨hrb, hribW4.kep kf id, hrcbW4.kep kf id⟩
              have gg : Hid (w.heap.size ≤ W4.heap.size ∧ w.heap.size ≤ rib ∧ w.heap.size ≤ rcb) := ⟨FW4.out.2.size, grib, grcb⟩
              refine hK.out _ _ trivial (fun _ => by rw [FF.out.1.cell]; rfl) ?_
              clear hK kf hrb HA2
              generalize W4.heap.size = rb at *
              generalize W4.alloc (.cells #[.slice (some ⟨rib, 0, none⟩) 0 63, .slice (some ⟨rcb, 0, none⟩) 1 64] 62) = WF at *
              try simp only [Act.put, List.getElem_toArray, List.getElem_cons_succ, List.getElem_cons_zero, List.setIfInBounds_toArray, List.set_cons_zero, List.set_cons_succ]
              have HA2 : Hid (WF.cell? ⟨tb, 1, none⟩ = some (.pointer (some ⟨nbOf H T, 0, none⟩))) := by rw [FF.out.1.cell]; rfl
              refine wpAnyG_takeB (i := 11) (v := .pointer (some ⟨tb, 0, none⟩)) rfl (by kernel_rfl) (by kernel_rfl) (by kernel_rfl) (by kernel_rfl) (fun _ _ _ h => h) (fun _ => HA2.out) trivial (Or.inl ⟨by rfl, fun w' hSw => by go_simp⟩) ?_
              try simp only [Act.put, List.getElem_toArray, List.getElem_cons_succ, List.getElem_cons_zero, List.setIfInBounds_toArray, List.set_cons_zero, List.set_cons_succ]
              refine wpAnyG_takeB (i := 12) (v := .pointer (some ⟨tb, 1, none⟩)) rfl (by kernel_rfl) (by kernel_rfl) (by kernel_rfl) (by kernel_rfl) (fun _ _ _ h => h) (fun _ => HA2.out) trivial (Or.inl ⟨by rfl, fun w' hSw => by go_simp⟩) ?_
              try simp only [Act.put, List.getElem_toArray, List.getElem_cons_succ, List.getElem_cons_zero, List.setIfInBounds_toArray, List.set_cons_zero, List.set_cons_succ]
              have c1 := HA2.out
              have f1 := FF.out.1.frozen 1
              refine wpAnyG_step (i := 13) (by kernel_rfl) rfl (fun K hK => ?_)
              go_simp
              refine hK.out _ _ trivial (fun h => not_early (by kernel_rfl) h) ?_
              clear hK c1 f1 HA2
              try simp only [Act.put, List.getElem_toArray, List.getElem_cons_succ, List.getElem_cons_zero, List.setIfInBounds_toArray, List.set_cons_zero, List.set_cons_succ]
              refine wpAnyG_done (by kernel_rfl) ?_ _
              refine NoPanic.normal ?_
              go_wp2_with fail
              go_meet
              case rel =>
                have hlt := HT.out.1.row.lt
                exact ⟨rb, rib, rcb, ⟨gg.out.1, gg.out.2.1, gg.out.2.2⟩, FF.out.1.set (P := [.func (.func 23) #[] #[]]) rfl rfl, hRR.out.kep (kep_set _ _ _ _) (by have := gg.out; omega) (by have := gg.out; omega) (by have := gg.out; omega), (FF.out.2.mono (N := fun k => k = tb) (fun _ _ h => h.elim)).trans (kep_set _ _ _ _) (fun _ _ h => h)⟩
        · go_simp
          have kW1 : Kep (fun _ => False) W0 (W0.alloc (.cells #[.pointer (some ⟨nbOf H T, 0, none⟩)] 55)) := (Kep.refl _ _).alloc _
          have FW1 : Hid (RowB (W0.alloc (.cells #[.pointer (some ⟨nbOf H T, 0, none⟩)] 55)) tb 57 [.func (.func 23) #[] #[], .pointer (some ⟨nbOf H T, 0, none⟩), .int .i64 l] ∧ Kep (fun _ => False) w (W0.alloc (.cells #[.pointer (some ⟨nbOf H T, 0, none⟩)] 55))) := HS2.out _ _ FW0.out (kW1.mono (fun _ _ h => h.elim))
          have hvbW1 : RowB (W0.alloc (.cells #[.pointer (some ⟨nbOf H T, 0, none⟩)] 55)) W0.heap.size 55 [.pointer (some ⟨nbOf H T, 0, none⟩)] := row_new W0 55 [.pointer (some ⟨nbOf H T, 0, none⟩)]
          have gvb : w.heap.size ≤ W0.heap.size := FW0.out.2.size
          refine hK.out _ _ trivial (fun _ => by rw [FW1.out.1.cell]; rfl) ?_
          clear hK kW1
          generalize W0.heap.size = vb at *
          generalize W0.alloc (.cells #[.pointer (some ⟨nbOf H T, 0, none⟩)] 55) = W1 at *
          try simp only [Act.put, List.getElem_toArray, List.getElem_cons_succ, List.getElem_cons_zero, List.setIfInBounds_toArray, List.set_cons_zero, List.set_cons_succ]
          refine wpAnyG_ready (rs := [1, 2]) (by kernel_rfl) (by simp) ?_
          refine AllReadyG.cons rfl (fun K hK => ?_) (AllReadyG.cons rfl (fun K hK => ?_) AllReadyG.nil)
          · go_simp
            have kW2 : Kep (fun _ => False) W1 (W1.alloc (.cells (nilA 63) 46)) := (Kep.refl _ _).alloc _
            have FW2 : Hid (RowB (W1.alloc (.cells (nilA 63) 46)) tb 57 [.func (.func 23) #[] #[], .pointer (some ⟨nbOf H T, 0, none⟩), .int .i64 l] ∧ Kep (fun _ => False) w (W1.alloc (.cells (nilA 63) 46))) := HS2.out _ _ FW1.out (kW2.mono (fun _ _ h => h.elim))
            have hribW2 : RowB (W1.alloc (.cells (nilA 63) 46)) W1.heap.size 46 (nils 63) := by have := row_newA W1 46 (nilA 63); rwa [nilA_list] at this
            have grib : w.heap.size ≤ W1.heap.size := FW1.out.2.size
            have nevbrib : vb ≠ W1.heap.size := Nat.ne_of_lt hvbW1.lt
            have hvbW2 : RowB (W1.alloc (.cells (nilA 63) 46)) vb 55 [.pointer (some ⟨nbOf H T, 0, none⟩)] := hvbW1.kep kW2 (by first | exact id | (have := ne; omega) | omega)
            refine hK.out _ _ trivial (fun _ => by rw [FW2.out.1.cell]; rfl) ?_
            clear hK kW2
            clear hvbW1
            generalize W1.heap.size = rib at *
            generalize W1.alloc (.cells (nilA 63) 46) = W2 at *
            try simp only [Act.put, List.getElem_toArray, List.getElem_cons_succ, List.getElem_cons_zero, List.setIfInBounds_toArray, List.set_cons_zero, List.set_cons_succ]
            refine wpAnyG_ready (rs := [2]) (by kernel_rfl) (by simp) ?_
            refine AllReadyG.cons rfl (fun K hK => ?_) AllReadyG.nil
            go_simp
            have kW3 : Kep (fun _ => False) W2 (W2.alloc (.cells (nilA 64) 55)) := (Kep.refl _ _).alloc _
            have FW3 : Hid (RowB (W2.alloc (.cells (nilA 64) 55)) tb 57 [.func (.func 23) #[] #[], .pointer (some ⟨nbOf H T, 0, none⟩), .int .i64 l] ∧ Kep (fun _ => False) w (W2.alloc (.cells (nilA 64) 55))) := HS2.out _ _ FW2.out (kW3.mono (fun _ _ h => h.elim))
            have hrcbW3 : RowB (W2.alloc (.cells (nilA 64) 55)) W2.heap.size 55 (nils 64) := by have := row_newA W2 55 (nilA 64); rwa [nilA_list] at this
            have grcb : w.heap.size ≤ W2.heap.size := FW2.out.2.size
            have nevbrcb : vb ≠ W2.heap.size := Nat.ne_of_lt hvbW2.lt
            have neribrcb : rib ≠ W2.heap.size := Nat.ne_of_lt hribW2.lt
            have hvbW3 : RowB (W2.alloc (.cells (nilA 64) 55)) vb 55 [.pointer (some ⟨nbOf H T, 0, none⟩)] := hvbW2.kep kW3 (by first | exact id | (have := ne; omega) | omega)
            have hribW3 : RowB (W2.alloc (.cells (nilA 64) 55)) rib 46 (nils 63) := hribW2.kep kW3 (by first | exact id | (have := ne; omega) | omega)
            refine hK.out _ _ trivial (fun _ => by rw [FW3.out.1.cell]; rfl) ?_
            clear hK kW3
            clear hvbW2
            clear hribW2
            generalize W2.heap.size = rcb at *
            generalize W2.alloc (.cells (nilA 64) 55) = W3 at *
            try simp only [Act.put, List.getElem_toArray, List.getElem_cons_succ, List.getElem_cons_zero, List.setIfInBounds_toArray, List.set_cons_zero, List.set_cons_succ]
            refine wpAnyG_ready (rs := [8]) (by kernel_rfl) (by simp) ?_
            refine AllReadyG.cons rfl (fun K hK => ?_) AllReadyG.nil
            have ap : ∀ ty, (Builtin.append_ #[60, 60] ty #[.slice (some ⟨rcb, 0, none⟩) 0 64, .slice (some ⟨vb, 0, none⟩) 1 1]).run Try.prog W3 = .ok (.slice (some ⟨rcb, 0, none⟩) 1 64) (W3.setCells rcb 0 [.pointer (some ⟨nbOf H T, 0, none⟩)]) ∧ RowB (W3.setCells rcb 0 [.pointer (some ⟨nbOf H T, 0, none⟩)]) rcb 55 ([] ++ [.pointer (some ⟨nbOf H T, 0, none⟩)] ++ nils 63) ∧ Kep (fun k => k = rcb) W3 (W3.setCells rcb 0 [.pointer (some ⟨nbOf H T, 0, none⟩)]) := fun ty =>
              append60 (w := W3) (b := rcb) (a := vb) (o := 0) (n := 0) (c := 64) (m := 1) (X := []) (R1 := nils 1) (R2 := nils 63) (A := []) (news := [.pointer (some ⟨nbOf H T, 0, none⟩)]) (A2 := []) (by have := hrcbW3; simpa [nils] using this) rfl (by simp [nils]) rfl (by simp [nils]) hvbW3 rfl (fun u hu => by simp at hu; subst hu; rfl) ty 1
            refine step_append_runI rfl (.tmp 20) (.tmp 25) 60 rfl _ _ rfl rfl (ap _).1 ?_
            have kW4 := (ap 0).2.2
            have FW4 : Hid (RowB (W3.setCells rcb 0 [.pointer (some ⟨nbOf H T, 0, none⟩)]) tb 57 [.func (.func 23) #[] #[], .pointer (some ⟨nbOf H T, 0, none⟩), .int .i64 l] ∧ Kep (fun _ => False) w (W3.setCells rcb 0 [.pointer (some ⟨nbOf H T, 0, none⟩)])) := HS2.out _ _ FW3.out (kW4.mono (fun j _ h => by rw [h]; exact grcb))
            have hrcbW4 : RowB (W3.setCells rcb 0 [.pointer (some ⟨nbOf H T, 0, none⟩)]) rcb 55 (.pointer (some ⟨nbOf H T, 0, none⟩) :: nils 63) := (ap 0).2.1
            have hribW4 : RowB (W3.setCells rcb 0 [.pointer (some ⟨nbOf H T, 0, none⟩)]) rib 46 (nils 63) := hribW3.kep kW4 (row_ne hribW3 hrcbW3 (by decide))
            refine hK.out _ _ trivial (fun _ => by rw [FW4.out.1.cell]; rfl) ?_
            clear hK kW4 ap
            generalize W3.setCells rcb 0 [.pointer (some ⟨nbOf H T, 0, none⟩)] = W4 at *
            try simp only [Act.put, List.getElem_toArray, List.getElem_cons_succ, List.getElem_cons_zero, List.setIfInBounds_toArray, List.set_cons_zero, List.set_cons_succ]
            have HA2 : Hid (W4.cell? ⟨tb, 1, none⟩ = some (.pointer (some ⟨nbOf H T, 0, none⟩))) := by rw [FW4.out.1.cell]; rfl
            refine wpAnyG_takeB (i := 9) (v := .agg #[.slice (some ⟨rib, 0, none⟩) 0 63, .slice (some ⟨rcb, 0, none⟩) 1 64]) rfl (by kernel_rfl) (by kernel_rfl) (by kernel_rfl) (by kernel_rfl) (fun _ _ _ h => h) (fun _ => HA2.out) trivial (Or.inl ⟨by rfl, fun w' hSw => by kernel_rfl⟩) ?_
            try simp only [Act.put, List.getElem_toArray, List.getElem_cons_succ, List.getElem_cons_zero, List.setIfInBounds_toArray, List.set_cons_zero, List.set_cons_succ]
            refine wpAnyG_step (i := 10) (by kernel_rfl) rfl (fun K hK => ?_)
            go_simp
            have kf : Kep (fun _ => False) W4 (W4.alloc (.cells #[.slice (some ⟨rib, 0, none⟩) 0 63, .slice (some ⟨rcb, 0, none⟩) 1 64] 62)) := (Kep.refl _ _).alloc _
            have FF : Hid (RowB (W4.alloc (.cells #[.slice (some ⟨rib, 0, none⟩) 0 63, .slice (some ⟨rcb, 0, none⟩) 1 64] 62)) tb 57 [.func (.func 23) #[] #[], .pointer (some ⟨nbOf H T, 0, none⟩), .int .i64 l] ∧ Kep (fun _ => False) w (W4.alloc (.cells #[.slice (some ⟨rib, 0, none⟩) 0 63, .slice (some ⟨rcb, 0, none⟩) 1 64] 62))) := HS2.out _ _ FW4.out (kf.mono (fun _ _ h => h.elim))
            have hrb : RowB (W4.alloc (.cells #[.slice (some ⟨rib, 0, none⟩) 0 63, .slice (some ⟨rcb, 0, none⟩) 1 64] 62)) W4.heap.size 62 [.slice (some ⟨rib, 0, none⟩) 0 63, .slice (some ⟨rcb, 0, none⟩) 1 64] := row_new W4 62 [.slice (some ⟨rib, 0, none⟩) 0 63, .slice (some ⟨rcb, 0, none⟩) 1 64]
            have hRR : Hid (NodeR (W4.alloc (.cells #[.slice (some ⟨rib, 0, none⟩) 0 63, .slice (some ⟨rcb, 0, none⟩) 1 64] 62)) W4.heap.size rib rcb 0 1 (nils 63) (.pointer (some ⟨nbOf H T, 0, none⟩) :: nils 63)) := ⟨hrb, hribW4.kep kf id, hrcbW4.kep kf id⟩
            have gg : Hid (w.heap.size ≤ W4.heap.size ∧ w.heap.size ≤ rib ∧ w.heap.size ≤ rcb) := ⟨FW4.out.2.size, grib, grcb⟩
            refine hK.out _ _ trivial (fun _ => by rw [FF.out.1.cell]; rfl) ?_
            clear hK kf hrb HA2
            generalize W4.heap.size = rb at *
            generalize W4.alloc (.cells #[.slice (some ⟨rib, 0, none⟩) 0 63, .slice (some ⟨rcb, 0, none⟩) 1 64] 62) = WF at *
            try simp only [Act.put, List.getElem_toArray, List.getElem_cons_succ, List.getElem_cons_zero, List.setIfInBounds_toArray, List.set_cons_zero, List.set_cons_succ]
            have HA2 : Hid (WF.cell? ⟨tb, 1, none⟩ = some (.pointer (some ⟨nbOf H T, 0, none⟩))) := by rw [FF.out.1.cell]; rfl
            refine wpAnyG_takeB (i := 11) (v := .pointer (some ⟨tb, 0, none⟩)) rfl (by kernel_rfl) (by kernel_rfl) (by kernel_rfl) (by kernel_rfl) (fun _ _ _ h => h) (fun _ => HA2.out) trivial (Or.inl ⟨by rfl, fun w' hSw => by go_simp⟩) ?_
            try simp only [Act.put, List.getElem_toArray, List.getElem_cons_succ, List.getElem_cons_zero, List.setIfInBounds_toArray, List.set_cons_zero, List.set_cons_succ]
            refine wpAnyG_takeB (i := 12) (v := .pointer (some ⟨tb, 1, none⟩)) rfl (by kernel_rfl) (by kernel_rfl) (by kernel_rfl) (by kernel_rfl) (fun _ _ _ h => h) (fun _ => HA2.out) trivial (Or.inl ⟨by rfl, fun w' hSw => by go_simp⟩) ?_
            try simp only [Act.put, List.getElem_toArray, List.getElem_cons_succ, List.getElem_cons_zero, List.setIfInBounds_toArray, List.set_cons_zero, List.set_cons_succ]
            have c1 := HA2.out
            have f1 := FF.out.1.frozen 1
            refine wpAnyG_step (i := 13) (by kernel_rfl) rfl (fun K hK => ?_)
            go_simp
            refine hK.out _ _ trivial (fun h => not_early (by kernel_rfl) h) ?_
            clear hK c1 f1 HA2
            try simp only [Act.put, List.getElem_toArray, List.getElem_cons_succ, List.getElem_cons_zero, List.setIfInBounds_toArray, List.set_cons_zero, List.set_cons_succ]
            refine wpAnyG_done (by kernel_rfl) ?_ _
            refine NoPanic.normal ?_
            go_wp2_with fail
            go_meet
            case rel =>
              have hlt := HT.out.1.row.lt
              exact ⟨rb, rib, rcb, ⟨gg.out.1, gg.out.2.1, gg.out.2.2⟩, FF.out.1.set (P := [.func (.func 23) #[] #[]]) rfl rfl, hRR.out.kep (kep_set _ _ _ _) (by have := gg.out; omega) (by have := gg.out; omega) (by have := gg.out; omega), (FF.out.2.mono (N := fun k => k = tb) (fun _ _ h => h.elim)).trans (kep_set _ _ _ _) (fun _ _ h => h)⟩
          · go_simp
            have kW2 : Kep (fun _ => False) W1 (W1.alloc (.cells (nilA 64) 55)) := (Kep.refl _ _).alloc _
            have FW2 : Hid (RowB (W1.alloc (.cells (nilA 64) 55)) tb 57 [.func (.func 23) #[] #[], .pointer (some ⟨nbOf H T, 0, none⟩), .int .i64 l] ∧ Kep (fun _ => False) w (W1.alloc (.cells (nilA 64) 55))) := HS2.out _ _ FW1.out (kW2.mono (fun _ _ h => h.elim))
            have hrcbW2 : RowB (W1.alloc (.cells (nilA 64) 55)) W1.heap.size 55 (nils 64) := by have := row_newA W1 55 (nilA 64); rwa [nilA_list] at this
            have grcb : w.heap.size ≤ W1.heap.size := FW1.out.2.size
            have nevbrcb : vb ≠ W1.heap.size := Nat.ne_of_lt hvbW1.lt
            have hvbW2 : RowB (W1.alloc (.cells (nilA 64) 55)) vb 55 [.pointer (some ⟨nbOf H T, 0, none⟩)] := hvbW1.kep kW2 (by first | exact id | (have := ne; omega) | omega)
            refine hK.out _ _ trivial (fun _ => by rw [FW2.out.1.cell]; rfl) ?_
            clear hK kW2
            clear hvbW1
            generalize W1.heap.size = rcb at *
            generalize W1.alloc (.cells (nilA 64) 55) = W2 at *
            try simp only [Act.put, List.getElem_toArray, List.getElem_cons_succ, List.getElem_cons_zero, List.setIfInBounds_toArray, List.set_cons_zero, List.set_cons_succ]
            refine wpAnyG_ready (rs := [1, 8]) (by kernel_rfl) (by simp) ?_
            refine AllReadyG.cons rfl (fun K hK => ?_) (AllReadyG.cons rfl (fun K hK => ?_) AllReadyG.nil)
            · go_simp
              have kW3 : Kep (fun _ => False) W2 (W2.alloc (.cells (nilA 63) 46)) := (Kep.refl _ _).alloc _
              have FW3 : Hid (RowB (W2.alloc (.cells (nilA 63) 46)) tb 57 [.func (.func 23) #[] #[], .pointer (some ⟨nbOf H T, 0, none⟩), .int .i64 l] ∧ Kep (fun _ => False) w (W2.alloc (.cells (nilA 63) 46))) := HS2.out _ _ FW2.out (kW3.mono (fun _ _ h => h.elim))
              have hribW3 : RowB (W2.alloc (.cells (nilA 63) 46)) W2.heap.size 46 (nils 63) := by have := row_newA W2 46 (nilA 63); rwa [nilA_list] at this
              have grib : w.heap.size ≤ W2.heap.size := FW2.out.2.size
              have nevbrib : vb ≠ W2.heap.size := Nat.ne_of_lt hvbW2.lt
              have nercbrib : rcb ≠ W2.heap.size := Nat.ne_of_lt hrcbW2.lt
              have hvbW3 : RowB (W2.alloc (.cells (nilA 63) 46)) vb 55 [.pointer (some ⟨nbOf H T, 0, none⟩)] := hvbW2.kep kW3 (by first | exact id | (have := ne; omega) | omega)
              have hrcbW3 : RowB (W2.alloc (.cells (nilA 63) 46)) rcb 55 (nils 64) := hrcbW2.kep kW3 (by first | exact id | (have := ne; omega) | omega)
              refine hK.out _ _ trivial (fun _ => by rw [FW3.out.1.cell]; rfl) ?_
              clear hK kW3
              clear hvbW2
              clear hrcbW2
              generalize W2.heap.size = rib at *
              generalize W2.alloc (.cells (nilA 63) 46) = W3 at *
              try simp only [Act.put, List.getElem_toArray, List.getElem_cons_succ, List.getElem_cons_zero, List.setIfInBounds_toArray, List.set_cons_zero, List.set_cons_succ]
              refine wpAnyG_ready (rs := [8]) (by kernel_rfl) (by simp) ?_
              refine AllReadyG.cons rfl (fun K hK => ?_) AllReadyG.nil
              have ap : ∀ ty, (Builtin.append_ #[60, 60] ty #[.slice (some ⟨rcb, 0, none⟩) 0 64, .slice (some ⟨vb, 0, none⟩) 1 1]).run Try.prog W3 = .ok (.slice (some ⟨rcb, 0, none⟩) 1 64) (W3.setCells rcb 0 [.pointer (some ⟨nbOf H T, 0, none⟩)]) ∧ RowB (W3.setCells rcb 0 [.pointer (some ⟨nbOf H T, 0, none⟩)]) rcb 55 ([] ++ [.pointer (some ⟨nbOf H T, 0, none⟩)] ++ nils 63) ∧ Kep (fun k => k = rcb) W3 (W3.setCells rcb 0 [.pointer (some ⟨nbOf H T, 0, none⟩)]) := fun ty =>
                append60 (w := W3) (b := rcb) (a := vb) (o := 0) (n := 0) (c := 64) (m := 1) (X := []) (R1 := nils 1) (R2 := nils 63) (A := []) (news := [.pointer (some ⟨nbOf H T, 0, none⟩)]) (A2 := []) (by have := hrcbW3; simpa [nils] using this) rfl (by simp [nils]) rfl (by simp [nils]) hvbW3 rfl (fun u hu => by simp at hu; subst hu; rfl) ty 1
              refine step_append_runI rfl (.tmp 20) (.tmp 25) 60 rfl _ _ rfl rfl (ap _).1 ?_
              have kW4 := (ap 0).2.2
              have FW4 : Hid (RowB (W3.setCells rcb 0 [.pointer (some ⟨nbOf H T, 0, none⟩)]) tb 57 [.func (.func 23) #[] #[], .pointer (some ⟨nbOf H T, 0, none⟩), .int .i64 l] ∧ Kep (fun _ => False) w (W3.setCells rcb 0 [.pointer (some ⟨nbOf H T, 0, none⟩)])) := HS2.out _ _ FW3.out (kW4.mono (fun j _ h => by rw [h]; exact grcb))
              have hrcbW4 : RowB (W3.setCells rcb 0 [.pointer (some ⟨nbOf H T, 0, none⟩)]) rcb 55 (.pointer (some ⟨nbOf H T, 0, none⟩) :: nils 63) := (ap 0).2.1
              have hribW4 : RowB (W3.setCells rcb 0 [.pointer (some ⟨nbOf H T, 0, none⟩)]) rib 46 (nils 63) := hribW3.kep kW4 (row_ne hribW3 hrcbW3 (by decide))
              refine hK.out _ _ trivial (fun _ => by rw [FW4.out.1.cell]; rfl) ?_
              clear hK kW4 ap
              generalize W3.setCells rcb 0 [.pointer (some ⟨nbOf H T, 0, none⟩)] = W4 at *
              try simp only [Act.put, List.getElem_toArray, List.getElem_cons_succ, List.getElem_cons_zero, List.setIfInBounds_toArray, List.set_cons_zero, List.set_cons_succ]
              have HA2 : Hid (W4.cell? ⟨tb, 1, none⟩ = some (.pointer (some ⟨nbOf H T, 0, none⟩))) := by rw [FW4.out.1.cell]; rfl
              refine wpAnyG_takeB (i := 9) (v := .agg #[.slice (some ⟨rib, 0, none⟩) 0 63, .slice (some ⟨rcb, 0, none⟩) 1 64]) rfl (by kernel_rfl) (by kernel_rfl) (by kernel_rfl) (by kernel_rfl) (fun _ _ _ h => h) (fun _ => HA2.out) trivial (Or.inl ⟨by rfl, fun w' hSw => by kernel_rfl⟩) ?_
              try simp only [Act.put, List.getElem_toArray, List.getElem_cons_succ, List.getElem_cons_zero, List.setIfInBounds_toArray, List.set_cons_zero, List.set_cons_succ]
              refine wpAnyG_step (i := 10) (by kernel_rfl) rfl (fun K hK => ?_)
              go_simp
              have kf : Kep (fun _ => False) W4 (W4.alloc (.cells #[.slice (some ⟨rib, 0, none⟩) 0 63, .slice (some ⟨rcb, 0, none⟩) 1 64] 62)) := (Kep.refl _ _).alloc _
              have FF : Hid (RowB (W4.alloc (.cells #[.slice (some ⟨rib, 0, none⟩) 0 63, .slice (some ⟨rcb, 0, none⟩) 1 64] 62)) tb 57 [.func (.func 23) #[] #[], .pointer (some ⟨nbOf H T, 0, none⟩), .int .i64 l] ∧ Kep (fun _ => False) w (W4.alloc (.cells #[.slice (some ⟨rib, 0, none⟩) 0 63, .slice (some ⟨rcb, 0, none⟩) 1 64] 62))) := HS2.out _ _ FW4.out (kf.mono (fun _ _ h => h.elim))
              have hrb : RowB (W4.alloc (.cells #[.slice (some ⟨rib, 0, none⟩) 0 63, .slice (some ⟨rcb, 0, none⟩) 1 64] 62)) W4.heap.size 62 [.slice (some ⟨rib, 0, none⟩) 0 63, .slice (some ⟨rcb, 0, none⟩) 1 64] := row_new W4 62 [.slice (some ⟨rib, 0, none⟩) 0 63, .slice (some ⟨rcb, 0, none⟩) 1 64]
              have hRR : Hid (NodeR (W4.alloc (.cells #[.slice (some ⟨rib, 0, none⟩) 0 63, .slice (some ⟨rcb, 0, none⟩) 1 64] 62)) W4.heap.size rib rcb 0 1 (nils 63) (.pointer (some ⟨nbOf H T, 0, none⟩) :: nils 63)) := ⟨hrb, hribW4.kep kf id, hrcbW4.kep kf id⟩
              have gg : Hid (w.heap.size ≤ W4.heap.size ∧ w.heap.size ≤ rib ∧ w.heap.size ≤ rcb) := ⟨FW4.out.2.size, grib, grcb⟩
              refine hK.out _ _ trivial (fun _ => by rw [FF.out.1.cell]; rfl) ?_
              clear hK kf hrb HA2
              generalize W4.heap.size = rb at *
              generalize W4.alloc (.cells #[.slice (some ⟨rib, 0, none⟩) 0 63, .slice (some ⟨rcb, 0, none⟩) 1 64] 62) = WF at *
              try simp only [Act.put, List.getElem_toArray, List.getElem_cons_succ, List.getElem_cons_zero, List.setIfInBounds_toArray, List.set_cons_zero, List.set_cons_succ]
              have HA2 : Hid (WF.cell? ⟨tb, 1, none⟩ = some (.pointer (some ⟨nbOf H T, 0, none⟩))) := by rw [FF.out.1.cell]; rfl
              refine wpAnyG_takeB (i := 11) (v := .pointer (some ⟨tb, 0, none⟩)) rfl (by kernel_rfl) (by kernel_rfl) (by kernel_rfl) (by kernel_rfl) (fun _ _ _ h => h) (fun _ => HA2.out) trivial (Or.inl ⟨by rfl, fun w' hSw => by go_simp⟩) ?_
              try simp only [Act.put, List.getElem_toArray, List.getElem_cons_succ, List.getElem_cons_zero, List.setIfInBounds_toArray, List.set_cons_zero, List.set_cons_succ]
              refine wpAnyG_takeB (i := 12) (v := .pointer (some ⟨tb, 1, none⟩)) rfl (by kernel_rfl) (by kernel_rfl) (by kernel_rfl) (by kernel_rfl) (fun _ _ _ h => h) (fun _ => HA2.out) trivial (Or.inl ⟨by rfl, fun w' hSw => by go_simp⟩) ?_
              try simp only [Act.put, List.getElem_toArray, List.getElem_cons_succ, List.getElem_cons_zero, List.setIfInBounds_toArray, List.set_cons_zero, List.set_cons_succ]
              have c1 := HA2.out
              have f1 := FF.out.1.frozen 1
              refine wpAnyG_step (i := 13) (by kernel_rfl) rfl (fun K hK => ?_)
              go_simp
              refine hK.out _ _ trivial (fun h => not_early (by kernel_rfl) h) ?_
              clear hK c1 f1 HA2
              try simp only [Act.put, List.getElem_toArray, List.getElem_cons_succ, List.getElem_cons_zero, List.setIfInBounds_toArray, List.set_cons_zero, List.set_cons_succ]
              refine wpAnyG_done (by kernel_rfl) ?_ _
              refine NoPanic.normal ?_
              go_wp2_with fail
              go_meet
              case rel =>
                have hlt := HT.out.1.row.lt
                exact ⟨rb, rib, rcb, ⟨gg.out.1, gg.out.2.1, gg.out.2.2⟩, FF.out.1.set (P := [.func (.func 23) #[] #[]]) rfl rfl, hRR.out.kep (kep_set _ _ _ _) (by have := gg.out; omega) (by have := gg.out; omega) (by have := gg.out; omega), (FF.out.2.mono (N := fun k => k = tb) (fun _ _ h => h.elim)).trans (kep_set _ _ _ _) (fun _ _ h => h)⟩
            · have ap : ∀ ty, (Builtin.append_ #[60, 60] ty #[.slice (some ⟨rcb, 0, none⟩) 0 64, .slice (some ⟨vb, 0, none⟩) 1 1]).run Try.prog W2 = .ok (.slice (some ⟨rcb, 0, none⟩) 1 64) (W2.setCells rcb 0 [.pointer (some ⟨nbOf H T, 0, none⟩)]) ∧ RowB (W2.setCells rcb 0 [.pointer (some ⟨nbOf H T, 0, none⟩)]) rcb 55 ([] ++ [.pointer (some ⟨nbOf H T, 0, none⟩)] ++ nils 63) ∧ Kep (fun k => k = rcb) W2 (W2.setCells rcb 0 [.pointer (some ⟨nbOf H T, 0, none⟩)]) := fun ty =>
                append60 (w := W2) (b := rcb) (a := vb) (o := 0) (n := 0) (c := 64) (m := 1) (X := []) (R1 := nils 1) (R2 := nils 63) (A := []) (news := [.pointer (some ⟨nbOf H T, 0, none⟩)]) (A2 := []) (by have := hrcbW2; simpa [nils] using this) rfl (by simp [nils]) rfl (by simp [nils]) hvbW2 rfl (fun u hu => by simp at hu; subst hu; rfl) ty 1
              refine step_append_runI rfl (.tmp 20) (.tmp 25) 60 rfl _ _ rfl rfl (ap _).1 ?_
              have kW3 := (ap 0).2.2
              have FW3 : Hid (RowB (W2.setCells rcb 0 [.pointer (some ⟨nbOf H T, 0, none⟩)]) tb 57 [.func (.func 23) #[] #[], .pointer (some ⟨nbOf H T, 0, none⟩), .int .i64 l] ∧ Kep (fun _ => False) w (W2.setCells rcb 0 [.pointer (some ⟨nbOf H T, 0, none⟩)])) := HS2.out _ _ FW2.out (kW3.mono (fun j _ h => by rw [h]; exact grcb))
              have hrcbW3 : RowB (W2.setCells rcb 0 [.pointer (some ⟨nbOf H T, 0, none⟩)]) rcb 55 (.pointer (some ⟨nbOf H T, 0, none⟩) :: nils 63) := (ap 0).2.1
              refine hK.out _ _ trivial (fun _ => by rw [FW3.out.1.cell]; rfl) ?_
              clear hK kW3 ap
              generalize W2.setCells rcb 0 [.pointer (some ⟨nbOf H T, 0, none⟩)] = W3 at *
              try simp only [Act.put, List.getElem_toArray, List.getElem_cons_succ, List.getElem_cons_zero, List.setIfInBounds_toArray, List.set_cons_zero, List.set_cons_succ]
              refine wpAnyG_ready (rs := [1]) (by kernel_rfl) (by simp) ?_
              refine AllReadyG.cons rfl (fun K hK => ?_) AllReadyG.nil
              go_simp
              have kW4 : Kep (fun _ => False) W3 (W3.alloc (.cells (nilA 63) 46)) := (Kep.refl _ _).alloc _
              have FW4 : Hid (RowB (W3.alloc (.cells (nilA 63) 46)) tb 57 [.func (.func 23) #[] #[], .pointer (some ⟨nbOf H T, 0, none⟩), .int .i64 l] ∧ Kep (fun _ => False) w (W3.alloc (.cells (nilA 63) 46))) := HS2.out _ _ FW3.out (kW4.mono (fun _ _ h => h.elim))
              have hribW4 : RowB (W3.alloc (.cells (nilA 63) 46)) W3.heap.size 46 (nils 63) := by have := row_newA W3 46 (nilA 63); rwa [nilA_list] at this
              have grib : w.heap.size ≤ W3.heap.size := FW3.out.2.size
              have nercbrib : rcb ≠ W3.heap.size := Nat.ne_of_lt hrcbW3.lt
              have hrcbW4 : RowB (W3.alloc (.cells (nilA 63) 46)) rcb 55 (.pointer (some ⟨nbOf H T, 0, none⟩) :: nils 63) := hrcbW3.kep kW4 (by first | exact id | (have := ne; omega) | omega)
              refine hK.out _ _ trivial (fun _ => by rw [FW4.out.1.cell]; rfl) ?_
              clear hK kW4
              clear hrcbW3
              generalize W3.heap.size = rib at *
              generalize W3.alloc (.cells (nilA 63) 46) = W4 at *
              try simp only [Act.put, List.getElem_toArray, List.getElem_cons_succ, List.getElem_cons_zero, List.setIfInBounds_toArray, List.set_cons_zero, List.set_cons_succ]
              have HA2 : Hid (W4.cell? ⟨tb, 1, none⟩ = some (.pointer (some ⟨nbOf H T, 0, none⟩))) := by rw [FW4.out.1.cell]; rfl
              refine wpAnyG_takeB (i := 9) (v := .agg #[.slice (some ⟨rib, 0, none⟩) 0 63, .slice (some ⟨rcb, 0, none⟩) 1 64]) rfl (by kernel_rfl) (by kernel_rfl) (by kernel_rfl) (by kernel_rfl) (fun _ _ _ h => h) (fun _ => HA2.out) trivial (Or.inl ⟨by rfl, fun w' hSw => by kernel_rfl⟩) ?_
              try simp only [Act.put, List.getElem_toArray, List.getElem_cons_succ, List.getElem_cons_zero, List.setIfInBounds_toArray, List.set_cons_zero, List.set_cons_succ]
              refine wpAnyG_step (i := 10) (by kernel_rfl) rfl (fun K hK => ?_)
              go_simp
              have kf : Kep (fun _ => False) W4 (W4.alloc (.cells #[.slice (some ⟨rib, 0, none⟩) 0 63, .slice (some ⟨rcb, 0, none⟩) 1 64] 62)) := (Kep.refl _ _).alloc _
              have FF : Hid (RowB (W4.alloc (.cells #[.slice (some ⟨rib, 0, none⟩) 0 63, .slice (some ⟨rcb, 0, none⟩) 1 64] 62)) tb 57 [.func (.func 23) #[] #[], .pointer (some ⟨nbOf H T, 0, none⟩), .int .i64 l] ∧ Kep (fun _ => False) w (W4.alloc (.cells #[.slice (some ⟨rib, 0, none⟩) 0 63, .slice (some ⟨rcb, 0, none⟩) 1 64] 62))) := HS2.out _ _ FW4.out (kf.mono (fun _ _ h => h.elim))
              have hrb : RowB (W4.alloc (.cells #[.slice (some ⟨rib, 0, none⟩) 0 63, .slice (some ⟨rcb, 0, none⟩) 1 64] 62)) W4.heap.size 62 [.slice (some ⟨rib, 0, none⟩) 0 63, .slice (some ⟨rcb, 0, none⟩) 1 64] := row_new W4 62 [.slice (some ⟨rib, 0, none⟩) 0 63, .slice (some ⟨rcb, 0, none⟩) 1 64]
              have hRR : Hid (NodeR (W4.alloc (.cells #[.slice (some ⟨rib, 0, none⟩) 0 63, .slice (some ⟨rcb, 0, none⟩) 1 64] 62)) W4.heap.size rib rcb 0 1 (nils 63) (.pointer (some ⟨nbOf H T, 0, none⟩) :: nils 63)) := ⟨hrb, hribW4.kep kf id, hrcbW4.kep kf id⟩
              have gg : Hid (w.heap.size ≤ W4.heap.size ∧ w.heap.size ≤ rib ∧ w.heap.size ≤ rcb) := ⟨FW4.out.2.size, grib, grcb⟩
              refine hK.out _ _ trivial (fun _ => by rw [FF.out.1.cell]; rfl) ?_
              clear hK kf hrb HA2
              generalize W4.heap.size = rb at *
              generalize W4.alloc (.cells #[.slice (some ⟨rib, 0, none⟩) 0 63, .slice (some ⟨rcb, 0, none⟩) 1 64] 62) = WF at *
              try simp only [Act.put, List.getElem_toArray, List.getElem_cons_succ, List.getElem_cons_zero, List.setIfInBounds_toArray, List.set_cons_zero, List.set_cons_succ]
              have HA2 : Hid (WF.cell? ⟨tb, 1, none⟩ = some (.pointer (some ⟨nbOf H T, 0, none⟩))) := by rw [FF.out.1.cell]; rfl
              refine wpAnyG_takeB (i := 11) (v := .pointer (some ⟨tb, 0, none⟩)) rfl (by kernel_rfl) (by kernel_rfl) (by kernel_rfl) (by kernel_rfl) (fun _ _ _ h => h) (fun _ => HA2.out) trivial (Or.inl ⟨by rfl, fun w' hSw => by go_simp⟩) ?_
              try simp only [Act.put, List.getElem_toArray, List.getElem_cons_succ, List.getElem_cons_zero, List.setIfInBounds_toArray, List.set_cons_zero, List.set_cons_succ]
              refine wpAnyG_takeB (i := 12) (v := .pointer (some ⟨tb, 1, none⟩)) rfl (by kernel_rfl) (by kernel_rfl) (by kernel_rfl) (by kernel_rfl) (fun _ _ _ h => h) (fun _ => HA2.out) trivial (Or.inl ⟨by rfl, fun w' hSw => by go_simp⟩) ?_
              try simp only [Act.put, List.getElem_toArray, List.getElem_cons_succ, List.getElem_cons_zero, List.setIfInBounds_toArray, List.set_cons_zero, List.set_cons_succ]
              have c1 := HA2.out
              have f1 := FF.out.1.frozen 1
              refine wpAnyG_step (i := 13) (by kernel_rfl) rfl (fun K hK => ?_)
              go_simp
              refine hK.out _ _ trivial (fun h => not_early (by kernel_rfl) h) ?_
              clear hK c1 f1 HA2
              try simp only [Act.put, List.getElem_toArray, List.getElem_cons_succ, List.getElem_cons_zero, List.setIfInBounds_toArray, List.set_cons_zero, List.set_cons_succ]
              refine wpAnyG_done (by kernel_rfl) ?_ _
              refine NoPanic.normal ?_
              go_wp2_with fail
              go_meet
              case rel =>
                have hlt := HT.out.1.row.lt
                exact ⟨rb, rib, rcb, ⟨gg.out.1, gg.out.2.1, gg.out.2.2⟩, FF.out.1.set (P := [.func (.func 23) #[] #[]]) rfl rfl, hRR.out.kep (kep_set _ _ _ _) (by have := gg.out; omega) (by have := gg.out; omega) (by have := gg.out; omega), (FF.out.2.mono (N := fun k => k = tb) (fun _ _ h => h.elim)).trans (kep_set _ _ _ _) (fun _ _ h => h)⟩
      case rest =>
        obtain ⟨rb, rib, rcb, hge, hrow, hN, hk⟩ := hcut
        have htt1 : TT w (fun k => k = tb) := TT.one HT.out.1.row (by decide) (by decide)
        have htb : tb ∉ foot H T := HT.out.1.row.not_foot HT.out.1.rep (by decide) (by decide) (by decide)
        have hrT : Rep H wc T := HT.out.1.rep.kep hk htt1 (fun b hb e => htb (e ▸ hb))
        have hltT := HT.out.1.rep.lt
        have hrR : Rep (H + 1) wc (mkI rb rib rcb [] [T]) := mkI_rep (rest := nils 63) (rest' := nils 63) (by simpa [nodeV] using hN) (by simp [nils]) (by simp [nils]) (fun x hx => by cases hx) (fun c hc => by simp at hc; subst hc; exact hrT)
        have hndR : (foot (H + 1) (mkI rb rib rcb [] [T])).Nodup := by
          rw [mkI_foot]
          simp only [List.flatMap_cons, List.flatMap_nil, List.append_nil, List.nodup_cons, List.mem_cons, not_or]
          exact ⟨⟨row_ne hN.node hN.row (by decide), row_ne hN.node hN.kid (by decide), fun h => by have := hltT _ h; omega⟩, ⟨row_ne hN.row hN.kid (by decide), fun h => by have := hltT _ h; omega⟩, fun h => by have := hltT _ h; omega, HT.out.1.nd⟩
        have t1 := hrow.cell 1
        simp only [List.getElem?_cons_zero, List.getElem?_cons_succ] at t1
        have H2 : Hid (Rep (H + 1) wc (mkI rb rib rcb [] [T]) ∧ (foot (H + 1) (mkI rb rib rcb [] [T])).Nodup ∧ RowB wc tb 57 [.func (.func 23) #[] #[], .pointer (some ⟨rb, 0, none⟩), .int .i64 l] ∧ Kep (fun k => k = tb) w wc ∧ KR wc x ∧ (w.heap.size ≤ rb ∧ w.heap.size ≤ rib ∧ w.heap.size ≤ rcb)) := ⟨hrR, hndR, hrow, hk, HT.out.2.1.kep hk htt1, hge⟩
        clear hge hrow hN hk htt1 htb hrT hltT hrR hndR
        go_wp2_with fail
        refine (split_rep (tv := .pointer (some ⟨tb, 0, none⟩)) (t := (⟨rb, rib, rcb, [], [T]⟩ : Inner (Tr H))) (S1 := []) (S2 := []) (K1 := []) (K2 := []) (c := T) H2.out.1 rfl rfl rfl rfl (by simp : ([T] : List (Tr H)).length < 64) HS.out ⟨_, _, HT.out.1.inv⟩ H2.out.2.1).mono ?_
        rintro e w2 ⟨rfl, s, c1, c2, r2, so, nd2, sub2, k2⟩
        have P2 := split_post (nb := rb) (ib := rib) (cb := rcb) (m := 0) (mc := 0) (S1 := []) (S2 := []) (K1 := []) (K2 := []) (c := T) (lo := none) (hi := none) (a := none) (b := none) H2.out.1 ⟨rfl, rfl⟩ HT.out.1.inv ⟨rfl, rfl⟩ (fun d hd => by simp at hd) HT.out.1.ok (by simp) (by simp) H2.out.2.1 r2 so nd2 sub2 k2
        have htb2 : tb ∉ foot (H + 1) (mkI rb rib rcb [] [T]) := H2.out.2.2.1.not_foot H2.out.1 (by decide) (by decide) (by decide)
        have tt2 := H2.out.1.tt
        go_wp2_with fail
        go_meet
        case rel =>
          refine ⟨H + 1, mkI rb rib rcb ([] ++ s :: []) ([] ++ [c1, c2] ++ []), ⟨H2.out.2.2.1.kep P2.kep htb2, P2.rep, P2.inv, P2.ok, P2.nd⟩, by show 2 < 64; decide, H2.out.2.2.2.2.1.kep P2.kep tt2, fun y => ?_, fun b hb => ?_, (H2.out.2.2.2.1.mono (N := fun b => b ∈ foot H T ∨ b = tb) (fun _ _ h => .inr h)).trans P2.kep (fun b hb hm => ?_)⟩
          · rw [P2.mem, mkI_elems]; simp
          · have hsz := H2.out.2.2.2.1.size
            have hg := H2.out.2.2.2.2.2
            rcases P2.sub b hb with h | h
            · rw [mkI_foot] at h
              simp only [List.nil_append, List.append_nil, List.flatMap_cons, List.flatMap_nil, List.mem_cons] at h
              rcases h with rfl | rfl | rfl | h
              · exact .inr hg.1
              · exact .inr hg.2.1
              · exact .inr hg.2.2
              · exact .inl h
            · exact .inr (by omega)
          · have hg := H2.out.2.2.2.2.2
            rw [mkI_foot] at hm
            simp only [List.nil_append, List.append_nil, List.flatMap_cons, List.flatMap_nil, List.mem_cons] at hm
            rcases hm with rfl | rfl | rfl | hm
            · omega
            · omega
            · omega
            · exact .inl hm
    · have hd : decide (sizeT H T = 64) = false := by simp [hf]
      have HS : Hid (sizeT H T < 64) := by
        have : sizeT H T ≤ 64 := by
          have := HT.out.1.ok
          cases H with
          | zero => exact this.2
          | succ H => exact this.2.2.1
        show sizeT H T < 64
        omega
      clear hf HF HR
      rw [hd]
      clear hd
      go_wp2_with fail
      go_meet
      case rel => exact ⟨H, T, HT.out.1, HS.out, HT.out.2.1, fun _ => Iff.rfl, fun _ h => .inl h, Kep.refl _ _⟩
  case rest =>
    obtain ⟨H1, T1, hT1, hsz1, hx1, hmem1, hsub1, hk1⟩ := hcut
    have t1 := hT1.row.cell 1
    simp only [List.getElem?_cons_zero, List.getElem?_cons_succ] at t1
    unfold nodeV at t1
    have H2 : Hid (TreeR wc tb H1 T1 l ∧ sizeT H1 T1 < 64 ∧ KR wc x ∧ (∀ y, y ∈ elems H1 T1 ↔ y ∈ elems H T) ∧ (∀ b ∈ foot H1 T1, b ∈ foot H T ∨ w.heap.size ≤ b) ∧ Kep (fun b => b ∈ foot H T ∨ b = tb) w wc) := ⟨hT1, hsz1, hx1, hmem1, hsub1, hk1⟩
    clear hT1 hsz1 hx1 hmem1 hsub1 hk1 HF HR t0
    go_wp2
    go_loopg [6] H1 (fun k n wr => SetInv tb x H1 T1 l wc k n wr)
    case atStart => exact ⟨T1, none, none, 0, rfl, H2.out.1.rep, H2.out.1.inv, H2.out.1.ok, H2.out.2.1, ⟨trivial, trivial⟩, H2.out.1.nd, fun y hy => HT.out.2.2 y ((H2.out.2.2.2.1 y).1 hy), H2.out.1.row, H2.out.2.2.1, fun w' t' p => ⟨t', p⟩⟩
    case round =>
      obtain ⟨t, lo, hi, m, rfl, hr, hv, hok, hsz, hb, hnd, hno, hrow, hkx, hcont⟩ := hrel
      clear t1
      have t0 := hrow.cell 0
      have t2 := hrow.cell 2
      simp only [List.getElem?_cons_zero, List.getElem?_cons_succ] at t0 t2
      cases gk with
      | zero =>
        obtain ⟨nb, ib, items, rfl⟩ := Tr.leaf t
        obtain ⟨rest, hN, hI, hlen, hkr⟩ := mkL_parts hr
        have hsort : items.Pairwise (fun a b => a.k < b.k) := hv.2.1
        obtain ⟨c0, hlow⟩ := Lower.ex x.k hsort
        obtain ⟨A, B, hAB, hA, hA1, hB1⟩ := hlow.zip
        have hsz' : items.length < 64 := hsz
        have hno' : ∀ y ∈ items, y.k ≠ x.k := hno
        have hfd : foundAt items x.k c0 = false := not_found hno' c0
        obtain ⟨r0, rest', rfl, hrl⟩ := cons_of_len (l := rest) (n := 63 - items.length) (by omega)
        have n0 := hN.cell 0
        have n1 := hN.cell 1
        simp only [List.getElem?_cons_zero, List.getElem?_cons_succ] at n0 n1
        have HX : Hid ((RowB wr ib 46 (items.map It.ptr ++ r0 :: rest') ∧ (∀ s ∈ items, KR wr s) ∧ KAt wr ⟨x.p, 0, none⟩ x.k ∧ items.Pairwise (fun a b => a.k < b.k) ∧ items.length ≤ 1000 ∧ Lower items x.k c0) ∧ RowB wr nb 62 [.slice (some ⟨ib, 0, none⟩) items.length 64, .slice none 0 0] ∧ RowB wr tb 57 [.func (.func 23) #[] #[], .pointer (some ⟨nbOf H1 T1, 0, none⟩), .int .i64 l] ∧ KR wr x) := ⟨⟨hI, hkr, hkx.kat, hsort, by omega, hlow⟩, hN, hrow, hkx⟩
        have HA : Hid (items = A ++ B ∧ A.length = c0 ∧ (∀ s ∈ A, s.k < x.k) ∧ (∀ s ∈ B, x.k < s.k) ∧ items.length < 64 ∧ rest'.length = 63 - items.length) := ⟨hAB, hA, hA1, fun y hy => by have h1 := hB1 y hy; have h2 := hno' y (by rw [hAB]; simp [hy]); grind, hsz', hrl⟩
        have HC : Hid (Inv 0 (mkL nb ib items) lo hi ∧ Ok 0 (mkL nb ib items) m ∧ (geL lo x.k ∧ ltH x.k hi) ∧ ∀ w' t', Post 0 (mkL nb ib items) (fun y => y ∈ elems 0 (mkL nb ib items) ∨ y = x) m lo hi wr w' t' → ∃ T', Post H1 T1 (fun y => y ∈ elems H1 T1 ∨ y = x) 0 none none wc w' T') := ⟨hv, hok, hb, hcont⟩
        have hnbib : nb ≠ ib := row_ne hN hI (by decide)
        have HD : Hid (nb ≠ ib ∧ tb ≠ nb ∧ tb ≠ ib) := ⟨hnbib, row_ne hrow hN (by decide), row_ne hrow hI (by decide)⟩
        have hci : (c0 : Int) ≤ (items.length : Int) := by have := hlow.1; omega
        have hil : (items.length : Int) ≤ 64 := by omega
        clear hr hv hok hsz hb hnd hno hrow hkx hcont hN hI hlen hkr hsort hlow hAB hA hA1 hB1 hsz' hno' hrl hnbib
        simp only [mkL_nb]
        go_wp2
        go_quiet (first | (go_at_call 35; exact Calls.quiet_of (search_at (HX.out.1.1.drewN _) (fun s hs => (HX.out.1.2.1 s hs).drewN _) (HX.out.1.2.2.1.drewN _) HX.out.1.2.2.2.1 HX.out.1.2.2.2.2.1 HX.out.1.2.2.2.2.2)))
        rw [hfd]
        go_wp2_with fail
        have kd : ∀ n, Kep (fun _ => False) wr (wr.drewN n) := fun n => (Kep.refl _ _).drewN n
        have k1 : ∀ n o, Kep (fun _ => False) wr ((wr.drewN n).alloc o) := fun n o => (kd n).alloc o
        have v1 : ∀ n, RowB ((wr.drewN n).alloc (.cells #[.pointer (some ⟨x.p, 0, none⟩)] 46)) wr.heap.size 46 [.pointer (some ⟨x.p, 0, none⟩)] := fun n => row_new (wr.drewN n) 46 [.pointer (some ⟨x.p, 0, none⟩)]
        have hI1 : ∀ {W}, Kep (fun _ => False) wr W → RowB W ib 46 (A.map It.ptr ++ B.map It.ptr ++ r0 :: rest') := fun k => by
          have := HX.out.1.1.kep k id
          rw [HA.out.1] at this; simpa using this
        have hil2 : items.length = A.length + B.length := by rw [HA.out.1]; simp
        refine (insert41 (A := A.map It.ptr) (B := B.map It.ptr) (r := r0) (rest := rest') (hI1 (k1 _ _)) (by have := HA.out.2.1; simp; omega) (by simp; omega) (by have := HA.out.2.2.2.2; omega) (by omega) (ptrs_one _) (v1 _) rfl (by have := HX.out.1.1.lt; simp; omega)).mono ?_
        rintro e w2 ⟨rfl, hr2, k2⟩
        have k3 : Kep (fun b => b = nb ∨ b = ib) wr w2 := ((k1 _ _).mono (fun _ _ h => h.elim)).trans k2 (fun _ _ h => .inr h)
        have hN2 : RowB w2 nb 62 [.slice (some ⟨ib, 0, none⟩) items.length 64, .slice none 0 0] := by
          refine (HX.out.2.1.kep (k1 _ _) id).kep k2 HD.out.1
        have hrow2 : RowB w2 tb 57 [.func (.func 23) #[] #[], .pointer (some ⟨nbOf H1 T1, 0, none⟩), .int .i64 l] := HX.out.2.2.1.kep k3 (by have := HD.out; intro h; rcases h with h | h; exact this.2.1 h; exact this.2.2 h)
        have tt0 : TT wr (fun b => b = nb ∨ b = ib) := (TT.one HX.out.2.1 (by decide) (by decide)).or (TT.one HX.out.1.1 (by decide) (by decide))
        have hkr2 : ∀ s ∈ items, KR w2 s := fun s hs => (HX.out.1.2.1 s hs).kep k3 tt0
        have hkx2 : KR w2 x := HX.out.2.2.2.kep k3 tt0
        have H3 : Hid (RowB w2 nb 62 [.slice (some ⟨ib, 0, none⟩) items.length 64, .slice none 0 0] ∧ RowB w2 ib 46 (A.map It.ptr ++ .pointer (some ⟨x.p, 0, none⟩) :: B.map It.ptr ++ rest') ∧ RowB w2 tb 57 [.func (.func 23) #[] #[], .pointer (some ⟨nbOf H1 T1, 0, none⟩), .int .i64 l] ∧ (∀ s ∈ items, KR w2 s) ∧ KR w2 x ∧ Kep (fun b => b = nb ∨ b = ib) wr w2 ∧ items.length = A.length + B.length) := ⟨hN2, hr2, hrow2, hkr2, hkx2, k3, hil2⟩
        have n0 := hN2.cell 0
        have f0 := hN2.frozen 0
        simp only [List.getElem?_cons_zero] at n0
        clear kd k1 v1 hI1 hil2 hr2 k2 k3 hN2 hrow2 tt0 hkr2 hkx2 HX n1 t0 t2
        go_upto_region 18 with fail
        have k4 : Kep (fun b => b = nb) w2 (w2.setCell ⟨nb, 0, none⟩ (.slice (some ⟨ib, 0, none⟩) (items.length + 1) 64)) := kep_set _ _ _ _
        have hr3 : Rep 0 (w2.setCell ⟨nb, 0, none⟩ (.slice (some ⟨ib, 0, none⟩) (items.length + 1) 64)) (mkL nb ib (A ++ x :: B)) := by
          have tt1 : TT w2 (fun b => b = nb) := TT.one H3.out.1 (by decide) (by decide)
          refine mkL_rep (rest := rest') ?_ ?_ ?_ ?_
          · have := H3.out.1.set (P := []) (v := .slice (some ⟨ib, 0, none⟩) (items.length + 1) 64) rfl rfl
            have e : (A ++ x :: B).length = items.length + 1 := by rw [H3.out.2.2.2.2.2.2]; simp; omega
            rw [e]; exact this
          · have := H3.out.2.1.kep k4 (Ne.symm HD.out.1)
            simpa [It.ptr] using this
          · have := HA.out.2.2.2.2; have := H3.out.2.2.2.2.2.2; simp; omega
          · intro y hy
            simp only [List.mem_append, List.mem_cons] at hy
            rcases hy with hy | rfl | hy
            · exact (H3.out.2.2.2.1 y (by rw [HA.out.1]; simp [hy])).kep k4 tt1
            · exact H3.out.2.2.2.2.1.kep k4 tt1
            · exact (H3.out.2.2.2.1 y (by rw [HA.out.1]; simp [hy])).kep k4 tt1
        have k5 : Kep (fun b => b = nb ∨ b = ib) wr (w2.setCell ⟨nb, 0, none⟩ (.slice (some ⟨ib, 0, none⟩) (items.length + 1) 64)) := H3.out.2.2.2.2.2.1.trans k4 (fun _ _ h => .inl h)
        have P : ∃ T', Post H1 T1 (fun y => y ∈ elems H1 T1 ∨ y = x) 0 none none wc (w2.setCell ⟨nb, 0, none⟩ (.slice (some ⟨ib, 0, none⟩) (items.length + 1) 64)) T' := by
          refine HC.out.2.2.2 _ (mkL nb ib (A ++ x :: B)) ?_
          have := leaf_post (m := m) (lo := lo) (hi := hi) (w := wr) (A := A) (B := B) (x := x) (by rw [← HA.out.1]; exact HC.out.1) (by rw [← HA.out.1]; exact HC.out.2.1) (by rw [← HA.out.1]; exact HA.out.2.2.2.2.1) HA.out.2.2.1 HA.out.2.2.2.1 HC.out.2.2.1.1 HC.out.2.2.1.2 HD.out.1 hr3 k5
          rw [← HA.out.1] at this; exact this
        have hrow3 : RowB (w2.setCell ⟨nb, 0, none⟩ (.slice (some ⟨ib, 0, none⟩) (items.length + 1) 64)) tb 57 [.func (.func 23) #[] #[], .pointer (some ⟨nbOf H1 T1, 0, none⟩), .int .i64 l] := H3.out.2.2.1.kep k4 HD.out.2.1
        have H4 : Hid ((∃ T', Post H1 T1 (fun y => y ∈ elems H1 T1 ∨ y = x) 0 none none wc (w2.setCell ⟨nb, 0, none⟩ (.slice (some ⟨ib, 0, none⟩) (items.length + 1) 64)) T') ∧ RowB (w2.setCell ⟨nb, 0, none⟩ (.slice (some ⟨ib, 0, none⟩) (items.length + 1) 64)) tb 57 [.func (.func 23) #[] #[], .pointer (some ⟨nbOf H1 T1, 0, none⟩), .int .i64 l]) := ⟨P, hrow3⟩
        have t2 := hrow3.cell 2
        have f2 := hrow3.frozen 2
        simp only [List.getElem?_cons_zero, List.getElem?_cons_succ] at t2
        clear k4 hr3 k5 P hrow3 H3 n0 f0
        generalize w2.setCell ⟨nb, 0, none⟩ (.slice (some ⟨ib, 0, none⟩) (items.length + 1) 64) = w3 at *
        go_wp2
        go_ret2
        obtain ⟨⟨T', P⟩, hrow3⟩ := H4.out
        refine ⟨⟨_, rfl⟩, H1, T', wrap64 (l + 1), ⟨?_, P.rep.kep (kep_set _ _ _ _) (TT.one hrow3 (by decide) (by decide)) (fun b hb e => hrow3.not_foot P.rep (by decide) (by decide) (by decide) (e ▸ hb)), P.inv, P.ok, P.nd⟩, fun y => ?_, fun b hb => ?_, ?_⟩
        · have := hrow3.set (P := [.func (.func 23) #[] #[], .pointer (some ⟨nbOf H1 T1, 0, none⟩)]) (o := 2) (v := .int .i64 (wrap64 (l + 1))) (S := []) rfl rfl
          unfold nodeV; rw [P.nb]; exact this
        · rw [P.mem, H2.out.2.2.2.1]
        · rcases P.sub b hb with h | h
          · exact H2.out.2.2.2.2.1 b h
          · exact .inr (by have := H2.out.2.2.2.2.2.size; omega)
        · refine (H2.out.2.2.2.2.2.trans P.kep (fun b hb hm => ?_)).trans (kep_set _ _ _ _) (fun b _ e => .inr e)
          rcases H2.out.2.2.2.2.1 b hm with h | h
          · exact .inl h
          · omega
      | succ h =>
        obtain ⟨nb, ib, cb, seps, kids, rfl⟩ := Tr.inner t
        obtain ⟨restS, restK, hN, hlS, hlK, hkr, hrk⟩ := mkI_parts hr
        have hch : Chain (Inv h) seps kids lo hi := hv
        have hlen := hch.length
        have hok' := mkI_ok.1 hok
        have hsz' : kids.length < 64 := hsz
        have hsps := (Chain.seps (fun _ _ _ h => Inv.le h) hch).1
        have n1 := hN.c1
        have HN : Hid (Rep (h + 1) wr (mkI nb ib cb seps kids) ∧ Inv (h + 1) (mkI nb ib cb seps kids) lo hi ∧ Ok (h + 1) (mkI nb ib cb seps kids) m ∧ (foot (h + 1) (mkI nb ib cb seps kids)).Nodup ∧ (∀ y ∈ elems (h + 1) (mkI nb ib cb seps kids), y.k ≠ x.k)) := ⟨hr, hv, hok, hnd, hno⟩
        have HX : Hid ((NodeR wr nb ib cb seps.length kids.length (seps.map It.ptr ++ restS) (kids.map (nodeV h) ++ restK) ∧ (∀ s ∈ seps, KR wr s) ∧ (∀ c ∈ kids, Rep h wr c) ∧ seps.Pairwise (fun a b => a.k ≤ b.k)) ∧ RowB wr tb 57 [.func (.func 23) #[] #[], .pointer (some ⟨nbOf H1 T1, 0, none⟩), .int .i64 l] ∧ KR wr x) := ⟨⟨hN, hkr, hrk, hsps⟩, hrow, hkx⟩
        have HE : Hid (kids.length = seps.length + 1 ∧ kids.length < 64 ∧ (geL lo x.k ∧ ltH x.k hi)) := ⟨hlen, hsz', hb⟩
        have HC : Hid (∀ w' t', Post (h + 1) (mkI nb ib cb seps kids) (fun y => y ∈ elems (h + 1) (mkI nb ib cb seps kids) ∨ y = x) m lo hi wr w' t' → ∃ T', Post H1 T1 (fun y => y ∈ elems H1 T1 ∨ y = x) 0 none none wc w' T') := hcont
        clear hr hv hok hsz hb hnd hno hrow hkx hcont hN hlS hlK hkr hrk hch hlen hok' hsz' hsps t2
        simp only [mkI_nb]
        go_wp2_with fail
        refine (child_any (tb := tb) (x := x.k) HX.out.2.1 HX.out.1.1.node HX.out.1.1.row HX.out.1.2.1 HX.out.2.2.kat HX.out.1.2.2.2 (by have := HE.out; omega)).mono ?_
        rintro e w1 ⟨⟨i, rfl, hup⟩, n1', hw1⟩
        obtain ⟨S1, S2, K1, c, K2, hS, hK, hi1, hi2, hb1, hb2⟩ := hup.zip HE.out.1
        have k1 : Kep (fun _ => False) wr w1 := by rw [hw1]; exact (Kep.refl _ _).drewN _
        have hnk : kids.length = K1.length + 1 + K2.length := by rw [hK]; simp; omega
        have hik : (i : Int) < (kids.length : Int) := by omega
        have hi64 : (i : Int) ≤ 64 := by have := HE.out; omega
        have hr1 : Rep (h + 1) w1 (mkI nb ib cb seps kids) := HN.out.1.kep k1 (TT.false _) (fun _ _ => id)
        have P1 : Post (h + 1) (mkI nb ib cb seps kids) (fun y => y ∈ elems (h + 1) (mkI nb ib cb seps kids)) m lo hi wr w1 (mkI nb ib cb seps kids) := ⟨hr1, HN.out.2.1, HN.out.2.2.1, fun _ => Iff.rfl, HN.out.2.2.2.1, fun _ h => .inl h, rfl, k1.mono (fun _ _ h => h.elim)⟩
        have hci : w1.cell? ⟨cb, i, none⟩ = some (.pointer (some ⟨nbOf h c, 0, none⟩)) := by
          rw [(HX.out.1.1.kid.kep k1 id).cell, hK, List.getElem?_append_left (by simp; omega)]
          simp [List.getElem?_append_right, hi2, nodeV]
        have n1 := (HX.out.1.1.kep k1 id id id).c1
        have hrc : Rep h w1 c := (HX.out.1.2.2.1 c (by rw [hK]; simp)).kep k1 (TT.false _) (fun _ _ => id)
        obtain ⟨a, b, hcl, hcv, hcr⟩ := Chain.at (I := Inv h) (S1 := S1) (S2 := S2) (K1 := K1) (K2 := K2) (c := c) (lo := lo) (hi := hi) (by have := HN.out.2.1; rw [hS, hK] at this; exact this) (by omega)
        have hokc : Ok h c 32 := (mkI_ok.1 HN.out.2.2.1).2.2.2 c (by rw [hK]; simp)
        obtain ⟨ia, nn, cc, ca, mm, dd, hnr, hfl⟩ := hrc.nodeRow ⟨_, _, hcv⟩ (by cases h with
          | zero => exact ⟨Nat.zero_le _, hokc.2⟩
          | succ h => exact ⟨Nat.zero_le _, hokc.2⟩)
        have HF : Hid ((decide ((nn : Int) = 64) || decide ((mm : Int) = 64)) = decide (sizeT h c = 64)) := hfl
        have HR : Hid (RowB w1 (nbOf h c) 62 [.slice ia nn cc, .slice ca mm dd]) := hnr
        have HZ : Hid ((seps = S1 ++ S2 ∧ kids = K1 ++ [c] ++ K2 ∧ S1.length = i ∧ K1.length = i) ∧ (∀ s ∈ S1, s.k ≤ x.k) ∧ (∀ s ∈ S2, x.k < s.k)) := ⟨⟨hS, hK, hi1, hi2⟩, hb1, hb2⟩
        have HP : Hid (Post (h + 1) (mkI nb ib cb seps kids) (fun y => y ∈ elems (h + 1) (mkI nb ib cb seps kids)) m lo hi wr w1 (mkI nb ib cb seps kids) ∧ Rep h w1 c ∧ ChainL (Inv h) S1 K1 lo a ∧ Inv h c a b ∧ ChainR (Inv h) S2 K2 b hi ∧ Ok h c 32 ∧ RowB w1 tb 57 [.func (.func 23) #[] #[], .pointer (some ⟨nbOf H1 T1, 0, none⟩), .int .i64 l] ∧ KR w1 x) := ⟨P1, hrc, hcl, hcv, hcr, hokc, HX.out.2.1.kep k1 id, HX.out.2.2.kep k1 (TT.false _)⟩
        clear hw1 hup hS hK hi1 hi2 hb1 hb2 k1 hnk hr1 P1 hrc hcl hcv hcr hokc hnr hfl HX
        have t0 := HP.out.2.2.2.2.2.2.1.cell 0
        simp only [List.getElem?_cons_zero] at t0
        go_wp2_with fail
        refine (full_any HR.out).mono ?_
        rintro e w' ⟨rfl, hw⟩
        obtain rfl := hw.symm
        clear hw
        rw [HF.out]
        by_cases hf : sizeT h c = 64
        · have hd : decide (sizeT h c = 64) = true := by simp [hf]
          have HS : Hid (sizeT h c = 64) := hf
          clear hf HF HR
          rw [hd]
          clear hd
          go_wp2_with fail
          have hsp := split_rep (tv := .pointer (some ⟨tb, 0, none⟩)) (t := (⟨nb, ib, cb, seps, kids⟩ : Inner (Tr h))) (S1 := S1) (S2 := S2) (K1 := K1) (K2 := K2) (c := c) HP.out.1.rep HZ.out.1.1 HZ.out.1.2.1 (by have := HZ.out.1; omega) HE.out.1 HE.out.2.1 HS.out ⟨_, _, HP.out.2.2.2.1⟩ HP.out.1.nd
          rw [HZ.out.1.2.2.2] at hsp
          refine hsp.mono ?_
          clear hsp
          rintro e w2 ⟨rfl, s, c1, c2, r2, so, nd2, sub2, k2⟩
          have P2 : Post (h + 1) (mkI nb ib cb seps kids) (fun y => y ∈ elems (h + 1) (mkI nb ib cb seps kids)) m lo hi w1 w2 (mkI nb ib cb (S1 ++ s :: S2) (K1 ++ [c1, c2] ++ K2)) := by
            obtain ⟨P1, hrc, hcl, hcv, hcr, hokc, hrow1, hkx1⟩ := HP.out
            obtain ⟨⟨hS, hK, hi1, hi2⟩, hb1, hb2⟩ := HZ.out
            have hoo := mkI_ok.1 P1.ok
            subst hS hK
            exact split_post P1.rep hcl hcv hcr (fun d hd => hoo.2.2.2 d (by rcases hd with hd | hd <;> simp [hd])) hokc HE.out.2.1 (by omega) P1.nd r2 so nd2 sub2 k2
          have htb : tb ∉ foot (h + 1) (mkI nb ib cb seps kids) := HP.out.2.2.2.2.2.2.1.not_foot HP.out.1.rep (by decide) (by decide) (by decide)
          obtain ⟨restS2, restK2, hN2, hlS2, hlK2, hkr2, hrk2⟩ := mkI_parts r2
          have eS : (S1 ++ s :: S2).length = seps.length + 1 := by rw [HZ.out.1.1]; simp; omega
          have eK : (K1 ++ [c1, c2] ++ K2).length = kids.length + 1 := by rw [HZ.out.1.2.1]; simp; omega
          rw [eS, eK] at hN2
          have HQ : Hid (SplitOf h c s c1 c2 ∧ Post (h + 1) (mkI nb ib cb seps kids) (fun y => y ∈ elems (h + 1) (mkI nb ib cb seps kids)) m lo hi w1 w2 (mkI nb ib cb (S1 ++ s :: S2) (K1 ++ [c1, c2] ++ K2)) ∧ RowB w2 tb 57 [.func (.func 23) #[] #[], .pointer (some ⟨nbOf H1 T1, 0, none⟩), .int .i64 l] ∧ KR w2 x ∧ KR w2 s) := ⟨so, P2, HP.out.2.2.2.2.2.2.1.kep P2.kep htb, HP.out.2.2.2.2.2.2.2.kep P2.kep HP.out.1.rep.tt, hkr2 s (by simp)⟩
          have n0 := hN2.c0
          have n1 := hN2.c1
          have hsi : w2.cell? ⟨ib, i, none⟩ = some (.pointer (some ⟨s.p, 0, none⟩)) := by
            rw [hN2.row.cell, List.getElem?_append_left (by have := HZ.out.1; simp; omega)]
            simp [List.getElem?_append_right, HZ.out.1.2.2.1, It.ptr]
          have hc1i : w2.cell? ⟨cb, i, none⟩ = some (.pointer (some ⟨nbOf h c1, 0, none⟩)) := by
            rw [hN2.kid.cell, List.getElem?_append_left (by have := HZ.out.1; simp; omega)]
            simp [List.getElem?_append_right, HZ.out.1.2.2.2, nodeV]
          have hc2i : w2.cell? ⟨cb, i + 1, none⟩ = some (.pointer (some ⟨nbOf h c2, 0, none⟩)) := by
            rw [hN2.kid.cell, List.getElem?_append_left (by have := HZ.out.1; simp; omega)]
            simp [List.getElem?_append_right, HZ.out.1.2.2.2, nodeV]
          have t0 := HQ.out.2.2.1.cell 0
          simp only [List.getElem?_cons_zero] at t0
          have hik1 : (i : Int) < ((seps.length + 1 : Nat) : Int) := by have := HE.out; omega
          have hik2 : (i : Int) < ((kids.length + 1 : Nat) : Int) := by omega
          have hik3 : (i : Int) + 1 < ((kids.length + 1 : Nat) : Int) := by omega
          clear r2 so nd2 sub2 k2 P2 htb hN2 hlS2 hlK2 hkr2 hrk2 eS eK hci
          generalize seps.length + 1 = ns2 at *
          generalize kids.length + 1 = nk2 at *
          by_cases hcmp : 0 ≤ cmpK x.k s.k
          · have HCM : Hid (geL (some s.k) x.k) := cmpK_ge.1 hcmp
            go_wp2
            go_quiet (first | (go_at_call 23; exact Calls.quiet_of (order_any (HQ.out.2.2.2.1.kat.drewN _) (HQ.out.2.2.2.2.kat.drewN _))))
            go_wp2
            go_roundg h
            case measure => exact Nat.lt_succ_self _
            case rel =>
              obtain ⟨P1, hrc, hcl, hcv, hcr, hokc, hrow1, hkx1⟩ := HP.out
              obtain ⟨⟨hS, hK, hi1, hi2⟩, hb1, hb2⟩ := HZ.out
              obtain ⟨so, P2, hrow2, hkx2, hkrs2⟩ := HQ.out
              subst hS hK
              obtain ⟨i1, i2⟩ := so.inv a b hcv
              have hnd := P2.nd
              have hrcc : Rep h w2 c2 := (mkI_parts P2.rep).choose_spec.choose_spec.2.2.2.2 c2 (by simp)
              refine ⟨c2, (some s.k), b, 32, rfl, hrcc.kep ((Kep.refl (fun _ => False) _).drewN _) (TT.false _) (fun _ _ => id), i2, (so.ok _ hokc).2, by rw [so.size.2]; decide, ⟨HCM.out, hcr.bound HE.out.2.2.2 hb2⟩, ?_, fun y hy => HN.out.2.2.2.2 y ?_, hrow2.drewN _, hkx2.drewN _, fun w' c' p => ?_⟩
              · have := (foot_mid hnd).2.2.2.2.2.2
                simp only [List.flatMap_cons, List.flatMap_nil, List.append_nil, List.nodup_append] at this
                exact this.2.1
              · have := (P2.mem y).1 (by rw [mkI_elems]; simp [hy])
                exact this
              · refine HC.out w' _ (P1.trans ((P2.drewN _).trans ((Post.up2 (P2.drewN _).rep hcl i1 hcr P2.ok P2.nd p).iff fun y => ?_)))
                have := P2.mem y
                rw [mkI_elems] at this
                rw [← this]
                simp only [List.flatMap_append, List.flatMap_cons, List.flatMap_nil, List.append_nil, List.mem_append]; grind
          · have hcmp' : cmpK x.k s.k < 0 := by omega
            have HCM : Hid (ltH x.k (some s.k)) := cmpK_neg.1 hcmp'
            go_wp2
            go_quiet (first | (go_at_call 23; exact Calls.quiet_of (order_any (HQ.out.2.2.2.1.kat.drewN _) (HQ.out.2.2.2.2.kat.drewN _))))
            go_wp2
            go_roundg h
            case measure => exact Nat.lt_succ_self _
            case rel =>
              obtain ⟨P1, hrc, hcl, hcv, hcr, hokc, hrow1, hkx1⟩ := HP.out
              obtain ⟨⟨hS, hK, hi1, hi2⟩, hb1, hb2⟩ := HZ.out
              obtain ⟨so, P2, hrow2, hkx2, hkrs2⟩ := HQ.out
              subst hS hK
              obtain ⟨i1, i2⟩ := so.inv a b hcv
              have hnd := P2.nd
              have hrcc : Rep h w2 c1 := (mkI_parts P2.rep).choose_spec.choose_spec.2.2.2.2 c1 (by simp)
              refine ⟨c1, a, (some s.k), 32, rfl, hrcc.kep ((Kep.refl (fun _ => False) _).drewN _) (TT.false _) (fun _ _ => id), i1, (so.ok _ hokc).1, by rw [so.size.1]; decide, ⟨hcl.bound HE.out.2.2.1 hb1, HCM.out⟩, ?_, fun y hy => HN.out.2.2.2.2 y ?_, hrow2.drewN _, hkx2.drewN _, fun w' c' p => ?_⟩
              · have := (foot_mid hnd).2.2.2.2.2.2
                simp only [List.flatMap_cons, List.flatMap_nil, List.append_nil, List.nodup_append] at this
                exact this.1
              · have := (P2.mem y).1 (by rw [mkI_elems]; simp [hy])
                exact this
              · refine HC.out w' _ (P1.trans ((P2.drewN _).trans ((Post.up1 (P2.drewN _).rep hcl i2 hcr P2.ok P2.nd p).iff fun y => ?_)))
                have := P2.mem y
                rw [mkI_elems] at this
                rw [← this]
                simp only [List.flatMap_append, List.flatMap_cons, List.flatMap_nil, List.append_nil, List.mem_append]; grind
        · have hd : decide (sizeT h c = 64) = false := by simp [hf]
          have HS : Hid (¬ sizeT h c = 64) := hf
          clear hf HF HR
          rw [hd]
          clear hd
          go_wp2_with fail
          go_roundg h
          case measure => exact Nat.lt_succ_self _
          case rel =>
            obtain ⟨P1, hrc, hcl, hcv, hcr, hokc, hrow1, hkx1⟩ := HP.out
            obtain ⟨⟨hS, hK, hi1, hi2⟩, hb1, hb2⟩ := HZ.out
            subst hS hK
            refine ⟨c, a, b, 32, rfl, hrc, hcv, hokc, ?_, ⟨hcl.bound HE.out.2.2.1 hb1, hcr.bound HE.out.2.2.2 hb2⟩, ?_, fun y hy => HN.out.2.2.2.2 y ?_, hrow1, hkx1, fun w' c' p => ?_⟩
            · have : sizeT h c ≤ 64 := by
                cases h with
                | zero => exact hokc.2
                | succ h => exact hokc.2.2.1
              have := HS.out
              omega
            · have := (foot_mid P1.nd).2.2.2.2.2.2
              simpa using this
            · rw [mkI_elems]; simp [hy]
            · refine HC.out w' _ (P1.trans ((Post.up P1.rep hcl hcr P1.ok P1.nd p).iff fun y => ?_))
              rw [mkI_elems]; simp only [List.flatMap_append, List.flatMap_cons, List.flatMap_nil, List.append_nil, List.mem_append]; grind
end Go.Proofs.Qxb6615764a
