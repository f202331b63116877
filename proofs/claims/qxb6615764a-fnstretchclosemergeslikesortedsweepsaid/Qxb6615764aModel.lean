/-
  The walk of zzMergeModel (12).
-/
import Derived.Test.Qxb6615764aSortP
import Derived.Test.Qxb6615764aDel
namespace Go.Proofs.Qxb6615764a
open Go.RowKit Go.Lib
set_option linter.unusedVariables false
set_option linter.unusedSimpArgs false
set_option linter.unusedSectionVars false

theorem own_kep {w w' : World} {M : Nat → Prop} {base : Nat} {e : TypeId} {size : Nat} {v : Value} {n : Nat} {xs : List Value} (h : w.ownsRow base e size v n xs) (k : Kep M w w') (hM : ∀ g, v.ownBlock = some g → ¬ M g) : w'.ownsRow base e size v n xs := by
  refine ⟨h.1, h.2.imp id ?_⟩
  rintro ⟨g, cap, cur, rfl, h1, h2, h3⟩
  exact ⟨g, cap, cur, rfl, h1, by rw [k.block g (lt_of_some h2) (hM g rfl)]; exact h2, h3⟩
theorem grown_kep {w w' : World} {row : Option Nat} (h : w.grownBy w' row) : Kep (fun k => some k = row) w w' := ⟨h.os, h.tape, h.output, h.size, fun k hk hn => h.block k hk hn⟩
/-- append of one stretch to a row that grows: what comes of it. -/
theorem grow_pair {w : World} {base n : Nat} {v fv tv : Value} {xs : List Value} (h : w.ownsRow base 30 2 v n xs) (hf : fv.oneCell' = true) (ht : tv.oneCell' = true) (hn : n ≤ 1048576) (hb : base ≤ w.heap.size) :
    ∃ g cap w', (Builtin.append_ #[22, 22] 22 #[v, .slice (some ⟨w.heap.size, 0, none⟩) 1 1]).run Try.prog (w.alloc (.cells #[fv, tv] 30)) = .ok (.slice (some ⟨g, 0, none⟩) (n + 1) cap) w' ∧ w'.ownsRow base 30 2 (.slice (some ⟨g, 0, none⟩) (n + 1) cap) (n + 1) (xs ++ [fv, tv]) ∧ Kep (fun k => some k = v.ownBlock) w w' ∧ (v.ownBlock = some g ∨ w.heap.size ≤ g) := by
  obtain ⟨i0, hi0, hz0, hz1, hz2⟩ := info_parts Try.info30
  have ka : Kep (fun _ => False) w (w.alloc (.cells #[fv, tv] 30)) := (Kep.refl _ _).alloc _
  have h1 := own_kep h ka (fun _ _ => id)
  have hr : RowB (w.alloc (.cells #[fv, tv] 30)) w.heap.size 30 [fv, tv] := row_new w 30 [fv, tv]
  obtain ⟨g, cap, w', hrun, hown, hgr, hgc, hglt⟩ := run_append_lies (P := Try.prog) (w.alloc (.cells #[fv, tv] 30)) 22 22 base 30 i0 (.agg #[.slice none 0 0, .slice none 0 0]) 2 48 Try.underlying22 hi0 hz0 hz1 hz2 rfl (by decide) v n xs h1 ⟨w.heap.size, 0, none⟩ 1 1 [fv, tv] rfl (fun j u hj => by
    rw [Addr.add_lit, Nat.zero_add, hr.cell]; exact hj) (fun u hu => by simp at hu; rcases hu with rfl | rfl; exact hf; exact ht) (by omega) (by unfold maxLen; omega) (by omega) (Nat.le_trans hb ka.size) _ rfl
  refine ⟨g, cap, w', hrun, hown, (ka.mono (fun _ _ h => h.elim)).trans (grown_kep hgr) (fun _ _ h => h), hgc.imp id (fun e => ?_)⟩
  rw [e]; exact ka.size

/-- The row that is copied: the first i stretches lie in it. -/
def CpInv (w : World) (sb n : Nat) (L : List Iv) (i : Nat) (wr : World) : Prop :=
  w.heap.size ≤ sb ∧ Kep (fun _ => False) w wr ∧ ∃ (l : List SI) (rest : List Value), RowB wr sb 30 (flat l ++ rest) ∧ l.length = i ∧ rest.length = (n - i) * 2 ∧ l.map (·.r) = L.take i ∧ ∀ x ∈ l, SI.ok w x
/-- The row while it is sorted. -/
def OutI (w : World) (sb : Nat) (l : List SI) (i : Nat) (wr : World) : Prop :=
  Kep (fun _ => False) w wr ∧ ∃ P C, RowB wr sb 30 (flat (P ++ C)) ∧ (P.length = i ∨ l = [] ∧ i = 1) ∧ P.Pairwise leS ∧ (P ++ C).Perm l
def InI (w : World) (sb cb : Nat) (l : List SI) (cur : SI) (C : List SI) (i j : Nat) (wr : World) : Prop :=
  Kep (fun _ => False) w wr ∧ RowB wr cb 30 [cur.fv, cur.tv] ∧ ∃ A g B, RowB wr sb 30 (flat (A ++ g :: (B ++ C))) ∧ A.length = j ∧ j + B.length = i ∧ Hole l cur A B C
def SwI (w : World) (sb : Nat) (l : List SI) (i : Nat) (out : List SI) (cur : SI) (o : Value) (wr : World) : Prop :=
  Kep (fun _ => False) w wr ∧ RowB wr sb 30 (flat l) ∧ wr.ownsRow w.heap.size 30 2 o out.length (flat out) ∧ o.ownBlock ≠ some sb ∧ SI.ok w cur ∧ (∀ x ∈ out, SI.ok w x) ∧ Swept (out.map (·.r)) cur.r ((l.take i).map (·.r)) ∧ (∀ j x, i ≤ j → l[j]? = some x → cur.r.1 ≤ x.r.1) ∧ out.length < i ∧ bdLen cur.r.2 ≤ 2097152
def MPost (w : World) (L : List Iv) (e : Ending) (w' : World) : Prop :=
  ∃ v' M, e = .returned v' ∧ Sts w' v' M ∧ Kep (fun _ => False) w w' ∧ (L = [] → M = []) ∧ (L ≠ [] → ∃ out cur D', M = out ++ [cur] ∧ Swept out cur D' ∧ ∀ r, r ∈ L ↔ r ∈ D')

theorem cp_step {w wr w3 : World} {sb n : Nat} {L : List Iv} {i : Nat} {x : SI} {x0 x1 : Value} {l : List SI} {rest : List Value} (h1 : w.heap.size ≤ sb) (h2 : Kep (fun _ => False) w wr) (h3 : RowB wr sb 30 (flat l ++ x0 :: x1 :: rest)) (h4 : l.length = i) (h5 : rest.length = (n - (i + 1)) * 2) (h6 : l.map (·.r) = L.take i) (h7 : ∀ y ∈ l, SI.ok w y) (hx : SI.ok w x) (hr : L[i]? = some x.r) :
    CpInv w sb n L (i + 1) ((wr.setCell ⟨sb, i * 2, none⟩ x.fv).setCell ⟨sb, i * 2 + 1, none⟩ x.tv) := by
  have kS : Kep (fun b => b = sb) wr ((wr.setCell ⟨sb, i * 2, none⟩ x.fv).setCell ⟨sb, i * 2 + 1, none⟩ x.tv) := (kep_set _ _ _ _).trans (kep_set _ _ _ _) (fun _ _ h => h)
  have e := flat_len l
  refine ⟨h1, h2.trans kS (fun b hb e => by have e2 : b = sb := e; omega), l ++ [x], rest, ?_, by simp [h4], h5, ?_, fun y hy => ?_⟩
  · have := setPair (x0 := x0) (x1 := x1) (fv := x.fv) (tv := x.tv) (j := i) h3 (by simp; omega)
    rw [List.set_append_right _ _ (by omega), List.set_append_right _ _ (by omega)] at this
    have e1 : i * 2 - (flat l).length = 0 := by omega
    have e2 : i * 2 + 1 - (flat l).length = 1 := by omega
    rw [e1, e2] at this
    rw [flat_append, List.append_assoc]
    exact this
  · rw [List.take_add_one, hr, List.map_append, h6]; rfl
  · rcases List.mem_append.1 hy with hy | hy
    · exact h7 y hy
    · rw [List.mem_singleton] at hy; subst hy; exact hx


theorem SI.ok.keepN {w w' : World} {x : SI} (h : SI.ok w x) (k : Kep (fun _ => False) w w') : SI.ok w' x := ⟨h.1, h.2.1, h.2.2.1.keepN k, h.2.2.2.keepN k⟩
theorem in_start {w wr w2 : World} {sb cb i : Nat} {l P C : List SI} {cur : SI} (kw : Kep (fun _ => False) w wr) (hrow : RowB wr sb 30 (flat (P ++ cur :: C))) (hPl : P.length = i) (hPo : P.Pairwise leS) (hPerm : (P ++ cur :: C).Perm l) (k2 : Kep (fun _ => False) wr w2) (hc : RowB w2 cb 30 [cur.fv, cur.tv]) : InI w sb cb l cur C i i w2 :=
  ⟨kw.trans k2 (fun _ _ h => h), hc, P, cur, [], by simpa using hrow.kep k2 id, hPl, by simp, Hole.start hPerm hPo⟩
theorem out_step {w wq : World} {sb i j : Nat} {l A B C : List SI} {cur g : SI} (hsb : w.heap.size ≤ sb) (kw : Kep (fun _ => False) w wq) (hrow : RowB wq sb 30 (flat (A ++ g :: (B ++ C)))) (hA : A.length = j) (hAB : j + B.length = i) (hH : Hole l cur A B C) (hp : ∀ p A', A = A' ++ [p] → p.r.1 ≤ cur.r.1) :
    OutI w sb l (i + 1) ((wq.setCell ⟨sb, j * 2, none⟩ cur.fv).setCell ⟨sb, j * 2 + 1, none⟩ cur.tv) := by
  have kS : Kep (fun b => b = sb) wq ((wq.setCell ⟨sb, j * 2, none⟩ cur.fv).setCell ⟨sb, j * 2 + 1, none⟩ cur.tv) := (kep_set _ _ _ _).trans (kep_set _ _ _ _) (fun _ _ h => h)
  refine ⟨kw.trans kS (fun b hb e => by have e2 : b = sb := e; omega), A ++ cur :: B, C, ?_, .inl (by simp; omega), hH.done hp, by simpa using hH.perm⟩
  have := setPair (x0 := cur.fv) (x1 := cur.tv) (fv := cur.fv) (tv := cur.tv) (j := j) hrow (by rw [flat_len]; simp; omega)
  rw [flat_set hA.symm] at this
  simpa using this
theorem in_step {w wq : World} {sb cb i j : Nat} {l A B C : List SI} {cur g p : SI} (hsb : w.heap.size ≤ sb) (hne : cb ≠ sb) (kw : Kep (fun _ => False) w wq) (hc : RowB wq cb 30 [cur.fv, cur.tv]) (hrow : RowB wq sb 30 (flat (A ++ [p] ++ g :: (B ++ C)))) (hA : A.length = j) (hAB : j + 1 + B.length = i) (hH : Hole l cur (A ++ [p]) B C) (hle : cur.r.1 ≤ p.r.1) :
    InI w sb cb l cur C i j ((wq.setCell ⟨sb, (j + 1) * 2, none⟩ p.fv).setCell ⟨sb, (j + 1) * 2 + 1, none⟩ p.tv) := by
  have kS : Kep (fun b => b = sb) wq ((wq.setCell ⟨sb, (j + 1) * 2, none⟩ p.fv).setCell ⟨sb, (j + 1) * 2 + 1, none⟩ p.tv) := (kep_set _ _ _ _).trans (kep_set _ _ _ _) (fun _ _ h => h)
  refine ⟨kw.trans kS (fun b hb e => by have e2 : b = sb := e; omega), hc.kep kS hne, A, p, p :: B, ?_, hA, by simp; omega, hH.step hle⟩
  have := setPair (x0 := cur.fv) (x1 := cur.tv) (fv := p.fv) (tv := p.tv) (j := j + 1) hrow (by rw [flat_len]; simp; omega)
  rw [flat_set (by simp [hA])] at this
  simpa using this
theorem sw_keep {w wr w' : World} {sb i : Nat} {l out : List SI} {cur : SI} {o : Value} (h : SwI w sb l i out cur o wr) (k : Kep (fun _ => False) wr w') : SwI w sb l i out cur o w' := by
  obtain ⟨s1, s2, s3, s4⟩ := h
  exact ⟨s1.trans k (fun _ _ h => h), s2.kep k id, own_kep s3 k (fun _ _ => id), s4⟩
theorem sw_join {w wr w' : World} {sb i : Nat} {l out : List SI} {cf ct : Value} {cr : Iv} {x : SI} {o : Value} (h : SwI w sb l i out ⟨cf, ct, cr⟩ o wr) (k : Kep (fun _ => False) wr w') (hx : l[i]? = some x) (hv : Valid x.r) (hm : leB x.r.1 cr.2 = true) (hok : SI.ok w x) (hb : bdLen x.r.2 ≤ 2097152) :
    (ltB cr.2 x.r.2 = true → SwI w sb l (i + 1) out ⟨cf, x.tv, (cr.1, x.r.2)⟩ o w') ∧ (¬ ltB cr.2 x.r.2 = true → SwI w sb l (i + 1) out ⟨cf, ct, cr⟩ o w') := by
  obtain ⟨s1, s2, s3, s4, s5, s6, s7, s8, s9, s10⟩ := sw_keep h k
  have hle : cr.1 ≤ x.r.1 := s8 i x (Nat.le_refl _) hx
  have hj := sweep_join s7 hx hv hle hm
  constructor
  · intro e
    simp only [e, if_true] at hj
    exact ⟨s1, s2, s3, s4, ⟨s5.1, hok.2.1, s5.2.2.1, hok.2.2.2⟩, s6, hj, fun j y hj' hy => s8 j y (by omega) hy, by omega, hb⟩
  · intro e
    simp only [e] at hj
    exact ⟨s1, s2, s3, s4, s5, s6, hj, fun j y hj' hy => s8 j y (by omega) hy, by omega, s10⟩
theorem sw_next {w wr w' : World} {sb i g cap : Nat} {l out : List SI} {cur x : SI} {o : Value} (hsb : w.heap.size ≤ sb) (hs : l.Pairwise leS) (h : SwI w sb l i out cur o wr) (hx : l[i]? = some x) (hv : Valid x.r) (hm : ¬ leB x.r.1 cur.r.2 = true) (hok : SI.ok w x) (hb : bdLen x.r.2 ≤ 2097152)
    (hown : w'.ownsRow w.heap.size 30 2 (.slice (some ⟨g, 0, none⟩) (out.length + 1) cap) (out.length + 1) (flat out ++ [cur.fv, cur.tv])) (hk : Kep (fun k => some k = o.ownBlock) wr w') (hg : o.ownBlock = some g ∨ wr.heap.size ≤ g) :
    SwI w sb l (i + 1) (out ++ [cur]) x (.slice (some ⟨g, 0, none⟩) (out.length + 1) cap) w' := by
  obtain ⟨s1, s2, s3, s4, s5, s6, s7, s8, s9, s10⟩ := h
  refine ⟨s1.trans hk (fun b hb e => ?_), s2.kep hk (fun e => s4 e.symm), ?_, ?_, hok, fun y hy => ?_, sweep_next s7 hx hv hm, fun j y hj hy => ?_, by simp; omega, hb⟩
  · rcases s3.2 with ⟨e2, _⟩ | ⟨g', cap', cur', e2, h1, _⟩
    · rw [e2] at e; cases e
    · rw [e2] at e
      simp [Value.ownBlock] at e
      omega
  · rw [flat_append, List.length_append]; exact hown
  · intro e
    simp [Value.ownBlock] at e
    subst e
    rcases hg with hg | hg
    · exact s4 hg
    · have := s2.lt; omega
  · rcases List.mem_append.1 hy with hy | hy
    · exact s6 y hy
    · rw [List.mem_singleton] at hy; subst hy; exact s5
  · obtain ⟨l1, e1⟩ := List.getElem?_eq_some_iff.1 hx
    obtain ⟨l2, e2⟩ := List.getElem?_eq_some_iff.1 hy
    have := List.pairwise_iff_getElem.1 hs i j l1 l2 (by omega)
    rw [e1, e2] at this
    exact this
theorem sts_of_own {w : World} {base g m cap : Nat} {M : List SI} (h : w.ownsRow base 30 2 (.slice (some ⟨g, 0, none⟩) m cap) m (flat M)) (hm : M.length = m) (hok : ∀ x ∈ M, SI.ok w x) : Sts w (.slice (some ⟨g, 0, none⟩) m cap) (M.map (·.r)) := by
  refine ⟨some ⟨g, 0, none⟩, cap, by simp [hm], (fun e => by cases e), fun _ => ⟨g, 0, rfl, fun j r hr => ?_⟩⟩
  rcases h.2 with ⟨e, _⟩ | ⟨g', cap', cur, e, _, hg, _, _, _, htk⟩
  · cases e
  · injection e with e _ _
    injection e with e
    injection e with e _ _
    subst e
    rw [List.getElem?_map] at hr
    cases hy : M[j]? with
    | none => rw [hy] at hr; cases hr
    | some y =>
      rw [hy] at hr
      injection hr with hr
      subst hr
      have hlt := (List.getElem?_eq_some_iff.1 hy).1
      have hy' := hok y (List.mem_of_getElem? hy)
      have hrow : RowB w g 30 cur.toList := by unfold RowB; rw [hg]
      have t0 := flat_at0 hy
      have t1 := flat_at1 hy
      rw [← htk, List.getElem?_take_of_lt (by omega)] at t0 t1
      exact ⟨y.fv, y.tv, by rw [Nat.zero_add, hrow.cell]; exact t0, by rw [Nat.zero_add, hrow.cell]; exact t1, hy'.2.2.1, hy'.2.2.2⟩
theorem sw_end {w wr w' : World} {sb n g cap : Nat} {L : List Iv} {l0 l out : List SI} {cur : SI} {o : Value} (h : SwI w sb l n out cur o wr) (hl : l.length = n) (hp : l.Perm l0) (hL : l0.map (·.r) = L)
    (hown : w'.ownsRow w.heap.size 30 2 (.slice (some ⟨g, 0, none⟩) (out.length + 1) cap) (out.length + 1) (flat out ++ [cur.fv, cur.tv])) (hk : Kep (fun k => some k = o.ownBlock) wr w') :
    MPost w L (.returned (.slice (some ⟨g, 0, none⟩) (out.length + 1) cap)) w' := by
  obtain ⟨s1, s2, s3, s4, s5, s6, s7, s8, s9, s10⟩ := h
  have kn : Kep (fun _ => False) w w' := s1.trans hk (fun b hb e => by
    rcases s3.2 with ⟨e2, _⟩ | ⟨g', cap', cur', e2, h1, _⟩
    · rw [e2] at e; cases e
    · rw [e2] at e
      simp [Value.ownBlock] at e
      omega)
  have hmem : ∀ r, r ∈ L ↔ r ∈ (l.take n).map (·.r) := fun r => by
    rw [← hl, List.take_length, ← hL, List.mem_map, List.mem_map]
    constructor
    · rintro ⟨x, hx, e⟩; exact ⟨x, hp.mem_iff.2 hx, e⟩
    · rintro ⟨x, hx, e⟩; exact ⟨x, hp.mem_iff.1 hx, e⟩
  refine ⟨_, (out ++ [cur]).map (·.r), rfl, sts_of_own (by rw [flat_append]; exact hown) (by simp) (fun x hx => ?_), kn, fun e => ?_, fun _ => ⟨out.map (·.r), cur.r, _, by simp, s7, hmem⟩⟩
  · rcases List.mem_append.1 hx with hx | hx
    · exact (s6 x hx).keepN kn
    · rw [List.mem_singleton] at hx; subst hx; exact s5.keepN kn
  · exfalso
    have h1 : l0.length = 0 := by rw [← List.length_map (f := SI.r), hL, e]; rfl
    have h2 := hp.length_eq
    omega

set_option maxHeartbeats 4000000 in
set_option maxRecDepth 100000 in
theorem model_any {w : World} {v : Value} {L : List Iv} (hv : Sts w v L) (hs : Small L) (hV : AllV L) : Calls Try.prog 12 #[v] w fun e w' => MPost w L e w' := by
  obtain ⟨n, hn⟩ : ∃ n, n = L.length := ⟨_, rfl⟩
  obtain ⟨a, c, rfl⟩ : ∃ a c, v = .slice a n c := by obtain ⟨a, c, e, _⟩ := hv; exact ⟨a, c, by rw [hn]; exact e⟩
  have hnI : (n : Int) ≤ 1048576 := by have := hs.1; omega
  have HS : Hid (Sts w (.slice a n c) L ∧ n = L.length ∧ Small L ∧ AllV L) := ⟨hv, hn, hs, hV⟩
  obtain ⟨cs, hcs, hmk⟩ := make22 w n (by omega)
  obtain ⟨sb, hsb⟩ : ∃ sb, sb = w.heap.size := ⟨_, rfl⟩
  have HI : Hid (CpInv w sb n L 0 (w.alloc (.cells cs 30))) := ⟨by omega, Kep.alloc' _ _, [], cs.toList, by rw [hsb]; exact row_newA w 30 cs, rfl, by simpa using hcs, rfl, fun x hx => by cases hx⟩
  rw [← hsb] at hmk
  have HSB : Hid (w.heap.size ≤ sb) := by exact Nat.le_of_eq hsb.symm
  clear hv hn hs hV hcs hsb
  go_enter Try.func12, Try.ntmps12
  go_wp2
  generalize w.alloc (.cells cs 30) = w1 at *
  go_loopg [4] n (fun k q wr => ∃ i : Nat, i ≤ n ∧ k = n - i ∧ q = .int .i64 (i : Int) ∧ CpInv w sb n L i wr)
  case atStart => exact ⟨0, Nat.zero_le _, rfl, rfl, HI.out⟩
  case round =>
    obtain ⟨i, hi, hkm, rfl, hinv⟩ := hrel
    by_cases hin : i < n
    · have hinI : (i : Int) < (n : Int) := by omega
      obtain ⟨r, hr⟩ : ∃ r, L[i]? = some r := ⟨L[i]'(by have := HS.out.2.1; omega), by simp⟩
      obtain ⟨b, o, fa, fn, fc, ta, tn, tc, rfl, g1, g2, k1, k2⟩ := sts_at HS.out.1 hr
      obtain ⟨q1, q2, l, rest, q3, q4, q5, q6, q7⟩ := hinv
      have g1 := kcell q2 g1
      have g2 := kcell q2 g2
      obtain ⟨x0, x1, rest', rfl⟩ : ∃ x0 x1 rest', rest = x0 :: x1 :: rest' := by
        match rest, q5 with
        | [], q5 => simp at q5; omega
        | [x], q5 => simp at q5; omega
        | x0 :: x1 :: rest', _ => exact ⟨x0, x1, rest', rfl⟩
      have efl := flat_len l
      have c0 : wr.cell? ⟨sb, i * 2, none⟩ = some x0 := by
        rw [q3.cell, List.getElem?_append_right (by omega), show i * 2 - (flat l).length = 0 from by omega]; rfl
      have c1 : wr.cell? ⟨sb, i * 2 + 1, none⟩ = some x1 := by
        rw [q3.cell, List.getElem?_append_right (by omega), show i * 2 + 1 - (flat l).length = 1 from by omega]; rfl
      have f0 := q3.frozen (i * 2)
      have f1 := q3.frozen (i * 2 + 1)
      have HNEW : Hid (CpInv w sb n L (i + 1) ((wr.setCell ⟨sb, i * 2, none⟩ (.slice fa fn fc)).setCell ⟨sb, i * 2 + 1, none⟩ (.slice ta tn tc))) := cp_step (w3 := wr) (x := ⟨.slice fa fn fc, .slice ta tn tc, r⟩) q1 q2 q3 q4 (by simp at q5; omega) q6 q7 ⟨⟨_, _, _, rfl⟩, ⟨_, _, _, rfl⟩, k1, k2⟩ hr
      clear q1 q2 q3 q4 q5 q6 q7 hr k1 k2 efl hmk
      go_wp2
      generalize (wr.setCell ⟨sb, i * 2, none⟩ (.slice fa fn fc)).setCell ⟨sb, i * 2 + 1, none⟩ (.slice ta tn tc) = w4 at *
      go_roundg (n - (i + 1))
      case measure => omega
      case rel => exact ⟨i + 1, by omega, by omega, by go_num, HNEW.out⟩
    · have hinI : ¬ (i : Int) < (n : Int) := by omega
      have hie : i = n := by omega
      obtain ⟨q1, q2, l, rest, q3, q4, q5, q6, q7⟩ := hinv
      have HL : Hid (l.map (·.r) = L ∧ (∀ x ∈ l, SI.ok w x) ∧ l.length = n) := ⟨by rw [q6, hie, HS.out.2.1, List.take_length], q7, by omega⟩
      have HO : Hid (OutI w sb l 1 wr) := by
        have er : rest = [] := List.length_eq_zero_iff.1 (by rw [q5, hie]; simp)
        subst er
        rw [List.append_nil] at q3
        refine ⟨q2, ?_⟩
        cases l with
        | nil => exact ⟨[], [], q3, .inr ⟨rfl, rfl⟩, List.Pairwise.nil, List.Perm.refl _⟩
        | cons x t => exact ⟨[x], t, q3, .inl rfl, List.pairwise_singleton _ _, List.Perm.refl _⟩
      clear q1 q2 q3 q4 q5 q6 q7 hie hi hkm HI hmk
      go_wp2
      clear hin hinI
      go_loopg [5] n (fun k q wr => ∃ i : Nat, 1 ≤ i ∧ (i ≤ n ∨ n = 0) ∧ k = n + 1 - i ∧ q = .int .i64 (i : Int) ∧ OutI w sb l i wr)
      case atStart => exact ⟨1, Nat.le_refl _, by omega, by omega, by go_num, HO.out⟩
      case round =>
        clear HO
        obtain ⟨i, hi1, hi2, hkm, rfl, hinv⟩ := hrel
        by_cases hin : i < n
        · have hinI : (i : Int) < (n : Int) := by omega
          obtain ⟨kw, P, C, hrow, hPl0, hPo, hPerm⟩ := hinv
          have hPl : P.length = i := by
            rcases hPl0 with h | ⟨h, _⟩
            · exact h
            · have := HL.out.2.2; rw [h] at this; simp at this; omega
          obtain ⟨cur, C', rfl⟩ : ∃ cur C', C = cur :: C' := by
            cases C with
            | nil => have := hPerm.length_eq; have := HL.out.2.2; simp at *; omega
            | cons x t => exact ⟨x, t, rfl⟩
          have hcur : SI.ok w cur := HL.out.2.1 cur (hPerm.mem_iff.1 (by simp))
          have hlen := HS.out.2.2.1.2 cur.r (by rw [← HL.out.1]; exact List.mem_map.2 ⟨cur, hPerm.mem_iff.1 (by simp), rfl⟩)
          obtain ⟨cf, ct, cr⟩ := cur
          obtain ⟨⟨fa, fn, fc, e1⟩, ⟨ta, tn, tc, e2⟩, k1, k2⟩ := hcur
          dsimp only at e1 e2 k1 k2 hlen
          subst e1
          subst e2
          have g1 : wr.cell? ⟨sb, i * 2, none⟩ = some (.slice fa fn fc) := by
            rw [hrow.cell]; exact flat_at0 (x := ⟨.slice fa fn fc, .slice ta tn tc, cr⟩) (by rw [List.getElem?_append_right (by omega), hPl, Nat.sub_self]; rfl)
          have g2 : wr.cell? ⟨sb, i * 2 + 1, none⟩ = some (.slice ta tn tc) := by
            rw [hrow.cell]; exact flat_at1 (x := ⟨.slice fa fn fc, .slice ta tn tc, cr⟩) (by rw [List.getElem?_append_right (by omega), hPl, Nat.sub_self]; rfl)
          have HCUR : Hid (Bs w (.slice fa fn fc) cr.1 ∧ cr.1.length ≤ 2097152) := ⟨k1, by omega⟩
          have HP : Hid (Kep (fun _ => False) w wr ∧ RowB wr sb 30 (flat (P ++ ⟨.slice fa fn fc, .slice ta tn tc, cr⟩ :: C')) ∧ P.length = i ∧ P.Pairwise leS ∧ (P ++ ⟨.slice fa fn fc, .slice ta tn tc, cr⟩ :: C').Perm l ∧ sb < wr.heap.size) := ⟨kw, hrow, hPl, hPo, hPerm, hrow.lt⟩
          clear kw hrow hPl0 hPl hPo hPerm k1 k2 hlen
          go_wp2
          obtain ⟨cb, hcb⟩ : ∃ cb, cb = wr.heap.size := ⟨_, rfl⟩
          have HIN : Hid (InI w sb cb l ⟨.slice fa fn fc, .slice ta tn tc, cr⟩ C' i i (wr.alloc (.cells #[.slice fa fn fc, .slice ta tn tc] 30)) ∧ cb ≠ sb) := by
            refine ⟨in_start HP.out.1 HP.out.2.1 HP.out.2.2.1 HP.out.2.2.2.1 HP.out.2.2.2.2.1 ((Kep.refl _ _).alloc _) ?_, ?_⟩
            · rw [hcb]; exact row_new wr 30 [.slice fa fn fc, .slice ta tn tc]
            · have := HP.out.2.2.2.2.2; omega
          rw [← hcb]
          clear hcb HP g1 g2
          generalize wr.alloc (.cells #[.slice fa fn fc, .slice ta tn tc] 30) = w2 at *
          go_loopg [7] i (fun k q wr => ∃ j : Nat, j ≤ i ∧ k = j ∧ q = .int .i64 (j : Int) ∧ InI w sb cb l ⟨.slice fa fn fc, .slice ta tn tc, cr⟩ C' i j wr)
          case atStart => exact ⟨i, Nat.le_refl _, rfl, rfl, HIN.out.1⟩
          case round =>
            have HNE : Hid (cb ≠ sb) := HIN.out.2
            clear HIN
            obtain ⟨j, hj, hkj, rfl, kw, hc, A, g, B, hrow, hA, hAB, hH⟩ := hrel
            cases j with
            | zero =>
              have eA : A = [] := List.length_eq_zero_iff.1 hA
              subst eA
              have HR : Hid (Kep (fun _ => False) w wr ∧ RowB wr cb 30 [.slice fa fn fc, .slice ta tn tc] ∧ RowB wr sb 30 (flat ([] ++ g :: (B ++ C'))) ∧ 0 + B.length = i ∧ Hole l ⟨.slice fa fn fc, .slice ta tn tc, cr⟩ [] B C') := ⟨kw, hc, hrow, hAB, hH⟩
              clear kw hc hrow hA hAB hH hkj hj
              have HK : Hid (Kep (fun _ => False) wr wr) := Kep.refl _ _
              have HSS : Hid (∀ w', Kep (fun _ => False) wr w' → True) := fun _ _ => trivial
              rw [show ((0 : Nat) : Int) = 0 from rfl]
              go_upto_region 11 with fail
              refine wp_region_noPanic ?_
              refine wp_region_held_drew (S := fun w' => True) (by kernel_rfl) (HSS.out _ HK.out.drew) (fun hHeld => ?_)
              refine wpAnyH_take (i := 0) (v := .int .i64 0) rfl (by kernel_rfl) (by kernel_rfl) (by kernel_rfl) (fun _ _ _ h => h) (Or.inl ⟨by rfl, fun w' hSw => by kernel_rfl⟩) hHeld ?_
              try simp only [Act.put, List.getElem_toArray, List.getElem_cons_succ, List.getElem_cons_zero, List.setIfInBounds_toArray, List.set_cons_zero, List.set_cons_succ]
              refine wpAnyH_take (i := 1) (v := .bool false) rfl (by kernel_rfl) (by kernel_rfl) (by kernel_rfl) (fun _ _ _ h => h) (Or.inl ⟨by rfl, fun w' hSw => by go_simp⟩) hHeld ?_
              try simp only [Act.put, List.getElem_toArray, List.getElem_cons_succ, List.getElem_cons_zero, List.setIfInBounds_toArray, List.set_cons_zero, List.set_cons_succ]
              refine wpAnyH_take (i := 2) (v := .bool false) rfl (by kernel_rfl) (by kernel_rfl) (by kernel_rfl) (fun _ _ _ h => h) (Or.inl ⟨by rfl, fun w' hSw => by kernel_rfl⟩) hHeld ?_
              try simp only [Act.put, List.getElem_toArray, List.getElem_cons_succ, List.getElem_cons_zero, List.setIfInBounds_toArray, List.set_cons_zero, List.set_cons_succ]
              refine wpAnyH_take (i := 3) (v := undef) rfl (by kernel_rfl) (by kernel_rfl) (by kernel_rfl) (fun _ _ _ h => h) (Or.inr ⟨by kernel_rfl, rfl⟩) hHeld ?_
              try simp only [Act.put, List.getElem_toArray, List.getElem_cons_succ, List.getElem_cons_zero, List.setIfInBounds_toArray, List.set_cons_zero, List.set_cons_succ]
              refine wpAnyH_take (i := 4) (v := undef) rfl (by kernel_rfl) (by kernel_rfl) (by kernel_rfl) (fun _ _ _ h => h) (Or.inr ⟨by kernel_rfl, rfl⟩) hHeld ?_
              try simp only [Act.put, List.getElem_toArray, List.getElem_cons_succ, List.getElem_cons_zero, List.setIfInBounds_toArray, List.set_cons_zero, List.set_cons_succ]
              refine wpAnyH_take (i := 5) (v := undef) rfl (by kernel_rfl) (by kernel_rfl) (by kernel_rfl) (fun _ _ _ h => h) (Or.inr ⟨by kernel_rfl, rfl⟩) hHeld ?_
              try simp only [Act.put, List.getElem_toArray, List.getElem_cons_succ, List.getElem_cons_zero, List.setIfInBounds_toArray, List.set_cons_zero, List.set_cons_succ]
              refine wpAnyH_take (i := 6) (v := undef) rfl (by kernel_rfl) (by kernel_rfl) (by kernel_rfl) (fun _ _ _ h => h) (Or.inr ⟨by kernel_rfl, rfl⟩) hHeld ?_
              try simp only [Act.put, List.getElem_toArray, List.getElem_cons_succ, List.getElem_cons_zero, List.setIfInBounds_toArray, List.set_cons_zero, List.set_cons_succ]
              refine wpAnyH_take (i := 7) (v := undef) rfl (by kernel_rfl) (by kernel_rfl) (by kernel_rfl) (fun _ _ _ h => h) (Or.inr ⟨by kernel_rfl, rfl⟩) hHeld ?_
              try simp only [Act.put, List.getElem_toArray, List.getElem_cons_succ, List.getElem_cons_zero, List.setIfInBounds_toArray, List.set_cons_zero, List.set_cons_succ]
              refine wpAnyH_take (i := 8) (v := undef) rfl (by kernel_rfl) (by kernel_rfl) (by kernel_rfl) (fun _ _ _ h => h) (Or.inr ⟨by kernel_rfl, rfl⟩) hHeld ?_
              try simp only [Act.put, List.getElem_toArray, List.getElem_cons_succ, List.getElem_cons_zero, List.setIfInBounds_toArray, List.set_cons_zero, List.set_cons_succ]
              refine wpAnyH_take (i := 9) (v := undef) rfl (by kernel_rfl) (by kernel_rfl) (by kernel_rfl) (fun _ _ _ h => h) (Or.inr ⟨by kernel_rfl, rfl⟩) hHeld ?_
              try simp only [Act.put, List.getElem_toArray, List.getElem_cons_succ, List.getElem_cons_zero, List.setIfInBounds_toArray, List.set_cons_zero, List.set_cons_succ]
              refine wpAnyH_take (i := 10) (v := undef) rfl (by kernel_rfl) (by kernel_rfl) (by kernel_rfl) (fun _ _ _ h => h) (Or.inr ⟨by kernel_rfl, rfl⟩) hHeld ?_
              try simp only [Act.put, List.getElem_toArray, List.getElem_cons_succ, List.getElem_cons_zero, List.setIfInBounds_toArray, List.set_cons_zero, List.set_cons_succ]
              refine wpAnyH_take (i := 11) (v := undef) rfl (by kernel_rfl) (by kernel_rfl) (by kernel_rfl) (fun _ _ _ h => h) (Or.inr ⟨by kernel_rfl, rfl⟩) hHeld ?_
              try simp only [Act.put, List.getElem_toArray, List.getElem_cons_succ, List.getElem_cons_zero, List.setIfInBounds_toArray, List.set_cons_zero, List.set_cons_succ]
              refine wpAnyH_take (i := 12) (v := undef) rfl (by kernel_rfl) (by kernel_rfl) (by kernel_rfl) (fun _ _ _ h => h) (Or.inr ⟨by kernel_rfl, rfl⟩) hHeld ?_
              try simp only [Act.put, List.getElem_toArray, List.getElem_cons_succ, List.getElem_cons_zero, List.setIfInBounds_toArray, List.set_cons_zero, List.set_cons_succ]
              refine wpAnyH_take (i := 13) (v := .bool false) rfl (by kernel_rfl) (by kernel_rfl) (by kernel_rfl) (fun _ _ _ h => h) (Or.inl ⟨by rfl, fun w' hSw => by kernel_rfl⟩) hHeld ?_
              try simp only [Act.put, List.getElem_toArray, List.getElem_cons_succ, List.getElem_cons_zero, List.setIfInBounds_toArray, List.set_cons_zero, List.set_cons_succ]
              refine wpAnyH_done (by kernel_rfl) ?_ _
              refine NoPanic.normal ?_
              clear hHeld
              have kd : Kep (fun _ => False) wr wr.drew := (Kep.refl _ _).drew
              have HNEW : Hid (OutI w sb l (i + 1) ((wr.drew.setCell ⟨sb, 0, none⟩ (.slice fa fn fc)).setCell ⟨sb, 1, none⟩ (.slice ta tn tc))) :=
                out_step (j := 0) (cur := ⟨.slice fa fn fc, .slice ta tn tc, cr⟩) HSB.out (HR.out.1.trans kd (fun _ _ h => h)) (HR.out.2.2.1.kep kd id) rfl HR.out.2.2.2.1 HR.out.2.2.2.2 (fun p A' e => by have := congrArg List.length e; simp at this)
              have d0 : wr.drew.cell? ⟨cb, 0, none⟩ = some (.slice fa fn fc) := by rw [(HR.out.2.1.kep kd id).cell]; rfl
              have d1 : wr.drew.cell? ⟨cb, 1, none⟩ = some (.slice ta tn tc) := by rw [(HR.out.2.1.kep kd id).cell]; rfl
              have c0 : wr.drew.cell? ⟨sb, 0, none⟩ = some g.fv := by rw [(HR.out.2.2.1.kep kd id).cell]; rfl
              have c1' : wr.drew.cell? ⟨sb, 1, none⟩ = some g.tv := by rw [(HR.out.2.2.1.kep kd id).cell]; rfl
              have f0 := (HR.out.2.2.1.kep kd id).frozen 0
              have f1 := (HR.out.2.2.1.kep kd id).frozen 1
              have hn0 : ¬ n = 0 := by omega
              clear HR HK HSS kd HCUR
              generalize wr.drew = w3 at *
              go_wp2
              generalize (w3.setCell ⟨sb, 0, none⟩ (.slice fa fn fc)).setCell ⟨sb, 1, none⟩ (.slice ta tn tc) = w4 at *
              go_roundg (n + 1 - (i + 1))
              case measure => omega
              case rel => exact ⟨i + 1, by omega, by omega, rfl, by go_num, HNEW.out⟩
            | succ j =>
              obtain ⟨A', p, rfl⟩ : ∃ A' p, A = A' ++ [p] := by
                rcases List.eq_nil_or_concat A with e | ⟨A', p, e⟩
                · rw [e] at hA; cases hA
                · exact ⟨A', p, by simpa using e⟩
              have hA' : A'.length = j := by simpa using hA
              have hpm : p ∈ l := hH.perm.mem_iff.1 (by simp)
              have hp : SI.ok w p := HL.out.2.1 p hpm
              have hlen := HS.out.2.2.1.2 p.r (by rw [← HL.out.1]; exact List.mem_map.2 ⟨p, hpm, rfl⟩)
              obtain ⟨pf, pt, pr⟩ := p
              obtain ⟨⟨ga, gn, gc, e1⟩, ⟨ha, hm, hd, e2⟩, k3, k4⟩ := hp
              dsimp only at e1 e2 k3 k4 hlen
              subst e1
              subst e2
              have g1 : wr.cell? ⟨sb, j * 2, none⟩ = some (.slice ga gn gc) := by
                rw [hrow.cell]; exact flat_at0 (x := ⟨.slice ga gn gc, .slice ha hm hd, pr⟩) (by rw [List.append_assoc, List.getElem?_append_right (by omega), hA', Nat.sub_self]; rfl)
              have g3 : wr.cell? ⟨cb, 0, none⟩ = some (.slice fa fn fc) := by rw [hc.cell]; rfl
              have HSS : Hid (∀ w', Kep (fun _ => False) wr w' → w'.cell? ⟨sb, j * 2, none⟩ = some (.slice ga gn gc) ∧ w'.cell? ⟨cb, 0, none⟩ = some (.slice fa fn fc)) := fun w' k => ⟨kcell k g1, kcell k g3⟩
              have HB : Hid (Bs wr (.slice ga gn gc) pr.1 ∧ Bs wr (.slice fa fn fc) cr.1 ∧ pr.1.length ≤ 2097152 ∧ cr.1.length ≤ 2097152) := ⟨k3.keepN kw, HCUR.out.1.keepN kw, by omega, HCUR.out.2⟩
              have HR : Hid (Kep (fun _ => False) w wr ∧ RowB wr cb 30 [.slice fa fn fc, .slice ta tn tc] ∧ RowB wr sb 30 (flat (A' ++ [⟨.slice ga gn gc, .slice ha hm hd, pr⟩] ++ g :: (B ++ C'))) ∧ A'.length = j ∧ j + 1 + B.length = i ∧ Hole l ⟨.slice fa fn fc, .slice ta tn tc, cr⟩ (A' ++ [⟨.slice ga gn gc, .slice ha hm hd, pr⟩]) B C') := ⟨kw, hc, hrow, hA', hAB, hH⟩
              have HK : Hid (Kep (fun _ => False) wr wr) := Kep.refl _ _
              have hjn : (j : Int) + 1 < (n : Int) := by omega
              have hjn2 : (j : Int) < (n : Int) := by omega
              have hjp : (0 : Int) < (j : Int) + 1 := by omega
              have hjw : IntKind.i64.wrap ((j : Int) + 1 - 1) = (j : Int) := by rw [IntKind.wrap_i64]; omega
              have hjw2 : IntKind.i64.wrap (j : Int) = (j : Int) := by rw [IntKind.wrap_i64]; omega
              have hj0 : ¬ (j : Int) + 1 < 0 := by omega
              have hnj : ¬ n ≤ j := by omega
              rw [show ((j + 1 : Nat) : Int) = (j : Int) + 1 from rfl]
              clear kw hc hrow hA hA' hAB hH k3 k4 g1 g3 hlen hpm HCUR
              by_cases hgt : 0 < cmpK pr.1 cr.1
              · go_upto_region 11 with fail
                refine wp_region_noPanic ?_
                refine wp_region_held_drew (S := fun w' => w'.cell? ⟨sb, j * 2, none⟩ = some (.slice ga gn gc) ∧ w'.cell? ⟨cb, 0, none⟩ = some (.slice fa fn fc)) (by kernel_rfl) (HSS.out _ HK.out.drew) (fun hHeld => ?_)
                refine wpAnyH_take (i := 0) (v := .int .i64 ((j : Int) + 1)) rfl (by kernel_rfl) (by kernel_rfl) (by kernel_rfl) (fun _ _ _ h => h) (Or.inl ⟨by rfl, fun w' hSw => by kernel_rfl⟩) hHeld ?_
                try simp only [Act.put, List.getElem_toArray, List.getElem_cons_succ, List.getElem_cons_zero, List.setIfInBounds_toArray, List.set_cons_zero, List.set_cons_succ]
                refine wpAnyH_take (i := 1) (v := .bool true) rfl (by kernel_rfl) (by kernel_rfl) (by kernel_rfl) (fun _ _ _ h => h) (Or.inl ⟨by rfl, fun w' hSw => by go_simp⟩) hHeld ?_
                try simp only [Act.put, List.getElem_toArray, List.getElem_cons_succ, List.getElem_cons_zero, List.setIfInBounds_toArray, List.set_cons_zero, List.set_cons_succ]
                refine wpAnyH_take (i := 2) (v := .bool true) rfl (by kernel_rfl) (by kernel_rfl) (by kernel_rfl) (fun _ _ _ h => h) (Or.inl ⟨by rfl, fun w' hSw => by kernel_rfl⟩) hHeld ?_
                try simp only [Act.put, List.getElem_toArray, List.getElem_cons_succ, List.getElem_cons_zero, List.setIfInBounds_toArray, List.set_cons_zero, List.set_cons_succ]
                refine wpAnyH_take (i := 3) (v := .slice (some ⟨sb, 0, none⟩) n n) rfl (by kernel_rfl) (by kernel_rfl) (by kernel_rfl) (fun _ _ _ h => h) (Or.inl ⟨by rfl, fun w' hSw => by kernel_rfl⟩) hHeld ?_
                try simp only [Act.put, List.getElem_toArray, List.getElem_cons_succ, List.getElem_cons_zero, List.setIfInBounds_toArray, List.set_cons_zero, List.set_cons_succ]
                refine wpAnyH_take (i := 4) (v := .int .i64 ((j : Int) + 1)) rfl (by kernel_rfl) (by kernel_rfl) (by kernel_rfl) (fun _ _ _ h => h) (Or.inl ⟨by rfl, fun w' hSw => by kernel_rfl⟩) hHeld ?_
                try simp only [Act.put, List.getElem_toArray, List.getElem_cons_succ, List.getElem_cons_zero, List.setIfInBounds_toArray, List.set_cons_zero, List.set_cons_succ]
                refine wpAnyH_take (i := 5) (v := .int .i64 (j : Int)) rfl (by kernel_rfl) (by kernel_rfl) (by kernel_rfl) (fun _ _ _ h => h) (Or.inl ⟨by rfl, fun w' hSw => by go_simp⟩) hHeld ?_
                try simp only [Act.put, List.getElem_toArray, List.getElem_cons_succ, List.getElem_cons_zero, List.setIfInBounds_toArray, List.set_cons_zero, List.set_cons_succ]
                refine wpAnyH_take (i := 6) (v := .pointer (some ⟨sb, j * 2, none⟩)) rfl (by kernel_rfl) (by kernel_rfl) (by kernel_rfl) (fun _ _ _ h => h) (Or.inl ⟨by rfl, fun w' hSw => by go_simp⟩) hHeld ?_
                try simp only [Act.put, List.getElem_toArray, List.getElem_cons_succ, List.getElem_cons_zero, List.setIfInBounds_toArray, List.set_cons_zero, List.set_cons_succ]
                refine wpAnyH_take (i := 7) (v := .pointer (some ⟨sb, j * 2, none⟩)) rfl (by kernel_rfl) (by kernel_rfl) (by kernel_rfl) (fun _ _ _ h => h) (Or.inl ⟨by rfl, fun w' hSw => by go_simp⟩) hHeld ?_
                try simp only [Act.put, List.getElem_toArray, List.getElem_cons_succ, List.getElem_cons_zero, List.setIfInBounds_toArray, List.set_cons_zero, List.set_cons_succ]
                refine wpAnyH_take (i := 8) (v := .slice ga gn gc) rfl (by kernel_rfl) (by kernel_rfl) (by kernel_rfl) (fun _ _ _ h => h) (Or.inl ⟨by rfl, fun w' hSw => by (have h := hSw.1; go_simp)⟩) hHeld ?_
                try simp only [Act.put, List.getElem_toArray, List.getElem_cons_succ, List.getElem_cons_zero, List.setIfInBounds_toArray, List.set_cons_zero, List.set_cons_succ]
                refine wpAnyH_take (i := 9) (v := .pointer (some ⟨cb, 0, none⟩)) rfl (by kernel_rfl) (by kernel_rfl) (by kernel_rfl) (fun _ _ _ h => h) (Or.inl ⟨by rfl, fun w' hSw => by go_simp⟩) hHeld ?_
                try simp only [Act.put, List.getElem_toArray, List.getElem_cons_succ, List.getElem_cons_zero, List.setIfInBounds_toArray, List.set_cons_zero, List.set_cons_succ]
                refine wpAnyH_take (i := 10) (v := .slice fa fn fc) rfl (by kernel_rfl) (by kernel_rfl) (by kernel_rfl) (fun _ _ _ h => h) (Or.inl ⟨by rfl, fun w' hSw => by (have h := hSw.2; go_simp)⟩) hHeld ?_
                try simp only [Act.put, List.getElem_toArray, List.getElem_cons_succ, List.getElem_cons_zero, List.setIfInBounds_toArray, List.set_cons_zero, List.set_cons_succ]
                refine wpAnyH_ready (rs := [11]) (by kernel_rfl) (by simp) ?_
                refine AllReadyH.cons rfl (fun K hK => ?_) AllReadyH.nil
                go_simp
                refine Calls.mono (cmp_k (w := wr.drew) (HB.out.1.keepN (HK.out.drew)) (HB.out.2.1.keepN (HK.out.drew)) HB.out.2.2.1 HB.out.2.2.2) ?_
                rintro e wq1 ⟨rfl, kk⟩
                have HK1 : Hid (Kep (fun _ => False) wr wq1) := (HK.out.drew).trans kk (fun _ _ h => h)
                refine hK.out _ _ (HSS.out _ HK1.out) (fun hHeld1 => ?_)
                clear hK kk hHeld
                try simp only [Act.put, List.getElem_toArray, List.getElem_cons_succ, List.getElem_cons_zero, List.setIfInBounds_toArray, List.set_cons_zero, List.set_cons_succ]
                refine wpAnyH_take (i := 12) (v := .bool true) rfl (by kernel_rfl) (by kernel_rfl) (by kernel_rfl) (fun _ _ _ h => h) (Or.inl ⟨by rfl, fun w' hSw => by go_simp⟩) hHeld1 ?_
                try simp only [Act.put, List.getElem_toArray, List.getElem_cons_succ, List.getElem_cons_zero, List.setIfInBounds_toArray, List.set_cons_zero, List.set_cons_succ]
                refine wpAnyH_take (i := 13) (v := .bool true) rfl (by kernel_rfl) (by kernel_rfl) (by kernel_rfl) (fun _ _ _ h => h) (Or.inl ⟨by rfl, fun w' hSw => by kernel_rfl⟩) hHeld1 ?_
                try simp only [Act.put, List.getElem_toArray, List.getElem_cons_succ, List.getElem_cons_zero, List.setIfInBounds_toArray, List.set_cons_zero, List.set_cons_succ]
                refine wpAnyH_done (by kernel_rfl) ?_ _
                refine NoPanic.normal ?_
                clear hHeld1
                have hrow := HR.out.2.2.1.kep HK1.out id
                have hc := HR.out.2.1.kep HK1.out id
                have kw := HR.out.1.trans HK1.out (fun _ _ h => h)
                have hA' := HR.out.2.2.2.1
                have c0 : wq1.cell? ⟨sb, (j + 1) * 2, none⟩ = some g.fv := by
                  rw [hrow.cell]; exact flat_at0 (by rw [List.getElem?_append_right (by simp; omega)]; simp [hA'])
                have c1 : wq1.cell? ⟨sb, (j + 1) * 2 + 1, none⟩ = some g.tv := by
                  rw [hrow.cell]; exact flat_at1 (by rw [List.getElem?_append_right (by simp; omega)]; simp [hA'])
                have f0 := hrow.frozen ((j + 1) * 2)
                have f1 := hrow.frozen ((j + 1) * 2 + 1)
                have d0 : wq1.cell? ⟨cb, 0, none⟩ = some (.slice fa fn fc) := by rw [hc.cell]; rfl
                have d1 : wq1.cell? ⟨cb, 1, none⟩ = some (.slice ta tn tc) := by rw [hc.cell]; rfl
                have g1 : wq1.cell? ⟨sb, j * 2, none⟩ = some (.slice ga gn gc) := by
                  rw [hrow.cell]; exact flat_at0 (x := ⟨.slice ga gn gc, .slice ha hm hd, pr⟩) (by rw [List.append_assoc, List.getElem?_append_right (by omega), hA', Nat.sub_self]; rfl)
                have g2 : wq1.cell? ⟨sb, j * 2 + 1, none⟩ = some (.slice ha hm hd) := by
                  rw [hrow.cell]; exact flat_at1 (x := ⟨.slice ga gn gc, .slice ha hm hd, pr⟩) (by rw [List.append_assoc, List.getElem?_append_right (by omega), hA', Nat.sub_self]; rfl)
                have HNEW : Hid (InI w sb cb l ⟨.slice fa fn fc, .slice ta tn tc, cr⟩ C' i j ((wq1.setCell ⟨sb, (j + 1) * 2, none⟩ (.slice ga gn gc)).setCell ⟨sb, (j + 1) * 2 + 1, none⟩ (.slice ha hm hd))) :=
                  in_step (p := ⟨.slice ga gn gc, .slice ha hm hd, pr⟩) HSB.out HNE.out kw hc hrow hA' HR.out.2.2.2.2.1 HR.out.2.2.2.2.2 (cmpK_ge.1 (by show 0 ≤ cmpK pr.1 cr.1; omega))
                clear hrow hc kw hA' HR HK HSS HB HK1
                go_wp2
                generalize (wq1.setCell ⟨sb, (j + 1) * 2, none⟩ (.slice ga gn gc)).setCell ⟨sb, (j + 1) * 2 + 1, none⟩ (.slice ha hm hd) = w4 at *
                go_roundg j
                case measure => omega
                case rel => exact ⟨j, by omega, rfl, by go_num, HNEW.out⟩
              · go_upto_region 11 with fail
                refine wp_region_noPanic ?_
                refine wp_region_held_drew (S := fun w' => w'.cell? ⟨sb, j * 2, none⟩ = some (.slice ga gn gc) ∧ w'.cell? ⟨cb, 0, none⟩ = some (.slice fa fn fc)) (by kernel_rfl) (HSS.out _ HK.out.drew) (fun hHeld => ?_)
                refine wpAnyH_take (i := 0) (v := .int .i64 ((j : Int) + 1)) rfl (by kernel_rfl) (by kernel_rfl) (by kernel_rfl) (fun _ _ _ h => h) (Or.inl ⟨by rfl, fun w' hSw => by kernel_rfl⟩) hHeld ?_
                try simp only [Act.put, List.getElem_toArray, List.getElem_cons_succ, List.getElem_cons_zero, List.setIfInBounds_toArray, List.set_cons_zero, List.set_cons_succ]
                refine wpAnyH_take (i := 1) (v := .bool true) rfl (by kernel_rfl) (by kernel_rfl) (by kernel_rfl) (fun _ _ _ h => h) (Or.inl ⟨by rfl, fun w' hSw => by go_simp⟩) hHeld ?_
                try simp only [Act.put, List.getElem_toArray, List.getElem_cons_succ, List.getElem_cons_zero, List.setIfInBounds_toArray, List.set_cons_zero, List.set_cons_succ]
                refine wpAnyH_take (i := 2) (v := .bool true) rfl (by kernel_rfl) (by kernel_rfl) (by kernel_rfl) (fun _ _ _ h => h) (Or.inl ⟨by rfl, fun w' hSw => by kernel_rfl⟩) hHeld ?_
                try simp only [Act.put, List.getElem_toArray, List.getElem_cons_succ, List.getElem_cons_zero, List.setIfInBounds_toArray, List.set_cons_zero, List.set_cons_succ]
                refine wpAnyH_take (i := 3) (v := .slice (some ⟨sb, 0, none⟩) n n) rfl (by kernel_rfl) (by kernel_rfl) (by kernel_rfl) (fun _ _ _ h => h) (Or.inl ⟨by rfl, fun w' hSw => by kernel_rfl⟩) hHeld ?_
                try simp only [Act.put, List.getElem_toArray, List.getElem_cons_succ, List.getElem_cons_zero, List.setIfInBounds_toArray, List.set_cons_zero, List.set_cons_succ]
                refine wpAnyH_take (i := 4) (v := .int .i64 ((j : Int) + 1)) rfl (by kernel_rfl) (by kernel_rfl) (by kernel_rfl) (fun _ _ _ h => h) (Or.inl ⟨by rfl, fun w' hSw => by kernel_rfl⟩) hHeld ?_
                try simp only [Act.put, List.getElem_toArray, List.getElem_cons_succ, List.getElem_cons_zero, List.setIfInBounds_toArray, List.set_cons_zero, List.set_cons_succ]
                refine wpAnyH_take (i := 5) (v := .int .i64 (j : Int)) rfl (by kernel_rfl) (by kernel_rfl) (by kernel_rfl) (fun _ _ _ h => h) (Or.inl ⟨by rfl, fun w' hSw => by go_simp⟩) hHeld ?_
                try simp only [Act.put, List.getElem_toArray, List.getElem_cons_succ, List.getElem_cons_zero, List.setIfInBounds_toArray, List.set_cons_zero, List.set_cons_succ]
                refine wpAnyH_take (i := 6) (v := .pointer (some ⟨sb, j * 2, none⟩)) rfl (by kernel_rfl) (by kernel_rfl) (by kernel_rfl) (fun _ _ _ h => h) (Or.inl ⟨by rfl, fun w' hSw => by go_simp⟩) hHeld ?_
                try simp only [Act.put, List.getElem_toArray, List.getElem_cons_succ, List.getElem_cons_zero, List.setIfInBounds_toArray, List.set_cons_zero, List.set_cons_succ]
                refine wpAnyH_take (i := 7) (v := .pointer (some ⟨sb, j * 2, none⟩)) rfl (by kernel_rfl) (by kernel_rfl) (by kernel_rfl) (fun _ _ _ h => h) (Or.inl ⟨by rfl, fun w' hSw => by go_simp⟩) hHeld ?_
                try simp only [Act.put, List.getElem_toArray, List.getElem_cons_succ, List.getElem_cons_zero, List.setIfInBounds_toArray, List.set_cons_zero, List.set_cons_succ]
                refine wpAnyH_take (i := 8) (v := .slice ga gn gc) rfl (by kernel_rfl) (by kernel_rfl) (by kernel_rfl) (fun _ _ _ h => h) (Or.inl ⟨by rfl, fun w' hSw => by (have h := hSw.1; go_simp)⟩) hHeld ?_
                try simp only [Act.put, List.getElem_toArray, List.getElem_cons_succ, List.getElem_cons_zero, List.setIfInBounds_toArray, List.set_cons_zero, List.set_cons_succ]
                refine wpAnyH_take (i := 9) (v := .pointer (some ⟨cb, 0, none⟩)) rfl (by kernel_rfl) (by kernel_rfl) (by kernel_rfl) (fun _ _ _ h => h) (Or.inl ⟨by rfl, fun w' hSw => by go_simp⟩) hHeld ?_
                try simp only [Act.put, List.getElem_toArray, List.getElem_cons_succ, List.getElem_cons_zero, List.setIfInBounds_toArray, List.set_cons_zero, List.set_cons_succ]
                refine wpAnyH_take (i := 10) (v := .slice fa fn fc) rfl (by kernel_rfl) (by kernel_rfl) (by kernel_rfl) (fun _ _ _ h => h) (Or.inl ⟨by rfl, fun w' hSw => by (have h := hSw.2; go_simp)⟩) hHeld ?_
                try simp only [Act.put, List.getElem_toArray, List.getElem_cons_succ, List.getElem_cons_zero, List.setIfInBounds_toArray, List.set_cons_zero, List.set_cons_succ]
                refine wpAnyH_ready (rs := [11]) (by kernel_rfl) (by simp) ?_
                refine AllReadyH.cons rfl (fun K hK => ?_) AllReadyH.nil
                go_simp
                refine Calls.mono (cmp_k (w := wr.drew) (HB.out.1.keepN (HK.out.drew)) (HB.out.2.1.keepN (HK.out.drew)) HB.out.2.2.1 HB.out.2.2.2) ?_
                rintro e wq1 ⟨rfl, kk⟩
                have HK1 : Hid (Kep (fun _ => False) wr wq1) := (HK.out.drew).trans kk (fun _ _ h => h)
                refine hK.out _ _ (HSS.out _ HK1.out) (fun hHeld1 => ?_)
                clear hK kk hHeld
                try simp only [Act.put, List.getElem_toArray, List.getElem_cons_succ, List.getElem_cons_zero, List.setIfInBounds_toArray, List.set_cons_zero, List.set_cons_succ]
                refine wpAnyH_take (i := 12) (v := .bool false) rfl (by kernel_rfl) (by kernel_rfl) (by kernel_rfl) (fun _ _ _ h => h) (Or.inl ⟨by rfl, fun w' hSw => by go_simp⟩) hHeld1 ?_
                try simp only [Act.put, List.getElem_toArray, List.getElem_cons_succ, List.getElem_cons_zero, List.setIfInBounds_toArray, List.set_cons_zero, List.set_cons_succ]
                refine wpAnyH_take (i := 13) (v := .bool false) rfl (by kernel_rfl) (by kernel_rfl) (by kernel_rfl) (fun _ _ _ h => h) (Or.inl ⟨by rfl, fun w' hSw => by kernel_rfl⟩) hHeld1 ?_
                try simp only [Act.put, List.getElem_toArray, List.getElem_cons_succ, List.getElem_cons_zero, List.setIfInBounds_toArray, List.set_cons_zero, List.set_cons_succ]
                refine wpAnyH_done (by kernel_rfl) ?_ _
                refine NoPanic.normal ?_
                clear hHeld1
                have hrow := HR.out.2.2.1.kep HK1.out id
                have hc := HR.out.2.1.kep HK1.out id
                have kw := HR.out.1.trans HK1.out (fun _ _ h => h)
                have hA' := HR.out.2.2.2.1
                have c0 : wq1.cell? ⟨sb, (j + 1) * 2, none⟩ = some g.fv := by
                  rw [hrow.cell]; exact flat_at0 (by rw [List.getElem?_append_right (by simp; omega)]; simp [hA'])
                have c1 : wq1.cell? ⟨sb, (j + 1) * 2 + 1, none⟩ = some g.tv := by
                  rw [hrow.cell]; exact flat_at1 (by rw [List.getElem?_append_right (by simp; omega)]; simp [hA'])
                have f0 := hrow.frozen ((j + 1) * 2)
                have f1 := hrow.frozen ((j + 1) * 2 + 1)
                have d0 : wq1.cell? ⟨cb, 0, none⟩ = some (.slice fa fn fc) := by rw [hc.cell]; rfl
                have d1 : wq1.cell? ⟨cb, 1, none⟩ = some (.slice ta tn tc) := by rw [hc.cell]; rfl
                have HNEW : Hid (OutI w sb l (i + 1) ((wq1.setCell ⟨sb, (j + 1) * 2, none⟩ (.slice fa fn fc)).setCell ⟨sb, (j + 1) * 2 + 1, none⟩ (.slice ta tn tc))) :=
                  out_step (j := j + 1) (cur := ⟨.slice fa fn fc, .slice ta tn tc, cr⟩) HSB.out kw hrow (by simp [hA']) HR.out.2.2.2.2.1 HR.out.2.2.2.2.2 (fun p A2 e => by
                    have e2 := (List.append_inj' e rfl).2
                    injection e2 with e2 _
                    subst e2
                    exact cmpK_le.1 (by show cmpK pr.1 cr.1 ≤ 0; omega))
                clear hrow hc kw hA' HR HK HSS HB HK1
                go_wp2
                generalize (wq1.setCell ⟨sb, (j + 1) * 2, none⟩ (.slice fa fn fc)).setCell ⟨sb, (j + 1) * 2 + 1, none⟩ (.slice ta tn tc) = w4 at *
                go_roundg (n + 1 - (i + 1))
                case measure => omega
                case rel => exact ⟨i + 1, by omega, by omega, rfl, by go_num, HNEW.out⟩
        · have hinI : ¬ (i : Int) < (n : Int) := by omega
          have HO : Hid (∃ l2 : List SI, Kep (fun _ => False) w wr ∧ RowB wr sb 30 (flat l2) ∧ l2.Pairwise leS ∧ l2.Perm l) := by
            obtain ⟨kw, P, C, hrow, hPl, hPo, hPerm⟩ := hinv
            have hl := hPerm.length_eq
            have eC : C = [] := by
              refine List.length_eq_zero_iff.1 ?_
              have := HL.out.2.2
              rw [List.length_append] at hl
              rcases hPl with h | ⟨h, _⟩
              · omega
              · rw [h] at hl; simp at hl; simp [hl]
            subst eC
            rw [List.append_nil] at hrow hPerm
            exact ⟨P, kw, hrow, hPo, hPerm⟩
          clear hinv hkm hin hi1 hi2
          by_cases h0 : n = 0
          · have hn0 : (n : Int) = 0 := by omega
            have HN : Hid (L = []) := List.length_eq_zero_iff.1 (by have := HS.out.2.1; omega)
            go_wp2
            go_ret
            obtain ⟨l2, kw, _⟩ := HO.out
            exact ⟨_, [], rfl, ⟨none, 0, rfl, (fun _ => ⟨rfl, rfl⟩), (fun h => absurd rfl h)⟩, kw, (fun _ => rfl), fun h => absurd HN.out h⟩
          · have hn0 : ¬ (n : Int) = 0 := by omega
            have hnp : (0 : Int) < (n : Int) := by omega
            have hnz : ¬ n ≤ 0 := by omega
            obtain ⟨l2, kw, hrow, hso, hperm⟩ := HO.out
            have hl2 : l2.length = n := by rw [hperm.length_eq]; exact HL.out.2.2
            have HOK : Hid ((∀ x ∈ l2, SI.ok w x ∧ Valid x.r ∧ x.r.1.length ≤ 2097152 ∧ bdLen x.r.2 ≤ 2097152) ∧ l2.Pairwise leS ∧ l2.Perm l ∧ l2.length = n) := by
              refine ⟨fun x hx => ?_, hso, hperm, hl2⟩
              have hx2 := hperm.mem_iff.1 hx
              have hx3 : x.r ∈ L := by rw [← HL.out.1]; exact List.mem_map.2 ⟨x, hx2, rfl⟩
              have h3 := HS.out.2.2.1.2 x.r hx3
              exact ⟨HL.out.2.1 x hx2, HS.out.2.2.2 x.r hx3, by omega, by omega⟩
            obtain ⟨x, t, rfl⟩ : ∃ x t, l2 = x :: t := by
              cases l2 with
              | nil => simp at hl2; omega
              | cons x t => exact ⟨x, t, rfl⟩
            have hx := HOK.out.1 x List.mem_cons_self
            obtain ⟨xf, xt, xr⟩ := x
            obtain ⟨⟨⟨ga, gn, gc, e1⟩, ⟨ha, hm, hd, e2⟩, k3, k4⟩, v1, v2, v3⟩ := hx
            dsimp only at e1 e2 k3 k4 v1 v2 v3
            subst e1
            subst e2
            have g1 : wr.cell? ⟨sb, 0, none⟩ = some (.slice ga gn gc) := by rw [hrow.cell]; rfl
            have g2 : wr.cell? ⟨sb, 1, none⟩ = some (.slice ha hm hd) := by rw [hrow.cell]; rfl
            have HW : Hid (SwI w sb (⟨.slice ga gn gc, .slice ha hm hd, xr⟩ :: t) 1 [] ⟨.slice ga gn gc, .slice ha hm hd, xr⟩ (.slice none 0 0) wr) := by
              refine ⟨kw, hrow, ⟨rfl, .inl ⟨rfl, rfl⟩⟩, (fun e => by cases e), ⟨⟨_, _, _, rfl⟩, ⟨_, _, _, rfl⟩, k3, k4⟩, (fun y hy => by cases hy), Swept.start v1, (fun j y hj hy => ?_), by simp, v3⟩
              obtain ⟨l1, e1⟩ := List.getElem?_eq_some_iff.1 hy
              have := List.pairwise_iff_getElem.1 hso 0 j (by simp) l1 (by omega)
              rw [e1] at this
              exact this
            clear kw hrow hso hperm hl2 k3 k4 v1 v2 v3 HO
            generalize hl2 : (⟨.slice ga gn gc, .slice ha hm hd, xr⟩ :: t : List SI) = l2 at *
            clear hl2 t
            go_wp2
            clear g1 g2 hinI
            go_loopg [8, 9, 10, 11] n (fun k o f t q wr => ∃ (i : Nat) (out : List SI) (fa : Option Addr) (fn fc : Nat) (ta : Option Addr) (tn tc : Nat) (cr : Iv), 1 ≤ i ∧ i ≤ n ∧ k = n + 1 - i ∧ f = .slice fa fn fc ∧ t = .slice ta tn tc ∧ q = .int .i64 (i : Int) ∧ SwI w sb l2 i out ⟨.slice fa fn fc, .slice ta tn tc, cr⟩ o wr)
            case atStart => exact ⟨1, [], ga, gn, gc, ha, hm, hd, xr, Nat.le_refl _, by omega, by omega, rfl, rfl, by go_num, HW.out⟩
            case round =>
              clear HW hn0 hnp hnz h0
              obtain ⟨i, out, fa, fn, fc, ta, tn, tc, cr, hi1, hi2, hkm, rfl, rfl, rfl, hsw⟩ := hrel
              by_cases hin : i < n
              · have hinI : (i : Int) < (n : Int) := by omega
                obtain ⟨x, hx⟩ : ∃ x, l2[i]? = some x := ⟨l2[i]'(by have := HOK.out.2.2.2; omega), by simp⟩
                have hxm := HOK.out.1 x (List.mem_of_getElem? hx)
                have hxo := hxm.1
                obtain ⟨xf, xt, xr⟩ := x
                obtain ⟨⟨⟨ga, gn, gc, e1⟩, ⟨ha, hm, hd, e2⟩, k3, k4⟩, v1, v2, v3⟩ := hxm
                dsimp only at e1 e2 k3 k4 v1 v2 v3
                subst e1
                subst e2
                have g1 : wr.cell? ⟨sb, i * 2, none⟩ = some (.slice ga gn gc) := by rw [hsw.2.1.cell]; exact flat_at0 hx
                have g2 : wr.cell? ⟨sb, i * 2 + 1, none⟩ = some (.slice ha hm hd) := by rw [hsw.2.1.cell]; exact flat_at1 hx
                have kw := hsw.1
                have hcl : bdLen cr.2 ≤ 2097152 := hsw.2.2.2.2.2.2.2.2.2
                rcases hsw.2.2.2.2.1.2.2.2.shape with ⟨e1, e2⟩ | ⟨kt, at', nt, ct, e1, e2, e3⟩
                · injection e2 with d1 d2 d3
                  subst d1
                  subst d2
                  subst d3
                  dsimp only at e1
                  have HSW : Hid (SwI w sb l2 i out ⟨.slice fa fn fc, .slice none 0 0, cr⟩ u8 wr ∧ l2[i]? = some ⟨.slice ga gn gc, .slice ha hm hd, xr⟩ ∧ Valid xr ∧ leB xr.1 cr.2 = true ∧ SI.ok w ⟨.slice ga gn gc, .slice ha hm hd, xr⟩ ∧ bdLen xr.2 ≤ 2097152) := ⟨hsw, hx, v1, by rw [e1]; rfl, hxo, v3⟩
                  have HNL : Hid (¬ ltB cr.2 xr.2 = true) := by
                    intro h
                    rw [e1] at h
                    cases h
                  have HLT : Hid (Bnd wr (.slice none 0 0) cr.2 ∧ Bnd wr (.slice ha hm hd) xr.2 ∧ bdLen cr.2 ≤ 2097152 ∧ bdLen xr.2 ≤ 2097152) := ⟨hsw.2.2.2.2.1.2.2.2.keepN kw, k4.keepN kw, hcl, v3⟩
                  clear hsw hx hxo k3 k4 v1 v2 v3 hcl kw e1
                  go_wp2_with fail
                  refine (zzLater_any HLT.out.1 HLT.out.2.1 HLT.out.2.2.1 HLT.out.2.2.2).mono ?_
                  rintro e w6 ⟨rfl, qd, rfl⟩
                  rw [if_neg HNL.out]
                  have HNEW : Hid (SwI w sb l2 (i + 1) out ⟨.slice fa fn fc, .slice none 0 0, cr⟩ u8 (wr.drewN qd)) := (sw_join HSW.out.1 ((Kep.refl _ _).drewN _) HSW.out.2.1 HSW.out.2.2.1 HSW.out.2.2.2.1 HSW.out.2.2.2.2.1 HSW.out.2.2.2.2.2).2 HNL.out
                  clear HSW HLT HNL
                  generalize wr.drewN qd = w7 at *
                  go_wp2
                  go_roundg (n + 1 - (i + 1))
                  case measure => omega
                  case rel => exact ⟨i + 1, out, fa, fn, fc, none, 0, 0, cr, by omega, by omega, rfl, rfl, rfl, by go_num, HNEW.out⟩
                · injection e2 with d1 d2 d3
                  subst d1
                  subst d2
                  subst d3
                  dsimp only at e1
                  have HC : Hid (Bs wr (.slice ga gn gc) xr.1 ∧ Bs wr (.slice (some at') tn tc) kt ∧ xr.1.length ≤ 2097152 ∧ kt.length ≤ 2097152) := ⟨k3.keepN kw, e3.keepN kw, v2, by rw [e1] at hcl; exact hcl⟩
                  have HF : Hid (SwI w sb l2 i out ⟨.slice fa fn fc, .slice (some at') tn tc, cr⟩ u8 wr ∧ l2[i]? = some ⟨.slice ga gn gc, .slice ha hm hd, xr⟩ ∧ Valid xr ∧ SI.ok w ⟨.slice ga gn gc, .slice ha hm hd, xr⟩ ∧ bdLen xr.2 ≤ 2097152 ∧ Bnd wr (.slice (some at') tn tc) cr.2 ∧ Bnd wr (.slice ha hm hd) xr.2 ∧ bdLen cr.2 ≤ 2097152) := ⟨hsw, hx, v1, hxo, v3, hsw.2.2.2.2.1.2.2.2.keepN kw, k4.keepN kw, hcl⟩
                  have HE1 : Hid (cr.2 = some kt) := e1
                  clear hsw hx hxo k3 k4 v1 v2 v3 hcl kw e1 e3
                  by_cases hle : cmpK xr.1 kt ≤ 0
                  · go_wp2_with fail
                    refine (cmp_k HC.out.1 HC.out.2.1 HC.out.2.2.1 HC.out.2.2.2).mono ?_
                    rintro e w5 ⟨rfl, k5⟩
                    have h1 : w5.cell? ⟨sb, i * 2, none⟩ = some (.slice ga gn gc) := kcell k5 g1
                    have h2 : w5.cell? ⟨sb, i * 2 + 1, none⟩ = some (.slice ha hm hd) := kcell k5 g2
                    have HSW : Hid (SwI w sb l2 i out ⟨.slice fa fn fc, .slice (some at') tn tc, cr⟩ u8 w5 ∧ l2[i]? = some ⟨.slice ga gn gc, .slice ha hm hd, xr⟩ ∧ Valid xr ∧ leB xr.1 cr.2 = true ∧ SI.ok w ⟨.slice ga gn gc, .slice ha hm hd, xr⟩ ∧ bdLen xr.2 ≤ 2097152) := ⟨sw_keep HF.out.1 k5, HF.out.2.1, HF.out.2.2.1, by rw [HE1.out]; simp only [leB, decide_eq_true_eq]; exact cmpK_le.1 hle, HF.out.2.2.2.1, HF.out.2.2.2.2.1⟩
                    have HLT : Hid (Bnd w5 (.slice (some at') tn tc) cr.2 ∧ Bnd w5 (.slice ha hm hd) xr.2 ∧ bdLen cr.2 ≤ 2097152 ∧ bdLen xr.2 ≤ 2097152) := ⟨HF.out.2.2.2.2.2.1.keepN k5, HF.out.2.2.2.2.2.2.1.keepN k5, HF.out.2.2.2.2.2.2.2, HF.out.2.2.2.2.1⟩
                    clear g1 g2 HC HF HE1 k5
                    by_cases hlt : ltB cr.2 xr.2 = true
                    · have HNL : Hid (ltB cr.2 xr.2 = true) := hlt
                      clear hlt
                      go_wp2_with fail
                      refine (zzLater_any HLT.out.1 HLT.out.2.1 HLT.out.2.2.1 HLT.out.2.2.2).mono ?_
                      rintro e w6 ⟨rfl, qd, rfl⟩
                      rw [if_pos HNL.out]
                      have HNEW : Hid (SwI w sb l2 (i + 1) out ⟨.slice fa fn fc, .slice ha hm hd, (cr.1, xr.2)⟩ u8 (w5.drewN qd)) := (sw_join HSW.out.1 ((Kep.refl _ _).drewN _) HSW.out.2.1 HSW.out.2.2.1 HSW.out.2.2.2.1 HSW.out.2.2.2.2.1 HSW.out.2.2.2.2.2).1 HNL.out
                      clear HSW HLT HNL
                      generalize w5.drewN qd = w7 at *
                      go_wp2
                      go_roundg (n + 1 - (i + 1))
                      case measure => omega
                      case rel => exact ⟨i + 1, out, fa, fn, fc, ha, hm, hd, (cr.1, xr.2), by omega, by omega, rfl, rfl, rfl, by go_num, HNEW.out⟩
                    · have HNL : Hid (¬ ltB cr.2 xr.2 = true) := hlt
                      clear hlt
                      go_wp2_with fail
                      refine (zzLater_any HLT.out.1 HLT.out.2.1 HLT.out.2.2.1 HLT.out.2.2.2).mono ?_
                      rintro e w6 ⟨rfl, qd, rfl⟩
                      rw [if_neg HNL.out]
                      have HNEW : Hid (SwI w sb l2 (i + 1) out ⟨.slice fa fn fc, .slice (some at') tn tc, cr⟩ u8 (w5.drewN qd)) := (sw_join HSW.out.1 ((Kep.refl _ _).drewN _) HSW.out.2.1 HSW.out.2.2.1 HSW.out.2.2.2.1 HSW.out.2.2.2.2.1 HSW.out.2.2.2.2.2).2 HNL.out
                      clear HSW HLT HNL
                      generalize w5.drewN qd = w7 at *
                      go_wp2
                      go_roundg (n + 1 - (i + 1))
                      case measure => omega
                      case rel => exact ⟨i + 1, out, fa, fn, fc, some at', tn, tc, cr, by omega, by omega, rfl, rfl, rfl, by go_num, HNEW.out⟩
                  · go_wp2_with fail
                    refine (cmp_k HC.out.1 HC.out.2.1 HC.out.2.2.1 HC.out.2.2.2).mono ?_
                    rintro e w5 ⟨rfl, k5⟩
                    have hsw := sw_keep HF.out.1 k5
                    obtain ⟨g, cap, w6, hrun, hown, hkg, hgg⟩ := grow_pair (fv := .slice fa fn fc) (tv := .slice (some at') tn tc) hsw.2.2.1 rfl rfl (by have := hsw.2.2.2.2.2.2.2.2.1; omega) hsw.1.size
                    have HNEW : Hid (SwI w sb l2 (i + 1) (out ++ [⟨.slice fa fn fc, .slice (some at') tn tc, cr⟩]) ⟨.slice ga gn gc, .slice ha hm hd, xr⟩ (.slice (some ⟨g, 0, none⟩) (out.length + 1) cap) w6) := sw_next HSB.out HOK.out.2.1 hsw HF.out.2.1 HF.out.2.2.1 (by
                      show ¬ leB xr.1 cr.2 = true
                      rw [HE1.out]; simp only [leB, decide_eq_true_eq]; exact fun h => absurd (cmpK_le.2 h) (by omega)) HF.out.2.2.2.1 HF.out.2.2.2.2.1 hown hkg hgg
                    have h1 : w6.cell? ⟨sb, i * 2, none⟩ = some (.slice ga gn gc) := by rw [HNEW.out.2.1.cell]; exact flat_at0 HF.out.2.1
                    have h2 : w6.cell? ⟨sb, i * 2 + 1, none⟩ = some (.slice ha hm hd) := by rw [HNEW.out.2.1.cell]; exact flat_at1 HF.out.2.1
                    clear hown hkg hgg hsw g1 g2 HC HF HE1 k5
                    go_wp2_with (at_builtin; refine wpList_append_runI _ rfl _ _ 22 rfl _ _ rfl rfl hrun ?_)
                    go_wp2
                    go_roundg (n + 1 - (i + 1))
                    case measure => omega
                    case rel => exact ⟨i + 1, out ++ [⟨.slice fa fn fc, .slice (some at') tn tc, cr⟩], ga, gn, gc, ha, hm, hd, xr, by omega, by omega, rfl, rfl, rfl, by go_num, HNEW.out⟩
              · have hinI : ¬ (i : Int) < (n : Int) := by omega
                have hie : i = n := by omega
                subst hie
                obtain ⟨g, cap, w5, hrun, hown, hkg, hgg⟩ := grow_pair (fv := .slice fa fn fc) (tv := .slice ta tn tc) hsw.2.2.1 rfl rfl (by have := hsw.2.2.2.2.2.2.2.2.1; omega) hsw.1.size
                have HEND : Hid (MPost w L (.returned (.slice (some ⟨g, 0, none⟩) (out.length + 1) cap)) w5) := sw_end hsw HOK.out.2.2.2 HOK.out.2.2.1 HL.out.1 hown hkg
                clear hown hkg hgg hsw hkm hin
                go_wp2_with (at_builtin; refine wpList_append_runI _ rfl _ _ 22 rfl _ _ rfl rfl hrun ?_)
                go_wp2
                go_ret
                exact HEND.out
end Go.Proofs.Qxb6615764a
