/-
  zzMergeModel: the rows of stretches in memory, sorted, swept: the plain part.
-/
import Derived.Test.Qxb6615764aClone2
import Derived.Deep.AppendLies
namespace Go.Proofs.Qxb6615764a
open Go.RowKit
set_option linter.unusedVariables false
set_option linter.unusedSimpArgs false
set_option linter.unusedSectionVars false

theorem cmp_k {w : World} {u v : Value} {a b : Key} (hu : Bs w u a) (hv : Bs w v b) (ha : a.length ≤ 2097152) (hb : b.length ≤ 2097152) : Calls Try.prog 16 #[u, v] w fun e w' => e = .returned (.int .i64 (cmpK a b)) ∧ Kep (fun _ => False) w w' := by
  refine (zzCmp_any hu hv ha hb).mono ?_
  rintro e w' ⟨rfl, n, rfl⟩
  exact ⟨rfl, (Kep.refl _ _).drewN _⟩
theorem sts_at {w : World} {a : Option Addr} {n c i : Nat} {L : List Iv} {r : Iv} (h : Sts w (.slice a n c) L) (hr : L[i]? = some r) : ∃ b o fa fn fc ta tn tc, a = some ⟨b, o, none⟩ ∧ w.cell? ⟨b, o + i * 2, none⟩ = some (.slice fa fn fc) ∧ w.cell? ⟨b, o + i * 2 + 1, none⟩ = some (.slice ta tn tc) ∧ Bs w (.slice fa fn fc) r.1 ∧ Bnd w (.slice ta tn tc) r.2 := by
  obtain ⟨a', c', e, _, hL⟩ := h
  injection e with e1 e2 e3
  obtain ⟨b, o, ha, hc⟩ := hL (fun e => by rw [e] at hr; cases hr)
  obtain ⟨fv, tv, h1, h2, h3, h4⟩ := hc i r hr
  obtain ⟨fa, fc, rfl⟩ := h3.form
  obtain ⟨ta, tc, rfl⟩ := h4.form
  exact ⟨b, o, fa, _, fc, ta, _, tc, e1.trans ha, h1, h2, h3, h4⟩
theorem kcell {w w' : World} {p : Addr} {v : Value} (k : Kep (fun _ => False) w w') (h : w.cell? p = some v) : w'.cell? p = some v := (k.cell (World.block_lt_of_cell? _ _ h) id).trans h

/-- A stretch with its two values. -/
structure SI where
  fv : Value
  tv : Value
  r : Iv
def SI.ok (w : World) (x : SI) : Prop := (∃ a n c, x.fv = .slice a n c) ∧ (∃ a n c, x.tv = .slice a n c) ∧ Bs w x.fv x.r.1 ∧ Bnd w x.tv x.r.2
def flat : List SI → List Value
  | [] => []
  | x :: l => x.fv :: x.tv :: flat l
theorem flat_append : ∀ (l m : List SI), flat (l ++ m) = flat l ++ flat m
  | [], m => rfl
  | x :: l, m => by simp [flat, flat_append l m]
theorem flat_len : ∀ l : List SI, (flat l).length = l.length * 2
  | [] => rfl
  | x :: l => by simp [flat, flat_len l]; omega
theorem flat_at0 : ∀ {l : List SI} {j : Nat} {x : SI}, l[j]? = some x → (flat l)[j * 2]? = some x.fv
  | [], j, x, h => by simp at h
  | y :: l, 0, x, h => by simp at h; subst h; rfl
  | y :: l, j + 1, x, h => by
    have : (j + 1) * 2 = j * 2 + 1 + 1 := by omega
    rw [this]
    simp only [flat, List.getElem?_cons_succ] at h ⊢
    exact flat_at0 h
theorem flat_at1 : ∀ {l : List SI} {j : Nat} {x : SI}, l[j]? = some x → (flat l)[j * 2 + 1]? = some x.tv
  | [], j, x, h => by simp at h
  | y :: l, 0, x, h => by simp at h; subst h; rfl
  | y :: l, j + 1, x, h => by
    have : (j + 1) * 2 + 1 = j * 2 + 1 + 1 + 1 := by omega
    rw [this]
    simp only [flat, List.getElem?_cons_succ] at h ⊢
    exact flat_at1 h
theorem flat_set {A B : List SI} {g x : SI} {j : Nat} (hj : j = A.length) : ((flat (A ++ g :: B)).set (j * 2) x.fv).set (j * 2 + 1) x.tv = flat (A ++ x :: B) := by
  subst hj
  rw [flat_append, flat_append]
  have e := flat_len A
  rw [List.set_append_right _ _ (by omega), List.set_append_right _ _ (by omega)]
  have e1 : A.length * 2 - (flat A).length = 0 := by omega
  have e2 : A.length * 2 + 1 - (flat A).length = 1 := by omega
  rw [e1, e2]
  rfl
theorem setPair {w : World} {b : Nat} {cur : List Value} {x0 x1 fv tv : Value} {j : Nat} (h : RowB w b 30 cur) (hx : j * 2 + 1 < cur.length) : RowB ((w.setCell ⟨b, j * 2, none⟩ fv).setCell ⟨b, j * 2 + 1, none⟩ tv) b 30 ((cur.set (j * 2) fv).set (j * 2 + 1) tv) := by
  have s1 : RowB (w.setCell ⟨b, j * 2, none⟩ fv) b 30 (cur.set (j * 2) fv) := by
    have := RowB.setCells [fv] (j * 2) w cur h (by simp; omega)
    have e : cur.take (j * 2) ++ [fv] ++ cur.drop (j * 2 + [fv].length) = cur.set (j * 2) fv := by
      rw [List.set_eq_take_append_cons_drop, if_pos (by omega)]; simp
    rw [e] at this; exact this
  have := RowB.setCells [tv] (j * 2 + 1) _ _ s1 (by simp; omega)
  have e : (cur.set (j * 2) fv).take (j * 2 + 1) ++ [tv] ++ (cur.set (j * 2) fv).drop (j * 2 + 1 + [tv].length) = (cur.set (j * 2) fv).set (j * 2 + 1) tv := by
    generalize hcc : cur.set (j * 2) fv = cc
    have hl : j * 2 + 1 < cc.length := by rw [← hcc, List.length_set]; exact hx
    rw [List.set_eq_take_append_cons_drop, if_pos hl]; simp
  rw [e] at this; exact this

/-! ### Sorting -/
def leS (x y : SI) : Prop := x.r.1 ≤ y.r.1
/-- Within the insertion: a hole at |A|, cur at hand; B has been moved up. -/
structure Hole (l : List SI) (cur : SI) (A B C : List SI) : Prop where
  perm : (A ++ cur :: (B ++ C)).Perm l
  ord : (A ++ B).Pairwise leS
  up : ∀ x ∈ B, leS cur x
theorem Hole.start {l P C : List SI} {cur : SI} (h : (P ++ cur :: C).Perm l) (ho : P.Pairwise leS) : Hole l cur P [] C := ⟨h, by simpa using ho, fun x hx => by cases hx⟩
theorem Hole.step {l A B C : List SI} {cur p : SI} (h : Hole l cur (A ++ [p]) B C) (hp : cur.r.1 ≤ p.r.1) : Hole l cur A (p :: B) C := by
  refine ⟨?_, by simpa using h.ord, fun x hx => ?_⟩
  · refine List.Perm.trans ?_ h.perm
    rw [List.append_assoc]
    exact List.Perm.append_left A (List.Perm.swap _ _ _)
  · rcases List.mem_cons.1 hx with rfl | hx
    · exact hp
    · exact h.up x hx
theorem Hole.done {l A B C : List SI} {cur : SI} (h : Hole l cur A B C) (hp : ∀ p A', A = A' ++ [p] → p.r.1 ≤ cur.r.1) : (A ++ cur :: B).Pairwise leS := by
  have ho := List.pairwise_append.1 h.ord
  rw [List.pairwise_append]
  refine ⟨ho.1, List.pairwise_cons.2 ⟨fun x hx => h.up x hx, ho.2.1⟩, fun a ha b hb => ?_⟩
  rcases List.mem_cons.1 hb with rfl | hb
  · rcases List.eq_nil_or_concat A with e | ⟨A', p, e⟩
    · subst e; cases ha
    · have hq := hp p A' (by simpa using e)
      subst e
      rw [List.concat_eq_append] at ha ho
      rcases List.mem_append.1 ha with ha | ha
      · have := (List.pairwise_append.1 ho.1).2.2 a ha p (by simp)
        unfold leS at *; grind
      · rw [List.mem_singleton] at ha; subst ha; exact hq
  · exact ho.2.2 a ha b hb

/-! ### The sweep over a sorted row -/
theorem sweep_join {l : List SI} {out : List SI} {cur : Iv} {i : Nat} {x : SI} (h : Swept (out.map (·.r)) cur ((l.take i).map (·.r))) (hx : l[i]? = some x) (hv : Valid x.r) (hle : cur.1 ≤ x.r.1) (hm : leB x.r.1 cur.2 = true) :
    Swept (out.map (·.r)) (cur.1, if ltB cur.2 x.r.2 = true then x.r.2 else cur.2) ((l.take (i + 1)).map (·.r)) := by
  have := h.join hv hle hm
  rw [List.take_add_one, hx]
  simp only [Option.toList, List.map_append, List.map_cons, List.map_nil]
  have e : joinI cur x.r = (cur.1, if ltB cur.2 x.r.2 = true then x.r.2 else cur.2) := by
    have := joinI_of_le hle
    ext1
    · exact this
    · rfl
  rw [← e]; exact this
theorem sweep_next {l : List SI} {out : List SI} {cur : SI} {i : Nat} {x : SI} (h : Swept (out.map (·.r)) cur.r ((l.take i).map (·.r))) (hx : l[i]? = some x) (hv : Valid x.r) (hm : ¬ leB x.r.1 cur.r.2 = true) :
    Swept ((out ++ [cur]).map (·.r)) x.r ((l.take (i + 1)).map (·.r)) := by
  have := h.next hv hm
  rw [List.take_add_one, hx]
  simpa using this
end Go.Proofs.Qxb6615764a
