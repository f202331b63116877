/-
  What the walks of the two laws share.
-/
import Derived.Test.Qxb6615764aIdx
import Derived.Test.Qxb6615764aSortP
namespace Go.Proofs.Qxb6615764a
open Go.RowKit
set_option linter.unusedVariables false
set_option linter.unusedSimpArgs false
set_option linter.unusedSectionVars false

/-- 'true', and all that stood stands. -/
def TrueK (w : World) (e : Ending) (w' : World) : Prop := e = .returned (.bool true) ∧ Kep (fun _ => False) w w'

theorem same_k {w : World} {u v : Value} {a b : Key} (hu : Bs w u a) (hv : Bs w v b) (ha : a.length ≤ 2097152) (hb : b.length ≤ 2097152) : Calls Try.prog 13 #[u, v] w fun e w' => e = .returned (.bool (decide (a = b))) ∧ Kep (fun _ => False) w w' := by
  refine (zzSame_any hu hv ha hb).mono ?_
  rintro e w' ⟨rfl, n, rfl⟩
  exact ⟨rfl, (Kep.refl _ _).drewN _⟩
theorem same_yes {w : World} {u v : Value} {a : Key} (hu : Bs w u a) (hv : Bs w v a) (ha : a.length ≤ 2097152) : Calls Try.prog 13 #[u, v] w fun e w' => e = .returned (.bool true) ∧ Kep (fun _ => False) w w' := by
  refine (same_k hu hv ha ha).mono ?_
  rintro e w' ⟨rfl, k⟩
  exact ⟨by simp, k⟩
theorem same_no {w : World} {u v : Value} {a b : Key} (hu : Bs w u a) (hv : Bs w v b) (ha : a.length ≤ 2097152) (hb : b.length ≤ 2097152) (hn : a ≠ b) : Calls Try.prog 13 #[u, v] w fun e w' => e = .returned (.bool false) ∧ Kep (fun _ => False) w w' := by
  refine (same_k hu hv ha hb).mono ?_
  rintro e w' ⟨rfl, k⟩
  exact ⟨by simp [hn], k⟩
theorem bound_k {w : World} {u v : Value} {a b : Option Key} (hu : Bnd w u a) (hv : Bnd w v b) (ha : bdLen a ≤ 2097152) (hb : bdLen b ≤ 2097152) : Calls Try.prog 14 #[u, v] w fun e w' => e = .returned (.bool (decide (a = b))) ∧ Kep (fun _ => False) w w' := by
  refine (zzSameBound_any hu hv ha hb).mono ?_
  rintro e w' ⟨rfl, n, rfl⟩
  exact ⟨rfl, (Kep.refl _ _).drewN _⟩
theorem bound_yes {w : World} {u v : Value} {a : Option Key} (hu : Bnd w u a) (hv : Bnd w v a) (ha : bdLen a ≤ 2097152) : Calls Try.prog 14 #[u, v] w fun e w' => e = .returned (.bool true) ∧ Kep (fun _ => False) w w' := by
  refine (bound_k hu hv ha ha).mono ?_
  rintro e w' ⟨rfl, k⟩
  exact ⟨by simp, k⟩
theorem bound_no {w : World} {u v : Value} {a b : Option Key} (hu : Bnd w u a) (hv : Bnd w v b) (ha : bdLen a ≤ 2097152) (hb : bdLen b ≤ 2097152) (hn : a ≠ b) : Calls Try.prog 14 #[u, v] w fun e w' => e = .returned (.bool false) ∧ Kep (fun _ => False) w w' := by
  refine (bound_k hu hv ha hb).mono ?_
  rintro e w' ⟨rfl, k⟩
  exact ⟨by simp [hn], k⟩
theorem ex_at {R : List Iv} {m i : Nat} (hm : m = R.length) (h : i < m) : ∃ r, R[i]? = some r := ⟨R[i]'(by omega), by simp⟩
theorem fr_at {w : World} {a : Option Addr} {m c i : Nat} {R : List Iv} {r : Iv} (h : Fr w (.slice a m c) R) (hr : R[i]? = some r) : ∃ b fa fn fc, a = some ⟨b, 0, none⟩ ∧ w.cell? ⟨b, i, none⟩ = some (.slice fa fn fc) ∧ Bs w (.slice fa fn fc) r.1 := by
  obtain ⟨a', c', e, hL⟩ := h
  injection e with e1 e2 e3
  obtain ⟨b, ha, hc⟩ := hL (fun e => by rw [e] at hr; cases hr)
  obtain ⟨fv, h1, h3⟩ := hc i r hr
  obtain ⟨fa, fc, rfl⟩ := h3.form
  exact ⟨b, fa, _, fc, e1.trans ha, h1, h3⟩
theorem tt_at {w : World} {a : Option Addr} {m c i : Nat} {R : List Iv} {r : Iv} (h : Tt w (.slice a m c) R) (hr : R[i]? = some r) : ∃ b fa fn fc, a = some ⟨b, 0, none⟩ ∧ w.cell? ⟨b, i, none⟩ = some (.slice fa fn fc) ∧ Bnd w (.slice fa fn fc) r.2 := by
  obtain ⟨a', c', e, hL⟩ := h
  injection e with e1 e2 e3
  obtain ⟨b, ha, hc⟩ := hL (fun e => by rw [e] at hr; cases hr)
  obtain ⟨fv, h1, h3⟩ := hc i r hr
  obtain ⟨fa, fc, rfl⟩ := h3.form
  exact ⟨b, fa, _, fc, e1.trans ha, h1, h3⟩

theorem no_c {x r : Iv} {kt : Key} (e1 : x.2 = some kt) (d1 : r.2 = none) (h : x.2 = none ∨ ∃ t, r.2 = some t ∧ leB t x.2 = true) : False := by
  rcases h with h | ⟨t, ht, _⟩
  · rw [e1] at h; cases h
  · rw [d1] at ht; cases ht
theorem no_e {x r : Iv} {kt kr : Key} (e1 : x.2 = some kt) (d1 : r.2 = some kr) (hn : ¬ cmpK kr kt ≤ 0) (h : x.2 = none ∨ ∃ t, r.2 = some t ∧ leB t x.2 = true) : False := by
  rcases h with h | ⟨t, ht, hl⟩
  · rw [e1] at h; cases h
  · rw [d1] at ht
    injection ht with ht
    subst ht
    rw [e1] at hl
    simp only [leB, decide_eq_true_eq] at hl
    exact hn (cmpK_le.2 hl)

theorem same_eq {w : World} {u v : Value} {a b : Key} (hu : Bs w u a) (hv : Bs w v b) (ha : a.length ≤ 2097152) (hb : b.length ≤ 2097152) (hn : a = b) : Calls Try.prog 13 #[u, v] w fun e w' => e = .returned (.bool true) ∧ Kep (fun _ => False) w w' := by
  subst hn; exact same_yes hu hv ha
theorem bound_eq {w : World} {u v : Value} {a b : Option Key} (hu : Bnd w u a) (hv : Bnd w v b) (ha : bdLen a ≤ 2097152) (hb : bdLen b ≤ 2097152) (hn : a = b) : Calls Try.prog 14 #[u, v] w fun e w' => e = .returned (.bool true) ∧ Kep (fun _ => False) w w' := by
  subst hn; exact bound_yes hu hv ha
def seenF (L : List Iv) (x : Iv) (i : Nat) : Bool := (L.take i).any (fun r => decide (x.1 = r.1))
def seenT (L : List Iv) (x : Iv) (i : Nat) : Bool := (L.take i).any (fun r => decide (x.2 = r.2))
theorem seenF_hit {L : List Iv} {x r : Iv} {i : Nat} (h : L[i]? = some r) (e : x.1 = r.1) : seenF L x (i + 1) = true := by
  unfold seenF; rw [List.take_add_one, h]; simp [e]
theorem seenF_miss {L : List Iv} {x r : Iv} {i : Nat} (h : L[i]? = some r) (e : x.1 ≠ r.1) : seenF L x (i + 1) = seenF L x i := by
  unfold seenF; rw [List.take_add_one, h]; simp [e]
theorem seenT_hit {L : List Iv} {x r : Iv} {i : Nat} (h : L[i]? = some r) (e : x.2 = r.2) : seenT L x (i + 1) = true := by
  unfold seenT; rw [List.take_add_one, h]; simp [e]
theorem seenT_miss {L : List Iv} {x r : Iv} {i : Nat} (h : L[i]? = some r) (e : x.2 ≠ r.2) : seenT L x (i + 1) = seenT L x i := by
  unfold seenT; rw [List.take_add_one, h]; simp [e]
theorem seenF_all {L : List Iv} {x : Iv} (h : ∃ r ∈ L.reverse, r.1 = x.1) : seenF L x L.length = true := by
  obtain ⟨r, hr, e⟩ := h
  unfold seenF; rw [List.take_length, List.any_eq_true]
  exact ⟨r, by simpa using hr, by simp [e]⟩
theorem seenT_all {L : List Iv} {x : Iv} (h : ∃ r ∈ L.reverse, r.2 = x.2) : seenT L x L.length = true := by
  obtain ⟨r, hr, e⟩ := h
  unfold seenT; rw [List.take_length, List.any_eq_true]
  exact ⟨r, by simpa using hr, by simp [e]⟩

theorem take_rev {L : List Iv} {i : Nat} {r : Iv} (h : L[i]? = some r) : (L.take (i + 1)).reverse = r :: (L.take i).reverse := by
  rw [List.take_add_one, h]; simp
theorem drop_cons {L : List Iv} {i : Nat} {r : Iv} (h : L[i]? = some r) : r :: L.drop (i + 1) = L.drop i := by
  obtain ⟨hl, rfl⟩ := List.getElem?_eq_some_iff.1 h
  exact (List.drop_eq_getElem_cons hl).symm

end Go.Proofs.Qxb6615764a
