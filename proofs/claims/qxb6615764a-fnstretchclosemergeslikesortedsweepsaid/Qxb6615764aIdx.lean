/-
  The index that stretches are closed into one by one; what it lists.
-/
import Derived.Test.Qxb6615764aZz2
import Derived.Test.Qxb6615764aClone2
namespace Go.Proofs.Qxb6615764a
open Go.RowKit Go.Lib
set_option linter.unusedVariables false
set_option linter.unusedSimpArgs false
set_option linter.unusedSectionVars false

theorem Kep.low {M : Nat → Prop} {w w' : World} (k : Kep M w w') (h : ∀ b, M b → w.heap.size ≤ b) : Kep (fun _ => False) w w' := k.mono fun i hi hm => by have := h i hm; omega
theorem Sts.keepN {w w' : World} {v : Value} {L : List Iv} (h : Sts w v L) (k : Kep (fun _ => False) w w') : Sts w' v L := by
  obtain ⟨a, c, rfl, hn, hL⟩ := h
  refine ⟨a, c, rfl, hn, fun hne => ?_⟩
  obtain ⟨b, o, ha, hc⟩ := hL hne
  refine ⟨b, o, ha, fun j r hr => ?_⟩
  obtain ⟨fv, tv, h1, h2, h3, h4⟩ := hc j r hr
  exact ⟨fv, tv, (k.cell (World.block_lt_of_cell? _ _ h1) id).trans h1, (k.cell (World.block_lt_of_cell? _ _ h2) id).trans h2, h3.keepN k, h4.keepN k⟩
theorem StsY.keepN {w w' : World} {v : Value} {L : List Iv} (h : StsY w v L) (k : Kep (fun _ => False) w w') : StsY w' v L := by
  obtain ⟨a, c, rfl, hL⟩ := h
  refine ⟨a, c, rfl, fun hne => ?_⟩
  obtain ⟨b, ha, hc⟩ := hL hne
  refine ⟨b, ha, fun j r hr => ?_⟩
  obtain ⟨fv, tv, h1, h2, h3, h4, h5, h6⟩ := hc j r hr
  exact ⟨fv, tv, (k.cell (World.block_lt_of_cell? _ _ h1) id).trans h1, (k.cell (World.block_lt_of_cell? _ _ h2) id).trans h2, h3.keepN k, h4.keepN k, byN h5 k, byN h6 k⟩
theorem StsY.at {w : World} {v : Value} {L : List Iv} {i : Nat} (h : StsY w v L) (hi : i < L.length) : ∃ b c r fa fc ta tc, v = .slice (some ⟨b, 0, none⟩) L.length c ∧ L[i]? = some r ∧ w.cell? ⟨b, i * 2, none⟩ = some (.slice fa r.1.length fc) ∧ w.cell? ⟨b, i * 2 + 1, none⟩ = some (.slice ta (bdLen r.2) tc) ∧ Bs w (.slice fa r.1.length fc) r.1 ∧ Bnd w (.slice ta (bdLen r.2) tc) r.2 ∧ By w (.slice fa r.1.length fc) ∧ By w (.slice ta (bdLen r.2) tc) := by
  obtain ⟨a, c, rfl, hL⟩ := h
  obtain ⟨b, rfl, hc⟩ := hL (fun e => by rw [e] at hi; exact absurd hi (by simp))
  obtain ⟨fv, tv, h1, h2, h3, h4, h5, h6⟩ := hc i L[i] (by simp [hi])
  obtain ⟨fa, fc, rfl⟩ := h3.form
  obtain ⟨ta, tc, rfl⟩ := h4.form
  exact ⟨b, c, L[i], fa, fc, ta, tc, rfl, by simp [hi], h1, h2, h3, h4, h5, h6⟩

/-- A row of lower bounds; a row of upper bounds. -/
def Fr (w : World) (v : Value) (R : List Iv) : Prop := ∃ a c, v = .slice a R.length c ∧ (R ≠ [] → ∃ b, a = some ⟨b, 0, none⟩ ∧ ∀ j r, R[j]? = some r → ∃ fv, w.cell? ⟨b, j, none⟩ = some fv ∧ Bs w fv r.1)
def Tt (w : World) (v : Value) (R : List Iv) : Prop := ∃ a c, v = .slice a R.length c ∧ (R ≠ [] → ∃ b, a = some ⟨b, 0, none⟩ ∧ ∀ j r, R[j]? = some r → ∃ tv, w.cell? ⟨b, j, none⟩ = some tv ∧ Bnd w tv r.2)
theorem Fr.keepN {w w' : World} {v : Value} {R : List Iv} (h : Fr w v R) (k : Kep (fun _ => False) w w') : Fr w' v R := by
  obtain ⟨a, c, rfl, hL⟩ := h
  refine ⟨a, c, rfl, fun hne => ?_⟩
  obtain ⟨b, ha, hc⟩ := hL hne
  refine ⟨b, ha, fun j r hr => ?_⟩
  obtain ⟨fv, h1, h3⟩ := hc j r hr
  exact ⟨fv, (k.cell (World.block_lt_of_cell? _ _ h1) id).trans h1, h3.keepN k⟩
theorem Tt.keepN {w w' : World} {v : Value} {R : List Iv} (h : Tt w v R) (k : Kep (fun _ => False) w w') : Tt w' v R := by
  obtain ⟨a, c, rfl, hL⟩ := h
  refine ⟨a, c, rfl, fun hne => ?_⟩
  obtain ⟨b, ha, hc⟩ := hL hne
  refine ⟨b, ha, fun j r hr => ?_⟩
  obtain ⟨fv, h1, h3⟩ := hc j r hr
  exact ⟨fv, (k.cell (World.block_lt_of_cell? _ _ h1) id).trans h1, h3.keepN k⟩
theorem Fr.at {w : World} {v : Value} {R : List Iv} {i : Nat} (h : Fr w v R) (hi : i < R.length) : ∃ b c r fa fc, v = .slice (some ⟨b, 0, none⟩) R.length c ∧ R[i]? = some r ∧ w.cell? ⟨b, i, none⟩ = some (.slice fa r.1.length fc) ∧ Bs w (.slice fa r.1.length fc) r.1 := by
  obtain ⟨a, c, rfl, hL⟩ := h
  obtain ⟨b, rfl, hc⟩ := hL (fun e => by rw [e] at hi; exact absurd hi (by simp))
  obtain ⟨fv, h1, h3⟩ := hc i R[i] (by simp [hi])
  obtain ⟨fa, fc, rfl⟩ := h3.form
  exact ⟨b, c, R[i], fa, fc, rfl, by simp [hi], h1, h3⟩
theorem Tt.at {w : World} {v : Value} {R : List Iv} {i : Nat} (h : Tt w v R) (hi : i < R.length) : ∃ b c r fa fc, v = .slice (some ⟨b, 0, none⟩) R.length c ∧ R[i]? = some r ∧ w.cell? ⟨b, i, none⟩ = some (.slice fa (bdLen r.2) fc) ∧ Bnd w (.slice fa (bdLen r.2) fc) r.2 := by
  obtain ⟨a, c, rfl, hL⟩ := h
  obtain ⟨b, rfl, hc⟩ := hL (fun e => by rw [e] at hi; exact absurd hi (by simp))
  obtain ⟨fv, h1, h3⟩ := hc i R[i] (by simp [hi])
  obtain ⟨fa, fc, rfl⟩ := h3.form
  exact ⟨b, c, R[i], fa, fc, rfl, by simp [hi], h1, h3⟩
theorem Sts.at' {w : World} {v : Value} {L : List Iv} {i : Nat} (h : Sts w v L) (hi : i < L.length) : ∃ b o c r fa fc ta tc, v = .slice (some ⟨b, o, none⟩) L.length c ∧ L[i]? = some r ∧ w.cell? ⟨b, o + i * 2, none⟩ = some (.slice fa r.1.length fc) ∧ w.cell? ⟨b, o + i * 2 + 1, none⟩ = some (.slice ta (bdLen r.2) tc) ∧ Bs w (.slice fa r.1.length fc) r.1 ∧ Bnd w (.slice ta (bdLen r.2) tc) r.2 := by
  obtain ⟨a, c, rfl, _, hL⟩ := h
  obtain ⟨b, o, rfl, hc⟩ := hL (fun e => by rw [e] at hi; exact absurd hi (by simp))
  obtain ⟨r, fa, fc, ta, tc, h⟩ := Sts.at hc hi
  exact ⟨b, o, c, r, fa, fc, ta, tc, rfl, h⟩

theorem IxN.keepN {w w' : World} {xb : Nat} {E : List It} {F : Nat → Prop} (h : IxN w xb E F) (k : Kep (fun _ => False) w w') : IxN w' xb E F := by
  refine ⟨h.1, ?_⟩
  rcases h.2 with ⟨h1, h2⟩ | ⟨tb, H, T, l, h1, h2, h3, h4, h5⟩
  · exact .inl ⟨h1.kep k id, h2⟩
  · exact .inr ⟨tb, H, T, l, h1.kep k id, TreeR.grow k.size (@TreeR.kep ⟨w.heap.size⟩ _ _ tb H T l _ h2 k (@TT.false ⟨w.heap.size⟩ _) id (fun _ _ => id)), h3, h4, h5⟩

/-- The index, once the stretches of D are closed; all that stood in w0 stands. -/
def ClInv (w0 : World) (xb : Nat) (D : List Iv) (wr : World) : Prop := ∃ E F, IxN wr xb E F ∧ Good E D ∧ (∀ b, F b → w0.heap.size ≤ b) ∧ Kep (fun _ => False) w0 wr
theorem clNew_any (w : World) : Calls Try.prog 9 #[] w fun e w' => ∃ xb, e = .returned (.pointer (some ⟨xb, 0, none⟩)) ∧ ClInv w xb [] w' := by
  refine (zzNew_any w).mono ?_
  rintro e w' ⟨rfl, h1, h2⟩
  exact ⟨_, rfl, [], fun b => b = w.heap.size, ⟨rfl, .inl ⟨h1, rfl⟩⟩, Good.nil, fun b hb => by have e : b = w.heap.size := hb; omega, h2⟩
theorem clStep_any {w0 w : World} {xb : Nat} {D : List Iv} {fv tv : Value} {r : Iv} (h : ClInv w0 xb D w) (hf : Bs w0 fv r.1) (ht : Bnd w0 tv r.2) (yf : By w0 fv) (yt : By w0 tv) (hr : Valid r) :
    Calls Try.prog 10 #[.pointer (some ⟨xb, 0, none⟩), fv, tv] w fun e w' => e = .returned (.tuple #[]) ∧ ClInv w0 xb (r :: D) w' := by
  obtain ⟨E, F, h1, h2, h3, h4⟩ := h
  refine (zzClose_any h1 h2 (hf.keepN h4) (ht.keepN h4) (byN yf h4) (byN yt h4) hr).mono ?_
  rintro e w' ⟨rfl, E', F', g1, g2, g3, g4⟩
  refine ⟨rfl, E', F', g1, g2, fun b hb => ?_, h4.trans g4 (fun i hi hF => by have := h3 i hF; omega)⟩
  rcases g3 b hb with g | g
  · exact h3 b g
  · have := h4.size; omega
theorem ClInv.keepN {w0 w w' : World} {xb : Nat} {D : List Iv} (h : ClInv w0 xb D w) (k : Kep (fun _ => False) w w') : ClInv w0 xb D w' := by
  obtain ⟨E, F, h1, h2, h3, h4⟩ := h
  exact ⟨E, F, h1.keepN k, h2, h3, h4.trans k (fun _ _ h => h)⟩

/-- What the index lists: the stretches, highest first. -/
def Listed (R D : List Iv) : Prop := ∃ E : List It, E.Pairwise (fun a b => a.k < b.k) ∧ Good E D ∧ R = (E.map It.iv).reverse
theorem nodup_len {α : Type} [BEq α] [LawfulBEq α] : ∀ {l m : List α}, l.Nodup → (∀ x ∈ l, x ∈ m) → l.length ≤ m.length
  | [], m, _, _ => Nat.zero_le _
  | a :: l, m, hn, h => by
    rw [List.nodup_cons] at hn
    have ha := h a List.mem_cons_self
    have := nodup_len (m := m.erase a) hn.2 (fun x hx => (List.mem_erase_of_ne (fun e => hn.1 (by rw [← e]; exact hx))).2 (h x (List.mem_cons_of_mem _ hx)))
    rw [List.length_erase_of_mem ha] at this
    have := List.length_pos_of_mem ha
    simp only [List.length_cons]; omega
theorem good_len {E : List It} {D : List Iv} (h : Good E D) (hE : E.Pairwise (fun a b => a.k < b.k)) : E.length ≤ D.length := by
  have hn : (E.map It.k).Nodup := by
    rw [List.Nodup, List.pairwise_map]
    exact hE.imp (fun {a b} hl e => by grind)
  have := nodup_len (m := D.map (·.1)) hn (fun x hx => by
    obtain ⟨y, hy, rfl⟩ := List.mem_map.1 hx
    obtain ⟨r, hr, e⟩ := h.from_ y hy
    exact List.mem_map.2 ⟨r, hr, e⟩)
  simpa using this
theorem clDesc_any {w0 w : World} {xb : Nat} {D : List Iv} (h : ClInv w0 xb D w) (hD : D.length ≤ 1000000) :
    Calls Try.prog 11 #[.pointer (some ⟨xb, 0, none⟩)] w fun e w' => ∃ fs ts R, e = .returned (.tuple #[fs, ts]) ∧ Listed R D ∧ Fr w' fs R ∧ Tt w' ts R ∧ Kep (fun _ => False) w w' := by
  obtain ⟨E, F, h1, h2, h3, h4⟩ := h
  have hs := h1.sorted
  have hl := good_len h2 hs
  have hkr : ∀ y ∈ E, Bs w (fromV w y) y.k ∧ Bnd w (toV w y) y.u := fun y hy => by
    rcases h1.2 with ⟨_, e⟩ | ⟨tb, H, T, l, _, hT, e, _⟩
    · rw [e] at hy; cases hy
    · rw [← e] at hy
      obtain ⟨fa, fc, ua, un, uc, _, _, _, g4, g5, _⟩ := kr_vals (@Rep.krs ⟨w.heap.size⟩ H w T (@TreeR.rep ⟨w.heap.size⟩ w tb H T l hT) y hy)
      exact ⟨g4, g5⟩
  refine (zzDesc_any h1 (by omega)).mono ?_
  rintro e w' ⟨fs, ts, rfl, r1, r2, k⟩
  have kn : Kep (fun _ => False) w w' := k.low (fun b h => h)
  refine ⟨fs, ts, (E.map It.iv).reverse, rfl, ⟨E, hs, h2, rfl⟩, ?_, ?_, kn⟩
  · rcases r1.2 with ⟨rfl, hz⟩ | ⟨g, cap, cur, rfl, _, hg, _, _, _, htk⟩
    · have : E = [] := List.length_eq_zero_iff.1 hz
      subst this
      exact ⟨none, 0, rfl, fun h => absurd rfl h⟩
    · refine ⟨_, cap, by simp, fun _ => ⟨g, rfl, fun j r hr => ?_⟩⟩
      rw [← List.map_reverse, List.getElem?_map] at hr
      cases hy : E.reverse[j]? with
      | none => rw [hy] at hr; cases hr
      | some y =>
        rw [hy] at hr
        injection hr with hr
        subst hr
        have hlt := (List.getElem?_eq_some_iff.1 hy).1
        refine ⟨fromV w y, ?_, (hkr y (by have := List.mem_of_getElem? hy; simpa using this)).1.keepN kn⟩
        have hrow : RowB w' g 28 cur.toList := by unfold RowB; rw [hg]
        rw [hrow.cell]
        have : (cur.toList.take (E.length * 1))[j]? = some (fromV w y) := by rw [htk, List.getElem?_map, hy]; rfl
        rw [List.getElem?_take_of_lt (by simp at hlt; omega)] at this
        exact this
  · rcases r2.2 with ⟨rfl, hz⟩ | ⟨g, cap, cur, rfl, _, hg, _, _, _, htk⟩
    · have : E = [] := List.length_eq_zero_iff.1 hz
      subst this
      exact ⟨none, 0, rfl, fun h => absurd rfl h⟩
    · refine ⟨_, cap, by simp, fun _ => ⟨g, rfl, fun j r hr => ?_⟩⟩
      rw [← List.map_reverse, List.getElem?_map] at hr
      cases hy : E.reverse[j]? with
      | none => rw [hy] at hr; cases hr
      | some y =>
        rw [hy] at hr
        injection hr with hr
        subst hr
        have hlt := (List.getElem?_eq_some_iff.1 hy).1
        refine ⟨toV w y, ?_, (hkr y (by have := List.mem_of_getElem? hy; simpa using this)).2.keepN kn⟩
        have hrow : RowB w' g 28 cur.toList := by unfold RowB; rw [hg]
        rw [hrow.cell]
        have : (cur.toList.take (E.length * 1))[j]? = some (toV w y) := by rw [htk, List.getElem?_map, hy]; rfl
        rw [List.getElem?_take_of_lt (by simp at hlt; omega)] at this
        exact this

/-! ### The plain law at the list -/
theorem Listed.same {R S D D' : List Iv} (h : Listed R D) (k : Listed S D') (hD : ∀ r, r ∈ D ↔ r ∈ D') : R = S := by
  obtain ⟨E, h1, h2, rfl⟩ := h
  obtain ⟨F, k1, k2, rfl⟩ := k
  rw [h2.same k2 h1 k1 hD]
theorem Listed.mem {R D : List Iv} (h : Listed R D) {x : Iv} (hx : x ∈ R) : (∃ r ∈ D, r.1 = x.1) ∧ ∃ r ∈ D, r.2 = x.2 := by
  obtain ⟨E, h1, h2, rfl⟩ := h
  rw [List.mem_reverse] at hx
  obtain ⟨y, hy, rfl⟩ := List.mem_map.1 hx
  exact ⟨h2.from_ y hy, h2.to_ y hy⟩
theorem Listed.apart {R D : List Iv} (h : Listed R D) {i : Nat} {x y : Iv} (hx : R[i]? = some x) (hy : R[i + 1]? = some y) : ∃ t, y.2 = some t ∧ t < x.1 := by
  obtain ⟨E, h1, h2, rfl⟩ := h
  have hp := (h2.sep.sep h1).1
  rw [← List.pairwise_reverse] at hp
  obtain ⟨l1, e1⟩ := List.getElem?_eq_some_iff.1 hx
  obtain ⟨l2, e2⟩ := List.getElem?_eq_some_iff.1 hy
  have := (List.pairwise_iff_getElem.1 hp) i (i + 1) l1 l2 (by omega)
  rw [e1, e2] at this
  exact this
theorem Listed.covers {R D : List Iv} (h : Listed R D) (hD : ∀ r ∈ D, Valid r) {r : Iv} (hr : r ∈ D) : ∃ x ∈ R, x.1 ≤ r.1 ∧ (x.2 = none ∨ ∃ t, r.2 = some t ∧ leB t x.2 = true) := by
  obtain ⟨E, h1, h2, rfl⟩ := h
  obtain ⟨x, hx, g⟩ := h2.covers h1 hD hr
  exact ⟨x.iv, by rw [List.mem_reverse]; exact List.mem_map.2 ⟨x, hx, rfl⟩, g⟩
theorem Listed.len {R D : List Iv} (h : Listed R D) : R.length ≤ D.length := by
  obtain ⟨E, h1, h2, rfl⟩ := h
  simpa using good_len h2 h1
end Go.Proofs.Qxb6615764a
