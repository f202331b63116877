/-
  The tree in memory: what a call that keeps its blocks leaves of it.
-/
import Derived.Test.Qxb6615764aSplit2
import Derived.Test.Qxb6615764aSearch
namespace Go.Proofs.Qxb6615764a
open Go.RowKit
set_option linter.unusedVariables false
set_option linter.unusedSectionVars false

variable [Bd]
/-- M holds no bytes, and no keyRange of the trees. -/
def TT (w : World) (M : Nat → Prop) : Prop := ∀ b, M b → b < w.heap.size → ∃ ty cur, RowB w b ty cur ∧ (ty ≠ 41 ∨ Bd.B ≤ b) ∧ ty ≠ 5
theorem TT.of5 {w : World} {M : Nat → Prop} (h : TT w M) {b : Nat} {cur : List Value} (hb : RowB w b 5 cur) : ¬ M b := fun hm => by
  obtain ⟨ty', cur', hr, h1, h2⟩ := h b hm hb.lt
  exact row_ne hr hb h2 rfl
theorem TT.of41 {w : World} {M : Nat → Prop} (h : TT w M) {b : Nat} {cur : List Value} (hb : RowB w b 41 cur) (hlt : b < Bd.B) : ¬ M b := fun hm => by
  obtain ⟨ty', cur', hr, h1, h2⟩ := h b hm hb.lt
  rcases h1 with h1 | h1
  · exact row_ne hr hb h1 rfl
  · omega
theorem TT.false (w : World) : TT w (fun _ => False) := fun _ h => h.elim
theorem TT.or {w : World} {M N : Nat → Prop} (h : TT w M) (k : TT w N) : TT w (fun b => M b ∨ N b) := fun b hb hl => hb.elim (fun x => h b x hl) (fun x => k b x hl)
theorem TT.mono {w : World} {M N : Nat → Prop} (h : TT w M) (k : ∀ b, N b → M b) : TT w N := fun b hb hl => h b (k b hb) hl
theorem TT.one {w : World} {b : Nat} {ty : TypeId} {cur : List Value} (hb : RowB w b ty cur) (h1 : ty ≠ 41) (h2 : ty ≠ 5) : TT w (fun k => k = b) := fun k hk _ => by subst hk; exact ⟨ty, cur, hb, .inl h1, h2⟩
theorem TT.new {w : World} {b : Nat} {ty : TypeId} {cur : List Value} (hb : RowB w b ty cur) (h1 : Bd.B ≤ b) (h2 : ty ≠ 5) : TT w (fun k => k = b) := fun k hk _ => by subst hk; exact ⟨ty, cur, hb, .inr h1, h2⟩

theorem By.kep {w w' : World} {M : Nat → Prop} {v : Value} (h : By w v) (k : Kep M w w') (hM : TT w M) : By w' v := fun b hb => by
  obtain ⟨cur, hr⟩ := h b hb
  exact ⟨cur, hr.kep k (hM.of5 hr)⟩
theorem By.same {w w' : World} {M : Nat → Prop} {v : Value} (h : By w v) (k : Kep M w w') (hM : TT w M) : ∀ b, blockOf v = some b → w'.heap[b]? = w.heap[b]? := fun b hb => by
  obtain ⟨cur, hr⟩ := h b hb
  exact k.block b hr.lt (hM.of5 hr)
theorem KR.kep {w w' : World} {M : Nat → Prop} {x : It} (h : KR w x) (k : Kep M w w') (hM : TT w M) : KR w' x := by
  obtain ⟨fv, tv, h1, h2, h3, h4, h5, h6⟩ := h
  exact ⟨fv, tv, h1.kep k (hM.of41 h1 h6), h2.same (h4.same k hM), h3.same (h5.same k hM), h4.kep k hM, h5.kep k hM, h6⟩

theorem Rep.kep : ∀ {h : Nat} {w w' : World} {M : Nat → Prop} {t : Tr h}, Rep h w t → Kep M w w' → TT w M → (∀ b ∈ foot h t, ¬ M b) → Rep h w' t
  | 0, w, w', M, t, hr, k, hM, hf => by
    obtain ⟨h1, ⟨rest, h2, h2'⟩, h3⟩ := hr
    exact ⟨h1.kep k (hf _ (by simp [foot])), ⟨rest, h2.kep k (hf _ (by simp [foot])), h2'⟩, fun x hx => (h3 x hx).kep k hM⟩
  | h + 1, w, w', M, t, hr, k, hM, hf => by
    obtain ⟨⟨h1, ⟨rest, h2, h2'⟩, ⟨rest', h3, h3'⟩, h4⟩, hk⟩ := hr
    refine ⟨⟨h1.kep k (hf _ (by simp [foot])), ⟨rest, h2.kep k (hf _ (by simp [foot])), h2'⟩, ⟨rest', h3.kep k (hf _ (by simp [foot])), h3'⟩, fun x hx => (h4 x hx).kep k hM⟩, fun c hc => ?_⟩
    exact Rep.kep (hk c hc) k hM fun b hb => hf b (by simp only [foot, List.mem_cons, List.mem_flatMap]; exact .inr (.inr (.inr ⟨c, hc, hb⟩)))
theorem Rep.typed : ∀ {h : Nat} {w : World} {t : Tr h}, Rep h w t → ∀ b ∈ foot h t, ∃ ty cur, RowB w b ty cur ∧ (ty = 62 ∨ ty = 46 ∨ ty = 55)
  | 0, w, t, hr, b, hb => by
    obtain ⟨h1, ⟨rest, h2, h2'⟩, h3⟩ := hr
    simp only [foot, List.mem_cons, List.not_mem_nil, or_false] at hb
    rcases hb with rfl | rfl
    · exact ⟨_, _, h1, by simp⟩
    · exact ⟨_, _, h2, by simp⟩
  | h + 1, w, t, hr, b, hb => by
    obtain ⟨⟨h1, ⟨rest, h2, h2'⟩, ⟨rest', h3, h3'⟩, h4⟩, hk⟩ := hr
    simp only [foot, List.mem_cons, List.mem_flatMap] at hb
    rcases hb with rfl | rfl | rfl | ⟨c, hc, hb⟩
    · exact ⟨_, _, h1, by simp⟩
    · exact ⟨_, _, h2, by simp⟩
    · exact ⟨_, _, h3, by simp⟩
    · exact Rep.typed (hk c hc) b hb
theorem Rep.lt {h : Nat} {w : World} {t : Tr h} (hr : Rep h w t) : ∀ b ∈ foot h t, b < w.heap.size := fun b hb => by
  obtain ⟨ty, cur, hr, _⟩ := hr.typed b hb
  exact hr.lt
theorem Rep.tt {h : Nat} {w : World} {t : Tr h} (hr : Rep h w t) : TT w (fun b => b ∈ foot h t) := fun b hb _ => by
  obtain ⟨ty, cur, hr, hty⟩ := hr.typed b hb
  exact ⟨ty, cur, hr, .inl (by rcases hty with rfl | rfl | rfl <;> decide), by rcases hty with rfl | rfl | rfl <;> decide⟩

/-- Children that take others' place keep the blocks apart. -/
theorem foot_replace {α : Type} {F : α → List Nat} {a b c sz : Nat} {K1 X Y K2 : List α} (h : (a :: b :: c :: (K1 ++ X ++ K2).flatMap F).Nodup) (hl : ∀ i ∈ a :: b :: c :: (K1 ++ X ++ K2).flatMap F, i < sz)
    (hY : (Y.flatMap F).Nodup) (hs : ∀ i ∈ Y.flatMap F, i ∈ X.flatMap F ∨ sz ≤ i) : (a :: b :: c :: (K1 ++ Y ++ K2).flatMap F).Nodup := by
  simp only [List.flatMap_append, List.nodup_cons, List.nodup_append, List.mem_cons, List.mem_append] at h hl ⊢
  generalize K1.flatMap F = A at *
  generalize K2.flatMap F = B at *
  generalize X.flatMap F = C at *
  generalize Y.flatMap F = D at *
  grind
end Go.Proofs.Qxb6615764a
