/-
  The walk of close (18).
-/
import Derived.Test.Qxb6615764aDelete
import Derived.Test.Qxb6615764aDesc
namespace Go.Proofs.Qxb6615764a
open Go.RowKit Go.Lib
set_option linter.unusedVariables false
set_option linter.unusedSimpArgs false
set_option linter.unusedSectionVars false

/-! ### The bound may grow -/
theorem KR.grow {a b : Nat} (hab : a ≤ b) {w : World} {x : It} (h : @KR ⟨a⟩ w x) : @KR ⟨b⟩ w x := by
  obtain ⟨fv, tv, h1, h2, h3, h4, h5, h6⟩ := h
  exact ⟨fv, tv, h1, h2, h3, h4, h5, Nat.lt_of_lt_of_le h6 hab⟩
theorem Rep.grow {a b : Nat} (hab : a ≤ b) : ∀ {h : Nat} {w : World} {t : Tr h}, @Rep ⟨a⟩ h w t → @Rep ⟨b⟩ h w t
  | 0, w, t, hr => by
    obtain ⟨h1, h2, h3⟩ := hr
    exact @RepL.mk ⟨b⟩ w t h1 h2 (fun x hx => KR.grow hab (h3 x hx))
  | h + 1, w, t, hr => by
    obtain ⟨⟨h1, h2, h3, h4⟩, h5⟩ := hr
    exact ⟨@RepN.mk ⟨b⟩ w h t h1 h2 h3 (fun x hx => KR.grow hab (h4 x hx)), fun c hc => Rep.grow hab (h5 c hc)⟩
theorem TreeR.grow {a b : Nat} (hab : a ≤ b) {w : World} {tb H : Nat} {T : Tr H} {l : Int} (h : @TreeR ⟨a⟩ w tb H T l) : @TreeR ⟨b⟩ w tb H T l := by
  obtain ⟨h1, h2, h3, h4, h5⟩ := h
  exact @TreeR.mk ⟨b⟩ w tb H T l h1 (Rep.grow hab h2) h3 h4 h5
theorem Rep.krs [Bd] : ∀ {h : Nat} {w : World} {t : Tr h}, Rep h w t → ∀ y ∈ elems h t, KR w y
  | 0, w, t, hr, y, hy => hr.kr y hy
  | h + 1, w, t, hr, y, hy => by
    have hy' : y ∈ (Inner.kids t).flatMap (elems h) := hy
    obtain ⟨c, hc, hy⟩ := List.mem_flatMap.1 hy'
    exact Rep.krs (hr.2 c hc) y hy
theorem TreeR.kep [Bd] {w w' : World} {tb H : Nat} {T : Tr H} {l : Int} {M : Nat → Prop} (h : TreeR w tb H T l) (k : Kep M w w') (hM : TT w M) (h1 : ¬ M tb) (h2 : ∀ b ∈ foot H T, ¬ M b) : TreeR w' tb H T l :=
  ⟨h.row.kep k h1, h.rep.kep k hM h2, h.inv, h.ok, h.nd⟩

/-- Rows in order with the same items are the same. -/
theorem sorted_ext : ∀ {E F : List It}, E.Pairwise (fun a b => a.k < b.k) → F.Pairwise (fun a b => a.k < b.k) → (∀ y, y ∈ E ↔ y ∈ F) → E = F
  | [], [], _, _, _ => rfl
  | [], f :: F, _, _, h => absurd ((h f).2 (by simp)) (by simp)
  | e :: E, [], _, _, h => absurd ((h e).1 (by simp)) (by simp)
  | e :: E, f :: F, hE, hF, h => by
    rw [List.pairwise_cons] at hE hF
    have h1 : e = f := by
      have a1 := (h e).1 (by simp)
      have a2 := (h f).2 (by simp)
      rcases List.mem_cons.1 a1 with a1 | a1
      · exact a1
      · rcases List.mem_cons.1 a2 with a2 | a2
        · exact a2.symm
        · have b1 := hF.1 e a1
          have b2 := hE.1 f a2
          grind
    subst h1
    rw [sorted_ext hE.2 hF.2 fun y => ?_]
    have hy := h y
    simp only [List.mem_cons] at hy
    constructor
    · intro hm
      rcases hy.1 (.inr hm) with rfl | h2
      · have := hE.1 y hm; grind
      · exact h2
    · intro hm
      rcases hy.2 (.inr hm) with rfl | h2
      · have := hF.1 y hm; grind
      · exact h2
theorem del_len {E F : List It} {x : It} (hE : E.Pairwise (fun a b => a.k < b.k)) (hF : F.Pairwise (fun a b => a.k < b.k)) (hx : x ∈ E) (h : ∀ y, y ∈ F ↔ y ∈ E ∧ y.k ≠ x.k) : F.length < E.length := by
  have e : F = E.filter (fun y => decide (y.k ≠ x.k)) := sorted_ext hF (hE.filter _) fun y => by rw [h, List.mem_filter]; simp
  rw [e, List.length_filter_lt_length_iff_exists]
  exact ⟨x, hx, by simp⟩

set_option maxHeartbeats 1000000 in
/-- btree.New. -/
theorem new_any [Bd] (w : World) : Calls Try.prog 22 #[.func (.func 23) #[] #[]] w fun e w' => ∃ tb, e = .returned (.pointer (some ⟨tb, 0, none⟩)) ∧ w.heap.size ≤ tb ∧ (∃ T : Tr 0, TreeR w' tb 0 T 0 ∧ elems 0 T = [] ∧ ∀ b ∈ foot 0 T, w.heap.size ≤ b) ∧ Kep (fun _ => False) w w' := by
  go_enter Try.func22, Try.ntmps22
  go_wp2_with fail
  refine (leaf0_any w).mono ?_
  rintro e w1 ⟨⟨nb, ib, rfl, h1, h2, h3, h4, rest, h5, h6⟩, k1⟩
  have HH : Hid ((w.heap.size ≤ nb ∧ w.heap.size ≤ ib ∧ nb ≠ ib) ∧ RowB w1 nb 62 [.slice (some ⟨ib, 0, none⟩) 0 64, .slice none 0 0] ∧ RowB w1 ib 46 rest ∧ rest.length = 64 ∧ Kep (fun _ => False) w w1) := ⟨⟨h1, h2, h3⟩, h4, h5, h6, k1⟩
  clear h1 h2 h3 h4 h5 h6 k1
  go_wp2
  go_ret
  obtain ⟨⟨h1, h2, h3⟩, h4, h5, h6, k1⟩ := HH.out
  have k2 : ∀ o, Kep (fun _ => False) w1 (w1.alloc o) := fun o => (Kep.refl _ _).alloc o
  refine ⟨w1.heap.size, rfl, k1.size, ⟨mkL nb ib [], ⟨row_new w1 57 [.func (.func 23) #[] #[], .pointer (some ⟨nb, 0, none⟩), .int .i64 0], mkL_rep (rest := rest) (h4.kep (k2 _) id) (by simpa using h5.kep (k2 _) id) (by simpa using h6) (fun x hx => by cases hx), ⟨trivial, List.Pairwise.nil, fun x hx => by cases hx⟩, mkL_ok.2 ⟨Nat.zero_le _, by simp⟩, by rw [mkL_foot]; simp [h3]⟩, rfl, fun b hb => ?_⟩, k1.trans (k2 _) (fun _ _ h => h)⟩
  rw [mkL_foot] at hb
  simp at hb
  rcases hb with rfl | rfl
  · exact h1
  · exact h2
end Go.Proofs.Qxb6615764a
