/-
  A REGION THAT DRAWS ITS ORDER AND STORES WHERE IT HAS LOADED ('x.f = append(x.f, v)'): the kit's held region (Derived/OrdersHeld.lean) with TWO conditions on the world: B holds throughout; A holds until one of the operations 'late' (the stores) has come up. An operation for which every late one waits may be taken first if it yields its value wherever A and B hold.
-/
import Derived.Deep.RegionHeld3
import Derived.Test.Qxb6615764aSplit2
namespace Go.Proofs.Qxb6615764a
open Go

section
variable {P : Program} {ops : Array Oper} {Q : Exit → Act → World → Prop} {md : Region.Mode} {A B : World → Prop} {late : List Nat}

/-- None of the late ones has come up. -/
def Early (late : List Nat) (listed : Array Bool) : Prop := ∀ j ∈ late, listed.getD j true = false

def wpAnyG (P : Program) (md : Region.Mode) (ops : Array Oper) (Q : Exit → Act → World → Prop) (A B : World → Prop) (late : List Nat) : Nat → Array Bool → Act → World → Prop
  | 0, listed, a, w => Region.ready md ops listed = [] ∧ Q .normal a w
  | fuel + 1, listed, a, w =>
    (Region.ready md ops listed = [] → Q .normal a w) ∧
    ∀ i ∈ Region.ready md ops listed, wpOp P ops Q i (fun a' w' => (B w' ∧ (Early late (listed.setIfInBounds i true) → A w')) ∧ wpAnyG P md ops Q A B late fuel (listed.setIfInBounds i true) a' w') a w

theorem wpAny_of_G : ∀ (fuel : Nat) (listed : Array Bool) (a : Act) (w : World), wpAnyG P md ops Q A B late fuel listed a w → wpAny P md ops Q fuel listed a w
  | 0, _, _, _, h => h
  | fuel + 1, _, _, _, h => ⟨h.1, fun i hi => wpOp_mono (fun a' w' h' => wpAny_of_G fuel _ a' w' h'.2) (h.2 i hi)⟩

theorem wpAnyG_first {i : Nat} {oi : Oper} {v : Value} (hi : ops[i]? = some oi) (hsel : ∀ (j : Nat) (o : Oper) cs b, ops[j]? = some o → o.op ≠ .select cs b)
    (hQ : ∀ c a w, Q (.panic c) (a.put oi.dst v) w → Q (.panic c) a w) (hil : i ∉ late)
    (hwait : ∀ j ∈ late, ∀ oj, ops[j]? = some oj → ∃ e ∈ oj.after, Region.binds md e = true ∧ e.on = i) :
    ∀ (fuel : Nat) (listed : Array Bool) (a : Act) (w : World),
      (∀ j oj, ops[j]? = some oj → j ≠ i → listed.getD j true = false → (∀ e ∈ oj.after, Region.binds md e = true → e.on ≠ i) → oi.apart ops oj = true) →
      i ∈ Region.ready md ops listed → Early late listed → YieldsIf P ops (fun w => A w ∧ B w) oi v a → A w → B w →
      wpAnyG P md ops Q A B late fuel (listed.setIfInBounds i true) (a.put oi.dst v) w → wpAnyG P md ops Q A B late (fuel + 1) listed a w := by
  intro fuel
  induction fuel with
  | zero =>
    intro listed a w _ hr hE hy hA hB H
    refine ⟨fun h => (by rw [h] at hr; cases hr), fun j hj => ?_⟩
    by_cases hji : j = i
    · subst hji; exact hy.wpOp hi ⟨hA, hB⟩ ⟨⟨hB, fun _ => hA⟩, H⟩
    · have := ready_mono hj hji
      rw [H.1] at this
      cases this
  | succ fuel ih =>
    intro listed a w hfree hr hE hy hA hB H
    refine ⟨fun h => (by rw [h] at hr; cases hr), fun j hj => ?_⟩
    by_cases hji : j = i
    · subst hji; exact hy.wpOp hi ⟨hA, hB⟩ ⟨⟨hB, fun _ => hA⟩, H⟩
    · have h1 := H.2 j (ready_mono hj hji)
      obtain ⟨hjun, oj, hoj, hall⟩ := mem_ready.1 hj
      have hnot : ∀ e ∈ oj.after, Region.binds md e = true → e.on ≠ i := fun e he hb heq => by
        have h1 := hall e he hb
        have h0 := (mem_ready.1 hr).1
        rw [heq] at h1
        rcases Nat.lt_or_ge i listed.size with h' | h'
        · simp [h'] at h0 h1; rw [h0] at h1; cases h1
        · simp [Array.getElem?_eq_none h'] at h1
      have hjl : j ∉ late := fun hl => by
        obtain ⟨e, he, hb, heq⟩ := hwait j hl oj hoj
        exact hnot e he hb heq
      have hE' : Early late (listed.setIfInBounds j true) := fun k hk => by
        rw [getD_set_ne true (fun e : j = k => hjl (by rw [e]; exact hk))]; exact hE k hk
      have hE'' : Early late ((listed.setIfInBounds i true).setIfInBounds j true) := fun k hk => by
        rw [getD_set_ne true (fun e : j = k => hjl (by rw [e]; exact hk)), getD_set_ne true (fun e : i = k => hil (by rw [e]; exact hk))]; exact hE k hk
      have h2 := wpOp_putIf hoj (hfree j oj hoj hji hjun hnot) (fun cs b => hsel i oi cs b hi) (fun cs b => hsel j oj cs b hoj) hQ hy h1
      have hfree' : ∀ k ok, ops[k]? = some ok → k ≠ i → (listed.setIfInBounds j true).getD k true = false →
          (∀ e ∈ ok.after, Region.binds md e = true → e.on ≠ i) → oi.apart ops ok = true := fun k ok hk hki hun hno => by
        refine hfree k ok hk hki ?_ hno
        by_cases hjk : j = k
        · subst hjk; exact hjun
        · rw [getD_set_ne true hjk] at hun; exact hun
      refine wpOp_mono (fun a' w' h3 => ?_) h2
      have hA' : A w' := h3.2.1.2 hE''
      refine ⟨⟨h3.2.1.1, fun _ => hA'⟩, ih (listed.setIfInBounds j true) a' w' hfree' (ready_mono hr (Ne.symm hji)) hE' h3.1 hA' h3.2.1.1 ?_⟩
      rw [Array.setIfInBounds_comm _ _ hji]
      exact h3.2.2

/-- An operation that yields its value wherever B holds may be taken first, whoever waits for it. -/
theorem wpAnyG_firstB {i : Nat} {oi : Oper} {v : Value} (hi : ops[i]? = some oi) (hsel : ∀ (j : Nat) (o : Oper) cs b, ops[j]? = some o → o.op ≠ .select cs b)
    (hQ : ∀ c a w, Q (.panic c) (a.put oi.dst v) w → Q (.panic c) a w) (hil : i ∉ late) :
    ∀ (fuel : Nat) (listed : Array Bool) (a : Act) (w : World),
      (∀ j oj, ops[j]? = some oj → j ≠ i → listed.getD j true = false → (∀ e ∈ oj.after, Region.binds md e = true → e.on ≠ i) → oi.apart ops oj = true) →
      i ∈ Region.ready md ops listed → YieldsIf P ops B oi v a → (Early late listed → A w) → B w →
      wpAnyG P md ops Q A B late fuel (listed.setIfInBounds i true) (a.put oi.dst v) w → wpAnyG P md ops Q A B late (fuel + 1) listed a w := by
  have early_set : ∀ listed : Array Bool, Early late (listed.setIfInBounds i true) ↔ Early late listed := fun listed => by
    constructor
    · intro h k hk
      have := h k hk
      rw [getD_set_ne true (fun e : i = k => hil (by rw [e]; exact hk))] at this; exact this
    · intro h k hk
      rw [getD_set_ne true (fun e : i = k => hil (by rw [e]; exact hk))]; exact h k hk
  intro fuel
  induction fuel with
  | zero =>
    intro listed a w _ hr hy hA hB H
    refine ⟨fun h => (by rw [h] at hr; cases hr), fun j hj => ?_⟩
    by_cases hji : j = i
    · subst hji; exact hy.wpOp hi hB ⟨⟨hB, fun hE => hA ((early_set _).1 hE)⟩, H⟩
    · have := ready_mono hj hji
      rw [H.1] at this
      cases this
  | succ fuel ih =>
    intro listed a w hfree hr hy hA hB H
    refine ⟨fun h => (by rw [h] at hr; cases hr), fun j hj => ?_⟩
    by_cases hji : j = i
    · subst hji; exact hy.wpOp hi hB ⟨⟨hB, fun hE => hA ((early_set _).1 hE)⟩, H⟩
    · have h1 := H.2 j (ready_mono hj hji)
      obtain ⟨hjun, oj, hoj, hall⟩ := mem_ready.1 hj
      have hnot : ∀ e ∈ oj.after, Region.binds md e = true → e.on ≠ i := fun e he hb heq => by
        have h1 := hall e he hb
        have h0 := (mem_ready.1 hr).1
        rw [heq] at h1
        rcases Nat.lt_or_ge i listed.size with h' | h'
        · simp [h'] at h0 h1; rw [h0] at h1; cases h1
        · simp [Array.getElem?_eq_none h'] at h1
      have h2 := wpOp_putIf hoj (hfree j oj hoj hji hjun hnot) (fun cs b => hsel i oi cs b hi) (fun cs b => hsel j oj cs b hoj) hQ hy h1
      have hfree' : ∀ k ok, ops[k]? = some ok → k ≠ i → (listed.setIfInBounds j true).getD k true = false →
          (∀ e ∈ ok.after, Region.binds md e = true → e.on ≠ i) → oi.apart ops ok = true := fun k ok hk hki hun hno => by
        refine hfree k ok hk hki ?_ hno
        by_cases hjk : j = k
        · subst hjk; exact hjun
        · rw [getD_set_ne true hjk] at hun; exact hun
      refine wpOp_mono (fun a' w' h3 => ?_) h2
      have hA' : Early late (listed.setIfInBounds j true) → A w' := fun hE => h3.2.1.2 (by
        rw [Array.setIfInBounds_comm _ _ (Ne.symm hji)]; exact (early_set _).2 hE)
      refine ⟨⟨h3.2.1.1, hA'⟩, ih (listed.setIfInBounds j true) a' w' hfree' (ready_mono hr (Ne.symm hji)) h3.1 hA' h3.2.1.1 ?_⟩
      rw [Array.setIfInBounds_comm _ _ hji]
      exact h3.2.2
/-- Take number i first: it yields wherever B holds. -/
theorem wpAnyG_takeB {i : Nat} {oi : Oper} {v : Value} {fuel : Nat} {listed : Array Bool} {a : Act} {w : World} (hi : ops[i]? = some oi)
    (hs : Region.noSelect ops = true) (hf : Region.free md ops listed i = true) (hr : (Region.ready md ops listed).contains i = true)
    (hl : late.contains i = false)
    (hQ : ∀ c a w, Q (.panic c) (a.put oi.dst v) w → Q (.panic c) a w) (hA : Early late listed → A w) (hB : B w) (hy : YieldsIf P ops B oi v a)
    (h : wpAnyG P md ops Q A B late fuel (listed.setIfInBounds i true) (a.put oi.dst v) w) : wpAnyG P md ops Q A B late (fuel + 1) listed a w :=
  wpAnyG_firstB hi (Region.noSelect_spec hs) hQ (by simpa using hl) fuel listed a w (Region.free_spec hi hf) (by simpa using hr) hy hA hB h

/-- Does j wait for i? -/
def waitsB (md : Region.Mode) (ops : Array Oper) (i j : Nat) : Bool := match ops[j]? with | some oj => oj.after.toList.any fun e => Region.binds md e && e.on == i | none => true
def earlyB (late : List Nat) (listed : Array Bool) : Bool := late.all fun j => !listed.getD j true
theorem early_of {late : List Nat} {listed : Array Bool} (h : earlyB late listed = true) : Early late listed := fun j hj => by
  have := List.all_eq_true.1 h j hj
  simpa using this
theorem not_early {late : List Nat} {listed : Array Bool} (h : earlyB late listed = false) (hE : Early late listed) {p : Prop} : p := by
  have : earlyB late listed = true := List.all_eq_true.2 fun j hj => by have := hE j hj; simpa using this
  rw [this] at h; cases h

/-- Take number i first. -/
theorem wpAnyG_take {i : Nat} {oi : Oper} {v : Value} {fuel : Nat} {listed : Array Bool} {a : Act} {w : World} (hi : ops[i]? = some oi)
    (hs : Region.noSelect ops = true) (hf : Region.free md ops listed i = true) (hr : (Region.ready md ops listed).contains i = true)
    (hl : (!late.contains i && late.all (waitsB md ops i) && earlyB late listed) = true)
    (hQ : ∀ c a w, Q (.panic c) (a.put oi.dst v) w → Q (.panic c) a w) (hA : A w) (hB : B w) (hy : YieldsIf P ops (fun w => A w ∧ B w) oi v a)
    (h : wpAnyG P md ops Q A B late fuel (listed.setIfInBounds i true) (a.put oi.dst v) w) : wpAnyG P md ops Q A B late (fuel + 1) listed a w := by
  simp only [Bool.and_eq_true, Bool.not_eq_true', List.contains_eq_mem, decide_eq_false_iff_not] at hl
  refine wpAnyG_first hi (Region.noSelect_spec hs) hQ hl.1.1 (fun j hj oj hoj => ?_) fuel listed a w (Region.free_spec hi hf) (by simpa using hr) (early_of hl.2) hy hA hB h
  have := List.all_eq_true.1 hl.1.2 j hj
  simp only [waitsB, hoj] at this
  obtain ⟨e, he, hb⟩ := List.any_eq_true.1 this
  simp only [Bool.and_eq_true, beq_iff_eq] at hb
  exact ⟨e, by simpa using he, hb.1, hb.2⟩

/-- Take number i first, once a late one has come up: it must yield in whatever world. -/
theorem wpAnyG_done {listed : Array Bool} {a : Act} {w : World} (hr : Region.ready md ops listed = []) (h : Q .normal a w) :
    ∀ fuel, wpAnyG P md ops Q A B late fuel listed a w
  | 0 => ⟨hr, h⟩
  | _ + 1 => ⟨fun _ => h, by rw [hr]; simp⟩

/-- The one operation that may come up comes up. -/
theorem wpAnyG_step {i : Nat} {o : Oper} {fuel : Nat} {listed : Array Bool} {a : Act} {w : World} (hr : Region.ready md ops listed = [i]) (ho : ops[i]? = some o)
    (h : ∀ K' : Act → World → Prop, Shut (∀ a w, B w → (Early late (listed.setIfInBounds i true) → A w) → wpAnyG P md ops Q A B late fuel (listed.setIfInBounds i true) a w → K' a w) → if Region.wanted o (yielded ops a.tmps) = true then Oper.wp P o a w K' Q else K' (a.put o.dst undef) w) :
    wpAnyG P md ops Q A B late (fuel + 1) listed a w := by
  refine ⟨fun h0 => (by rw [h0] at hr; cases hr), fun j hj => ?_⟩
  rw [hr] at hj
  simp only [List.mem_singleton] at hj
  subst hj
  exact wpOp_step ho (fun K' hK => h K' (fun a w hB hA hW => hK a w ⟨⟨hB, hA⟩, hW⟩))

/-- Each of the operations 'rs' comes up next. -/
def AllReadyG (P : Program) (md : Region.Mode) (ops : Array Oper) (Q : Exit → Act → World → Prop) (A B : World → Prop) (late : List Nat) (fuel : Nat) (listed : Array Bool) (a : Act) (w : World) (rs : List Nat) : Prop :=
  ∀ i ∈ rs, wpOp P ops Q i (fun a' w' => (B w' ∧ (Early late (listed.setIfInBounds i true) → A w')) ∧ wpAnyG P md ops Q A B late fuel (listed.setIfInBounds i true) a' w') a w
theorem AllReadyG.nil {fuel : Nat} {listed : Array Bool} {a : Act} {w : World} : AllReadyG P md ops Q A B late fuel listed a w [] := fun _ h => by cases h
theorem AllReadyG.cons {fuel : Nat} {listed : Array Bool} {a : Act} {w : World} {i : Nat} {o : Oper} {rs : List Nat} (ho : ops[i]? = some o)
    (h : ∀ K' : Act → World → Prop, Shut (∀ a w, B w → (Early late (listed.setIfInBounds i true) → A w) → wpAnyG P md ops Q A B late fuel (listed.setIfInBounds i true) a w → K' a w) → if Region.wanted o (yielded ops a.tmps) = true then Oper.wp P o a w K' Q else K' (a.put o.dst undef) w)
    (hs : AllReadyG P md ops Q A B late fuel listed a w rs) : AllReadyG P md ops Q A B late fuel listed a w (i :: rs) := fun j hj => by
  rcases List.mem_cons.1 hj with rfl | hj
  · exact wpOp_step ho (fun K' hK => h K' (fun a w hB hA hW => hK a w ⟨⟨hB, hA⟩, hW⟩))
  · exact hs j hj
theorem wpAnyG_ready {rs : List Nat} {fuel : Nat} {listed : Array Bool} {a : Act} {w : World} (hr : Region.ready md ops listed = rs) (hne : rs ≠ [])
    (h : AllReadyG P md ops Q A B late fuel listed a w rs) : wpAnyG P md ops Q A B late (fuel + 1) listed a w :=
  ⟨fun h0 => absurd (hr.symm.trans h0) hne, fun j hj => h j (by rw [← hr]; exact hj)⟩

/-- The beginning. -/
theorem wp_region_G (A B : World → Prop) (late : List Nat) {id : Nat} {a : Act} {w : World} (hm : P.follows .mixedOrders = true)
    (h : wpAnyG P .any ops (NoPanic Q) A B late ops.size (Array.replicate ops.size false) a w.drew) : (Code.region id ops true).wp P Q a w :=
  wp_region_noPanic (wp_region_any hm (wpAny_of_G _ _ _ _ h))
end

end Go.Proofs.Qxb6615764a
