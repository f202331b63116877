/-
  The plain law: stretches closed one by one, and swept in order. No Go here.
-/
import Derived.Test.Qxb6615764aTree
namespace Go.Proofs.Qxb6615764a
set_option linter.unusedVariables false

/-! ### Stretches as plain data -/
abbrev Iv := Key × Option Key
def It.iv (x : It) : Iv := (x.k, x.u)
/-- k lies below the bound. -/
def ltK (k : Key) (u : Option Key) : Prop := match u with | none => True | some t => k < t
/-- A stretch covers a key (the key, false) and the gap behind it (the key, true). -/
def cov (r : Iv) (p : Key × Bool) : Prop := r.1 ≤ p.1 ∧ (match p.2 with | true => ltK p.1 r.2 | false => leB p.1 r.2 = true)
def Cov (L : List Iv) (p : Key × Bool) : Prop := ∃ r, r ∈ L ∧ cov r p
def Valid (r : Iv) : Prop := leB r.1 r.2 = true
/-- Apart, in order. -/
def Sep (L : List Iv) : Prop := L.Pairwise (fun a b => ∃ t, a.2 = some t ∧ t < b.1) ∧ ∀ r ∈ L, Valid r

theorem Cov.cons {r : Iv} {L : List Iv} {p : Key × Bool} : Cov (r :: L) p ↔ cov r p ∨ Cov L p := by
  unfold Cov; constructor
  · rintro ⟨x, hx, hc⟩
    rcases List.mem_cons.1 hx with rfl | hx
    · exact .inl hc
    · exact .inr ⟨x, hx, hc⟩
  · rintro (h | ⟨x, hx, hc⟩)
    · exact ⟨r, List.mem_cons_self, h⟩
    · exact ⟨x, List.mem_cons_of_mem _ hx, hc⟩
theorem cov_from {r : Iv} (h : Valid r) : cov r (r.1, false) := ⟨by grind, h⟩

theorem sep_unique : ∀ {L M : List Iv}, Sep L → Sep M → (∀ p, Cov L p ↔ Cov M p) → L = M
  | [], [], _, _, _ => rfl
  | [], m :: M, _, hM, h => by
    obtain ⟨r, hr, _⟩ := (h (m.1, false)).2 ⟨m, List.mem_cons_self, cov_from (hM.2 m List.mem_cons_self)⟩
    cases hr
  | l :: L, [], hL, _, h => by
    obtain ⟨r, hr, _⟩ := (h (l.1, false)).1 ⟨l, List.mem_cons_self, cov_from (hL.2 l List.mem_cons_self)⟩
    cases hr
  | (f, t) :: L, (g, s) :: M, hL, hM, h => by
    obtain ⟨hL1, hL2⟩ := hL
    obtain ⟨hM1, hM2⟩ := hM
    rw [List.pairwise_cons] at hL1 hM1
    have lo : ∀ {a : Iv} {A : List Iv}, (∀ b ∈ A, ∃ t, a.2 = some t ∧ t < b.1) → Valid a → ∀ p, Cov (a :: A) p → a.1 ≤ p.1 := by
      intro a A hA hv p hp
      rcases Cov.cons.1 hp with hp | ⟨r, hr, hp⟩
      · exact hp.1
      · obtain ⟨u, hu, hlt⟩ := hA r hr
        have h1 : a.1 ≤ u := by simpa [Valid, leB, hu] using hv
        have h2 := hp.1
        grind
    have gf := lo hM1.1 (hM2 _ List.mem_cons_self) _ ((h _).1 ⟨_, List.mem_cons_self, cov_from (hL2 _ List.mem_cons_self)⟩)
    have fg := lo hL1.1 (hL2 _ List.mem_cons_self) _ ((h _).2 ⟨_, List.mem_cons_self, cov_from (hM2 _ List.mem_cons_self)⟩)
    have e : f = g := by simp only at gf fg; grind
    subst e
    have top : ∀ {a : Iv} {A : List Iv} {u : Key}, (∀ b ∈ A, ∃ t, a.2 = some t ∧ t < b.1) → a.2 = some u → ¬ Cov (a :: A) (u, true) := by
      intro a A u hA hu hc
      rcases Cov.cons.1 hc with hc | ⟨r, hr, hc⟩
      · have := hc.2; simp [ltK, hu] at this; grind
      · obtain ⟨v, hv, hlt⟩ := hA r hr
        rw [hu] at hv; cases hv
        have := hc.1; grind
    have vL : Valid (f, t) := hL2 _ List.mem_cons_self
    have vM : Valid (f, s) := hM2 _ List.mem_cons_self
    have hts : t = s := by
      cases t with
      | none =>
        cases s with
        | none => rfl
        | some s =>
          exact absurd ((h (s, true)).1 (Cov.cons.2 (.inl ⟨by simpa [Valid, leB] using vM, trivial⟩))) (top hM1.1 rfl)
      | some t =>
        cases s with
        | none => exact absurd ((h (t, true)).2 (Cov.cons.2 (.inl ⟨by simpa [Valid, leB] using vL, trivial⟩))) (top hL1.1 rfl)
        | some s =>
          have hft : f ≤ t := by simpa [Valid, leB] using vL
          have hfs : f ≤ s := by simpa [Valid, leB] using vM
          by_cases h1 : t < s
          · exact absurd ((h (t, true)).2 (Cov.cons.2 (.inl ⟨hft, h1⟩))) (top hL1.1 rfl)
          · by_cases h2 : s < t
            · exact absurd ((h (s, true)).1 (Cov.cons.2 (.inl ⟨hfs, h2⟩))) (top hM1.1 rfl)
            · have : t = s := by grind
              rw [this]
    subst hts
    have dis : ∀ {A : List Iv}, (∀ b ∈ A, ∃ u, t = some u ∧ u < b.1) → ∀ p, Cov A p → ¬ cov (f, t) p := by
      rintro A hA p ⟨r, hr, hc⟩ ⟨_, hd⟩
      obtain ⟨u, rfl, hlt⟩ := hA r hr
      have h1 := hc.1
      cases hp : p.2 <;> rw [hp] at hd
      · have hd' : p.1 ≤ u := by simpa [leB] using hd
        grind
      · have hd' : p.1 < u := hd
        grind
    have rest : ∀ p, Cov L p ↔ Cov M p := fun p => by
      constructor
      · intro hp
        rcases Cov.cons.1 ((h p).1 (Cov.cons.2 (.inr hp))) with hq | hq
        · exact absurd hq (dis hL1.1 p hp)
        · exact hq
      · intro hp
        rcases Cov.cons.1 ((h p).2 (Cov.cons.2 (.inr hp))) with hq | hq
        · exact absurd hq (dis hM1.1 p hp)
        · exact hq
    rw [sep_unique ⟨hL1.2, fun r hr => hL2 r (List.mem_cons_of_mem _ hr)⟩ ⟨hM1.2, fun r hr => hM2 r (List.mem_cons_of_mem _ hr)⟩ rest]

/-- Two stretches that overlap or touch, made one. -/
def joinI (l r : Iv) : Iv := (if l.1 < r.1 then l.1 else r.1, if ltB l.2 r.2 = true then r.2 else l.2)
theorem joinI_valid {l r : Iv} (hl : Valid l) (hr : Valid r) : Valid (joinI l r) := by
  obtain ⟨a, u⟩ := l
  obtain ⟨b, v⟩ := r
  cases u <;> cases v <;> simp [Valid, joinI, leB, ltB] at * <;> grind
theorem joinI_cov {l r : Iv} (hl : Valid l) (hr : Valid r) (h1 : leB r.1 l.2 = true) (h2 : leB l.1 r.2 = true) (p : Key × Bool) : cov (joinI l r) p ↔ cov l p ∨ cov r p := by
  obtain ⟨a, u⟩ := l
  obtain ⟨b, v⟩ := r
  obtain ⟨k, c⟩ := p
  cases c <;> cases u <;> cases v <;> simp [Valid, joinI, leB, ltB, cov, ltK] at * <;> grind
theorem joinI_from (l r : Iv) : (joinI l r).1 = l.1 ∨ (joinI l r).1 = r.1 := by unfold joinI; grind
theorem joinI_to (l r : Iv) : (joinI l r).2 = l.2 ∨ (joinI l r).2 = r.2 := by unfold joinI; grind
theorem joinI_sub_l {l r : Iv} : (joinI l r).1 ≤ l.1 := by unfold joinI; grind

/-! ### The set of items that the index holds -/
/-- Apart, as a set. -/
def SepS (E : List It) : Prop := (∀ a ∈ E, ∀ b ∈ E, a.k < b.k → ∃ t, a.u = some t ∧ t < b.k) ∧ ∀ a ∈ E, leB a.k a.u = true
theorem SepS.sub {E F : List It} (h : SepS E) (hs : ∀ a ∈ F, a ∈ E) : SepS F := ⟨fun a ha b hb => h.1 a (hs a ha) b (hs b hb), fun a ha => h.2 a (hs a ha)⟩
theorem SepS.sep {E : List It} (h : SepS E) (hp : E.Pairwise (fun a b => a.k < b.k)) : Sep (E.map It.iv) := by
  refine ⟨?_, ?_⟩
  · rw [List.pairwise_map]
    exact hp.imp_of_mem fun ha hb hlt => h.1 _ ha _ hb hlt
  · intro r hr
    obtain ⟨a, ha, rfl⟩ := List.mem_map.1 hr
    exact h.2 a ha
/-- Where none of E meets r, r may come in. -/
theorem SepS.add {E F : List It} {x : It} (h : SepS E) (hx : leB x.k x.u = true) (hF : ∀ y, y ∈ F ↔ y ∈ E ∨ y = x)
    (hno : ∀ y ∈ E, (∃ t, y.u = some t ∧ t < x.k) ∨ (∃ t, x.u = some t ∧ t < y.k)) : SepS F ∧ ∀ y ∈ E, y.k ≠ x.k := by
  have key : ∀ y ∈ E, y.k ≠ x.k := by
    intro y hy
    have hv := h.2 y hy
    rcases hno y hy with ⟨t, ht, hlt⟩ | ⟨t, ht, hlt⟩
    · rw [ht] at hv; simp [leB] at hv; grind
    · rw [ht] at hx; simp [leB] at hx; grind
  refine ⟨⟨fun a ha b hb hlt => ?_, fun a ha => ?_⟩, key⟩
  · rcases (hF a).1 ha with ha | rfl <;> rcases (hF b).1 hb with hb | rfl
    · exact h.1 a ha b hb hlt
    · rcases hno a ha with h1 | ⟨t, ht, hl⟩
      · exact h1
      · rw [ht] at hx; simp [leB] at hx; grind
    · rcases hno b hb with ⟨t, ht, hl⟩ | h1
      · have hv := h.2 b hb; rw [ht] at hv; simp [leB] at hv; grind
      · exact h1
    · grind
  · rcases (hF a).1 ha with ha | rfl
    · exact h.2 a ha
    · exact hx
/-- The search of 'close' has come to its end: 'last' begins highest at or below r's end, and does not meet r. -/
theorem uniq_key {E : List It} (hp : E.Pairwise (fun a b => a.k < b.k)) {a b : It} (ha : a ∈ E) (hb : b ∈ E) (he : a.k = b.k) : a = b := by
  obtain ⟨i, hi, rfl⟩ := List.mem_iff_getElem.1 ha
  obtain ⟨j, hj, rfl⟩ := List.mem_iff_getElem.1 hb
  rcases Nat.lt_trichotomy i j with h | h | h
  · have := List.pairwise_iff_getElem.1 hp i j hi hj h; grind
  · subst h; rfl
  · have := List.pairwise_iff_getElem.1 hp j i hj hi h; grind
theorem SepS.apart {E : List It} {r : Iv} (h : SepS E) (hp : E.Pairwise (fun a b => a.k < b.k)) (hr : Valid r) {l : It} (hl : l ∈ E) (hle : leB l.k r.2 = true) (htop : ∀ y ∈ E, leB y.k r.2 = true → y.k ≤ l.k) (hm : ¬ (leB r.1 l.u = true ∧ leB l.k r.2 = true)) :
    ∀ y ∈ E, (∃ t, y.u = some t ∧ t < r.1) ∨ (∃ t, r.2 = some t ∧ t < y.k) := by
  have hlu : ∃ t, l.u = some t ∧ t < r.1 := by
    cases hu : l.u with
    | none => rw [hu] at hm; exact absurd ⟨rfl, hle⟩ hm
    | some t =>
      refine ⟨t, rfl, ?_⟩
      rw [hu] at hm; simp [leB] at hm
      simp [leB] at hle
      grind
  intro y hy
  by_cases h1 : leB y.k r.2 = true
  · left
    have h2 := htop y hy h1
    by_cases e : y.k = l.k
    · rw [uniq_key hp hy hl e]; exact hlu
    · obtain ⟨t, ht, hlt⟩ := h.1 y hy l hl (by grind)
      obtain ⟨t', ht', hlt'⟩ := hlu
      have hv := h.2 l hl
      rw [ht'] at hv; simp [leB] at hv
      exact ⟨t, ht, by grind⟩
  · right
    cases hu : r.2 with
    | none => rw [hu] at h1; simp [leB] at h1
    | some t => rw [hu] at h1; simp [leB] at h1; exact ⟨t, rfl, by grind⟩

/-! ### What closing stretches one by one leads to -/
/-- E is what closing the stretches of D leads to. -/
structure Good (E : List It) (D : List Iv) : Prop where
  sep : SepS E
  cov : ∀ p, Cov (E.map It.iv) p ↔ Cov D p
  from_ : ∀ x ∈ E, ∃ r ∈ D, r.1 = x.k
  to_ : ∀ x ∈ E, ∃ r ∈ D, r.2 = x.u
/-- The state within 'close': the items E, the stretch r at hand. -/
structure Mid (E : List It) (r : Iv) (D : List Iv) : Prop where
  sep : SepS E
  val : Valid r
  cov : ∀ p, (Cov (E.map It.iv) p ∨ cov r p) ↔ Cov D p
  from_ : (∀ x ∈ E, ∃ s ∈ D, s.1 = x.k) ∧ ∃ s ∈ D, s.1 = r.1
  to_ : (∀ x ∈ E, ∃ s ∈ D, s.2 = x.u) ∧ ∃ s ∈ D, s.2 = r.2
theorem Good.nil : Good [] [] := ⟨⟨fun _ h => (by cases h), fun _ h => (by cases h)⟩, fun p => Iff.rfl, fun _ h => (by cases h), fun _ h => (by cases h)⟩
theorem Good.mid {E : List It} {D : List Iv} (h : Good E D) {r : Iv} (hr : Valid r) : Mid E r (r :: D) := by
  refine ⟨h.sep, hr, fun p => ?_, ⟨fun x hx => ?_, r, List.mem_cons_self, rfl⟩, ⟨fun x hx => ?_, r, List.mem_cons_self, rfl⟩⟩
  · rw [Cov.cons, h.cov p]; exact Or.comm
  · obtain ⟨s, hs, e⟩ := h.from_ x hx; exact ⟨s, List.mem_cons_of_mem _ hs, e⟩
  · obtain ⟨s, hs, e⟩ := h.to_ x hx; exact ⟨s, List.mem_cons_of_mem _ hs, e⟩
theorem Cov.map {E : List It} {p : Key × Bool} : Cov (E.map It.iv) p ↔ ∃ x ∈ E, Go.Proofs.Qxb6615764a.cov x.iv p := by
  unfold Cov; constructor
  · rintro ⟨r, hr, hc⟩
    obtain ⟨x, hx, rfl⟩ := List.mem_map.1 hr
    exact ⟨x, hx, hc⟩
  · rintro ⟨x, hx, hc⟩
    exact ⟨_, List.mem_map.2 ⟨x, hx, rfl⟩, hc⟩
/-- One round of 'close': the item l that r meets goes, r grows. -/
theorem Mid.join {E F : List It} {r : Iv} {D : List Iv} (h : Mid E r D) (hp : E.Pairwise (fun a b => a.k < b.k)) {l : It} (hl : l ∈ E) (h1 : leB r.1 l.u = true) (h2 : leB l.k r.2 = true) (hF : ∀ y, y ∈ F ↔ y ∈ E ∧ y.k ≠ l.k) : Mid F (joinI l.iv r) D := by
  refine ⟨h.sep.sub fun a ha => ((hF a).1 ha).1, joinI_valid (h.sep.2 l hl) h.val, fun p => ?_, ⟨fun x hx => h.from_.1 x ((hF x).1 hx).1, ?_⟩, ⟨fun x hx => h.to_.1 x ((hF x).1 hx).1, ?_⟩⟩
  · rw [← h.cov p, joinI_cov (l := l.iv) (h.sep.2 l hl) h.val h1 h2 p, Cov.map, Cov.map]
    constructor
    · rintro (⟨x, hx, hc⟩ | hc | hc)
      · exact .inl ⟨x, ((hF x).1 hx).1, hc⟩
      · exact .inl ⟨l, hl, hc⟩
      · exact .inr hc
    · rintro (⟨x, hx, hc⟩ | hc)
      · by_cases e : x.k = l.k
        · rw [uniq_key hp hx hl e] at hc; exact .inr (.inl hc)
        · exact .inl ⟨x, (hF x).2 ⟨hx, e⟩, hc⟩
      · exact .inr (.inr hc)
  · rcases joinI_from l.iv r with e | e <;> rw [e]
    · exact h.from_.1 l hl
    · exact h.from_.2
  · rcases joinI_to l.iv r with e | e <;> rw [e]
    · exact h.to_.1 l hl
    · exact h.to_.2
/-- The end of 'close'. -/
theorem Mid.done {E F : List It} {r : Iv} {D : List Iv} (h : Mid E r D) {x : It} (hx : x.iv = r) (hF : ∀ y, y ∈ F ↔ y ∈ E ∨ y = x) (hno : ∀ y ∈ E, (∃ t, y.u = some t ∧ t < r.1) ∨ (∃ t, r.2 = some t ∧ t < y.k)) : Good F D := by
  subst hx
  refine ⟨(h.sep.add h.val hF hno).1, fun p => ?_, fun y hy => ?_, fun y hy => ?_⟩
  · rw [← h.cov p, Cov.map, Cov.map]
    constructor
    · rintro ⟨y, hy, hc⟩
      rcases (hF y).1 hy with hy | rfl
      · exact .inl ⟨y, hy, hc⟩
      · exact .inr hc
    · rintro (⟨y, hy, hc⟩ | hc)
      · exact ⟨y, (hF y).2 (.inl hy), hc⟩
      · exact ⟨x, (hF x).2 (.inr rfl), hc⟩
  · rcases (hF y).1 hy with hy | rfl
    · exact h.from_.1 y hy
    · exact h.from_.2
  · rcases (hF y).1 hy with hy | rfl
    · exact h.to_.1 y hy
    · exact h.to_.2
theorem Mid.none {E : List It} {r : Iv} {D : List Iv} (h : Mid E r D) (hn : ∀ y ∈ E, ¬ leB y.k r.2 = true) : ∀ y ∈ E, (∃ t, y.u = some t ∧ t < r.1) ∨ (∃ t, r.2 = some t ∧ t < y.k) := by
  intro y hy
  have := hn y hy
  cases hu : r.2 with
  | none => rw [hu] at this; simp [leB] at this
  | some t => rw [hu] at this; simp [leB] at this; exact .inr ⟨t, rfl, by grind⟩

/-- Two rows of items over the same stretches read alike. -/
theorem Good.same {E F : List It} {D D' : List Iv} (h : Good E D) (k : Good F D') (hE : E.Pairwise (fun a b => a.k < b.k)) (hF : F.Pairwise (fun a b => a.k < b.k)) (hD : ∀ r, r ∈ D ↔ r ∈ D') : E.map It.iv = F.map It.iv :=
  sep_unique (h.sep.sep hE) (k.sep.sep hF) fun p => by
    rw [h.cov p, k.cov p]; unfold Cov; simp [hD]
/-- Each stretch lies within one item. -/
theorem Good.covers {E : List It} {D : List Iv} (h : Good E D) (hE : E.Pairwise (fun a b => a.k < b.k)) (hD : ∀ r ∈ D, Valid r) {r : Iv} (hr : r ∈ D) : ∃ x ∈ E, x.k ≤ r.1 ∧ (x.u = none ∨ ∃ t, r.2 = some t ∧ leB t x.u = true) := by
  obtain ⟨x, hx, hc⟩ := Cov.map.1 ((h.cov (r.1, false)).2 ⟨r, hr, cov_from (hD r hr)⟩)
  refine ⟨x, hx, hc.1, ?_⟩
  cases hu : x.u with
  | none => exact .inl rfl
  | some t =>
    right
    have hc2 : r.1 ≤ t := by have := hc.2; simpa [It.iv, hu, leB] using this
    have hcov : ¬ Go.Proofs.Qxb6615764a.cov r (t, true) := by
      intro hcr
      obtain ⟨y, hy, hcy⟩ := Cov.map.1 ((h.cov (t, true)).2 ⟨r, hr, hcr⟩)
      have hy1 : y.k ≤ t := hcy.1
      have hy2 : ltK t y.u := hcy.2
      by_cases e : y.k = x.k
      · rw [uniq_key hE hy hx e, hu] at hy2; simp [ltK] at hy2; grind
      · by_cases l : y.k < x.k
        · obtain ⟨v, hv, hlt⟩ := h.sep.1 y hy x hx l
          rw [hv] at hy2; simp [ltK] at hy2
          have := h.sep.2 x hx; rw [hu] at this; simp [leB] at this
          grind
        · obtain ⟨v, hv, hlt⟩ := h.sep.1 x hx y hy (by grind)
          rw [hu] at hv; cases hv; grind
    cases hv : r.2 with
    | none => exact absurd ⟨hc2, by rw [hv]; trivial⟩ hcov
    | some v =>
      refine ⟨v, rfl, ?_⟩
      simp [leB]
      by_cases l : v ≤ t
      · exact l
      · exact absurd ⟨hc2, by rw [hv]; show t < v; grind⟩ hcov

/-! ### The sweep -/
/-- What the sweep has made of D: out, and cur at hand. -/
structure Swept (out : List Iv) (cur : Iv) (D : List Iv) : Prop where
  sep : Sep (out ++ [cur])
  cov : ∀ p, Cov (out ++ [cur]) p ↔ Cov D p
theorem Cov.append {L M : List Iv} {p : Key × Bool} : Cov (L ++ M) p ↔ Cov L p ∨ Cov M p := by
  unfold Cov; constructor
  · rintro ⟨r, hr, hc⟩
    rcases List.mem_append.1 hr with h | h
    · exact .inl ⟨r, h, hc⟩
    · exact .inr ⟨r, h, hc⟩
  · rintro (⟨r, hr, hc⟩ | ⟨r, hr, hc⟩)
    · exact ⟨r, List.mem_append_left _ hr, hc⟩
    · exact ⟨r, List.mem_append_right _ hr, hc⟩
theorem Cov.one {r : Iv} {p : Key × Bool} : Cov [r] p ↔ Go.Proofs.Qxb6615764a.cov r p := by
  rw [Cov.cons]; constructor
  · rintro (h | ⟨_, h, _⟩)
    · exact h
    · cases h
  · exact .inl
theorem Swept.start {r : Iv} (hr : Valid r) : Swept [] r [r] := ⟨⟨List.pairwise_singleton _ _, fun x hx => by rw [List.nil_append, List.mem_singleton] at hx; subst hx; exact hr⟩, fun _ => Iff.rfl⟩
theorem joinI_of_le {l r : Iv} (h : l.1 ≤ r.1) : (joinI l r).1 = l.1 := by unfold joinI; grind
theorem Swept.join {out : List Iv} {cur r : Iv} {D : List Iv} (h : Swept out cur D) (hr : Valid r) (hle : cur.1 ≤ r.1) (hm : leB r.1 cur.2 = true) : Swept out (joinI cur r) (D ++ [r]) := by
  obtain ⟨⟨hp, hv⟩, hc⟩ := h
  have vc : Valid cur := hv cur (by simp)
  have hcr : leB cur.1 r.2 = true := by
    cases hu : r.2 with
    | none => rfl
    | some t => simp [Valid, hu, leB] at hr ⊢; grind
  rw [List.pairwise_append] at hp
  refine ⟨⟨?_, fun x hx => ?_⟩, fun p => ?_⟩
  · rw [List.pairwise_append]
    refine ⟨hp.1, List.pairwise_singleton _ _, fun a ha b hb => ?_⟩
    rw [List.mem_singleton] at hb; subst hb
    rw [joinI_of_le hle]
    exact hp.2.2 a ha cur (by simp)
  · rcases List.mem_append.1 hx with hx | hx
    · exact hv x (by simp [hx])
    · rw [List.mem_singleton] at hx; subst hx; exact joinI_valid vc hr
  · have := hc p
    rw [Cov.append, Cov.one] at this ⊢
    rw [joinI_cov vc hr hm hcr, Cov.append, Cov.one, ← this, or_assoc]
theorem Swept.next {out : List Iv} {cur r : Iv} {D : List Iv} (h : Swept out cur D) (hr : Valid r) (hm : ¬ leB r.1 cur.2 = true) : Swept (out ++ [cur]) r (D ++ [r]) := by
  obtain ⟨⟨hp, hv⟩, hc⟩ := h
  have vc : Valid cur := hv cur (by simp)
  obtain ⟨t, ht, hlt⟩ : ∃ t, cur.2 = some t ∧ t < r.1 := by
    cases hu : cur.2 with
    | none => rw [hu] at hm; exact absurd rfl hm
    | some t => rw [hu] at hm; simp [leB] at hm; exact ⟨t, rfl, by grind⟩
  have vt : cur.1 ≤ t := by simpa [Valid, leB, ht] using vc
  refine ⟨⟨?_, fun x hx => ?_⟩, fun p => ?_⟩
  · rw [List.pairwise_append]
    refine ⟨hp, List.pairwise_singleton _ _, fun a ha b hb => ?_⟩
    rw [List.mem_singleton] at hb; subst hb
    rcases List.mem_append.1 ha with ha | ha
    · obtain ⟨v, hv, hl⟩ := (List.pairwise_append.1 hp).2.2 a ha cur (by simp)
      exact ⟨v, hv, by grind⟩
    · rw [List.mem_singleton] at ha; subst ha; exact ⟨t, ht, hlt⟩
  · rcases List.mem_append.1 hx with hx | hx
    · exact hv x hx
    · rw [List.mem_singleton] at hx; subst hx; exact hr
  · rw [Cov.append, hc p, Cov.append]
theorem Good.swept {E : List It} {D D' out : List Iv} {cur : Iv} (h : Good E D) (hE : E.Pairwise (fun a b => a.k < b.k)) (k : Swept out cur D') (hD : ∀ r, r ∈ D ↔ r ∈ D') : E.map It.iv = out ++ [cur] :=
  sep_unique (h.sep.sep hE) k.sep fun p => by
    rw [h.cov p, k.cov p]; unfold Cov; simp [hD]
theorem Good.nil_inv {E : List It} (h : Good E []) : E = [] := by
  cases E with
  | nil => rfl
  | cons x E => obtain ⟨r, hr, _⟩ := h.from_ x List.mem_cons_self; cases hr
end Go.Proofs.Qxb6615764a
