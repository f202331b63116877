/-
  The walk of Floor (26).
-/
import Derived.Test.Qxb6615764aDelP
namespace Go.Proofs.Qxb6615764a
open Go.RowKit Go.Lib
set_option linter.unusedVariables false
set_option linter.unusedSectionVars false
set_option linter.unusedSimpArgs false
variable [Bd]

@[go_sem] theorem neq55_some (w : World) (a : Addr) : (binOp .neq 55 (.pointer (some a)) (.pointer none)).run Try.prog w = .ok (.bool true) w := by kernel_rfl
@[go_sem] theorem neq55_none (w : World) : (binOp .neq 55 (.pointer none) (.pointer none)).run Try.prog w = .ok (.bool false) w := by kernel_rfl

theorem elems_ne {h : Nat} {t : Tr h} : Ok h t 32 → elems h t ≠ [] := by
  induction h with
  | zero => intro ok e; have : (elems 0 t).length ≥ 32 := ok.1; rw [e] at this; simp at this
  | succ h ih =>
    intro ok e
    obtain ⟨nb, ib, cb, seps, kids, rfl⟩ := Tr.inner t
    rw [mkI_ok] at ok
    rw [mkI_elems] at e
    obtain ⟨k, ks, rfl, _⟩ := cons_of_len (l := kids) (n := kids.length - 1) (by omega)
    rw [List.flatMap_cons] at e
    exact ih (ok.2.2.2 k (by simp)) (List.append_eq_nil_iff.1 e).1
/-- What Floor answers. -/
def FloorOf (E : List It) (x : Key) (v : Value) : Prop := (∃ y ∈ E, v = .pointer (some ⟨y.p, 0, none⟩) ∧ y.k ≤ x ∧ ∀ z ∈ E, z.k ≤ x → z.k ≤ y.k) ∨ (v = .pointer none ∧ ∀ z ∈ E, ¬ z.k ≤ x)
/-- The way left of the search. -/
def LeftOf (w : World) (P : List It) (lv : Value) : Prop := (P = [] ∧ lv = .pointer none) ∨ ∃ (kl : Nat) (tl : Tr kl) (P' : List It), P = P' ++ elems kl tl ∧ lv = .pointer (some ⟨nbOf kl tl, 0, none⟩) ∧ Rep kl w tl ∧ (∃ lo hi, Inv kl tl lo hi) ∧ Ok kl tl 32
def FloorInv (H : Nat) (T : Tr H) (x : Key) (w : World) (k : Nat) (lv n : Value) (wr : World) : Prop :=
  ∃ (t : Tr k) (lo hi : Option Key) (P Q : List It) (d : Nat), wr = w.drewN d ∧ n = .pointer (some ⟨nbOf k t, 0, none⟩) ∧ Rep k w t ∧ Inv k t lo hi ∧ Ok k t 0 ∧ elems H T = P ++ elems k t ++ Q ∧ (∀ y ∈ P, y.k ≤ x) ∧ (∀ y ∈ Q, x < y.k) ∧ (geL lo x ∧ ltH x hi) ∧ LeftOf w P lv
def LastInv (E : List It) (w : World) (k : Nat) (lv : Value) (wr : World) : Prop :=
  ∃ (tl : Tr k) (P' : List It) (d : Nat), wr = w.drewN d ∧ E = P' ++ elems k tl ∧ lv = .pointer (some ⟨nbOf k tl, 0, none⟩) ∧ Rep k w tl ∧ (∃ lo hi, Inv k tl lo hi) ∧ Ok k tl 32
theorem floor_of {P A B Q : List It} {x : Key} {y : It} (hs : (P ++ (A ++ y :: B) ++ Q).Pairwise (fun a b => a.k < b.k)) (hy : y.k ≤ x) (hB : ∀ z ∈ B, x < z.k) (hQ : ∀ z ∈ Q, x < z.k) : FloorOf (P ++ (A ++ y :: B) ++ Q) x (.pointer (some ⟨y.p, 0, none⟩)) := by
  refine .inl ⟨y, by simp, rfl, hy, fun z hz hzx => ?_⟩
  simp only [List.append_assoc, List.cons_append] at hs
  have h1 : (P ++ A ++ y :: (B ++ Q)).Pairwise (fun a b => a.k < b.k) := by simpa using hs
  rw [List.pairwise_append] at h1
  simp only [List.mem_append, List.mem_cons] at hz
  rcases hz with (hz | hz | rfl | hz) | hz
  · have := h1.2.2 z (by simp [hz]) y (by simp); grind
  · have := h1.2.2 z (by simp [hz]) y (by simp); grind
  · grind
  · have := hB z hz; grind
  · have := hQ z hz; grind

set_option maxHeartbeats 4000000 in
set_option maxRecDepth 100000 in
theorem floor_any {w : World} {tb H xb xo : Nat} {T : Tr H} {x : Key} {l : Int} (hT : TreeR w tb H T l) (hx : KAt w ⟨xb, xo, none⟩ x) :
    Calls Try.prog 26 #[.pointer (some ⟨tb, 0, none⟩), .pointer (some ⟨xb, xo, none⟩)] w fun e w' => (∃ v bv, e = .returned (.tuple #[v, bv]) ∧ FloorOf (elems H T) x v) ∧ ∃ d, w' = w.drewN d := by
  have t0 := hT.row.cell 0
  have t1 := hT.row.cell 1
  simp only [List.getElem?_cons_zero, List.getElem?_cons_succ] at t0 t1
  unfold nodeV cmpV at *
  have HT : Hid (TreeR w tb H T l ∧ KAt w ⟨xb, xo, none⟩ x) := ⟨hT, hx⟩
  clear hT hx
  go_enter Try.func26, Try.ntmps26
  go_wp2
  go_loopg [6, 7] H (fun k lv n wr => FloorInv H T x w k lv n wr)
  case atStart => exact ⟨T, none, none, [], [], 0, rfl, rfl, HT.out.1.rep, HT.out.1.inv, HT.out.1.ok, by simp, fun y hy => by simp at hy, fun y hy => by simp at hy, ⟨trivial, trivial⟩, .inl ⟨rfl, rfl⟩⟩
  case round =>
    obtain ⟨t, lo, hi, P, Q, d, rfl, rfl, hr, hv, hok, hE, hP, hQ, hb, hleft⟩ := hrel
    cases gk with
    | zero =>
      obtain ⟨nb, ib, items, rfl⟩ := Tr.leaf t
      obtain ⟨rest, hN, hI, hlen, hkr⟩ := mkL_parts hr
      have hsort : items.Pairwise (fun a b => a.k < b.k) := hv.2.1
      obtain ⟨c0, hlow⟩ := Lower.ex x hsort
      obtain ⟨A, B, hAB, hA, hA1, hB1⟩ := hlow.zip
      have hE' : elems H T = P ++ items ++ Q := hE
      have hall : (P ++ items ++ Q).Pairwise (fun a b => a.k < b.k) := by rw [← hE']; exact (HT.out.1.inv.elems).1
      have n0 := hN.cell 0
      have n1 := hN.cell 1
      simp only [List.getElem?_cons_zero, List.getElem?_cons_succ] at n0 n1
      have hil : (items.length : Int) ≤ 64 := by omega
      have HX : Hid ((RowB w ib 46 (items.map It.ptr ++ rest) ∧ (∀ s ∈ items, KR w s) ∧ items.Pairwise (fun a b => a.k < b.k) ∧ items.length ≤ 1000 ∧ Lower items x c0) ∧ (items = A ++ B ∧ A.length = c0 ∧ (∀ s ∈ A, s.k < x) ∧ (∀ s ∈ B, x ≤ s.k)) ∧ elems H T = P ++ items ++ Q ∧ (P ++ items ++ Q).Pairwise (fun a b => a.k < b.k) ∧ (∀ y ∈ P, y.k ≤ x) ∧ (∀ y ∈ Q, x < y.k) ∧ LeftOf w P u6) := ⟨⟨hI, hkr, hsort, by omega, hlow⟩, ⟨hAB, hA, hA1, hB1⟩, hE', hall, hP, hQ, hleft⟩
      clear hr hv hok hE hP hQ hb hleft hN hlen hkr hsort hlow hE' hall hA1 hB1
      simp only [mkL_nb]
      by_cases hf : ∃ y B', B = y :: B' ∧ y.k = x
      · obtain ⟨y, B', hBy, hyx⟩ := hf
        subst hBy
        have hfd : foundAt items x c0 = true := by unfold foundAt; rw [hAB]; simp [← hA, hyx]
        have hci : w.cell? ⟨ib, c0, none⟩ = some (.pointer (some ⟨y.p, 0, none⟩)) := by rw [hI.cell, hAB, ← hA]; simp [It.ptr]
        have hcl : (c0 : Int) < (items.length : Int) := by rw [hAB]; simp; omega
        have HY : Hid (y.k = x) := hyx
        clear hyx hI hAB hA
        go_wp2
        go_quiet (first | (go_at_call 35; exact Calls.quiet_at (search_at (HX.out.1.1.drewN _) (fun s hs => (HX.out.1.2.1 s hs).drewN _) (HT.out.2.drewN _) HX.out.1.2.2.1 HX.out.1.2.2.2.1 HX.out.1.2.2.2.2)))
        rw [hfd]
        go_wp2
        go_ret2
        refine ⟨⟨_, _, rfl, ?_⟩, _, rfl⟩
        obtain ⟨_, ⟨hAB, hA, hA1, hB1⟩, hE', hall, hP, hQ, hleft⟩ := HX.out
        rw [hE']
        rw [hAB] at hall ⊢
        refine floor_of hall (by have := HY.out; grind) (fun z hz => ?_) hQ
        have hp : (A ++ y :: B').Pairwise (fun a b => a.k < b.k) := (List.pairwise_append.1 (List.pairwise_append.1 hall).1).2.1
        have := (List.pairwise_cons.1 (List.pairwise_append.1 hp).2.1).1 z hz
        have := HY.out
        grind
      · have hB2 : ∀ z ∈ B, x < z.k := by
          intro z hz
          cases B with
          | nil => cases hz
          | cons y B' =>
            have hy1 := HX.out.2.1.2.2.2 y (by simp)
            have hy2 : y.k ≠ x := fun e => hf ⟨y, B', rfl, e⟩
            have hp : (A ++ y :: B').Pairwise (fun a b => a.k < b.k) := by rw [← hAB]; exact HX.out.1.2.2.1
            rcases List.mem_cons.1 hz with rfl | hz
            · grind
            · have := (List.pairwise_cons.1 (List.pairwise_append.1 hp).2.1).1 z hz
              grind
        have hfd : foundAt items x c0 = false := by
          unfold foundAt
          cases hc : items[c0]? with
          | none => rfl
          | some s =>
            have : s ∈ B := by
              rw [hAB, List.getElem?_append_right (by omega)] at hc
              exact List.mem_of_getElem? hc
            have := hB2 s this
            simp; grind
        have HB2 : Hid (∀ z ∈ B, x < z.k) := hB2
        clear hB2 hf
        by_cases hA0 : A = []
        · have hc0 : c0 = 0 := by rw [← hA, hA0]; rfl
          have HA0 : Hid (A = []) := hA0
          clear hA hAB hI hA0
          subst hc0
          rcases HX.out.2.2.2.2.2.2 with ⟨hPe, hlv⟩ | ⟨kl, tl, P', hPe, hlv, hrl, hil2, hokl⟩
          · subst hlv
            have HP0 : Hid (P = []) := hPe
            clear hPe
            go_wp2
            go_quiet (first | (go_at_call 35; exact Calls.quiet_at (search_at (HX.out.1.1.drewN _) (fun s hs => (HX.out.1.2.1 s hs).drewN _) (HT.out.2.drewN _) HX.out.1.2.2.1 HX.out.1.2.2.2.1 HX.out.1.2.2.2.2)))
            rw [hfd]
            go_wp2
            go_ret2
            refine ⟨⟨_, _, rfl, .inr ⟨rfl, fun z hz => ?_⟩⟩, _, rfl⟩
            obtain ⟨_, ⟨hAB, hA, hA1, hB1⟩, hE', hall, hP, hQ, hleft⟩ := HX.out
            rw [hE', HP0.out, hAB, HA0.out] at hz
            simp only [List.nil_append, List.mem_append] at hz
            rcases hz with hz | hz
            · have := HB2.out z hz; grind
            · have := hQ z hz; grind
          · subst hlv
            have HL : Hid (P = P' ++ elems kl tl ∧ Rep kl w tl ∧ (∃ lo hi, Inv kl tl lo hi) ∧ Ok kl tl 32) := ⟨hPe, hrl, hil2, hokl⟩
            clear hPe hrl hil2 hokl
            go_wp2
            go_quiet (first | (go_at_call 35; exact Calls.quiet_at (search_at (HX.out.1.1.drewN _) (fun s hs => (HX.out.1.2.1 s hs).drewN _) (HT.out.2.drewN _) HX.out.1.2.2.1 HX.out.1.2.2.2.1 HX.out.1.2.2.2.2)))
            rw [hfd]
            go_wp2
            go_loopg [6] kl (fun k lv wr => LastInv P w k lv wr)
            case atStart => exact ⟨tl, P', _, rfl, HL.out.1, rfl, HL.out.2.1, HL.out.2.2.1, HL.out.2.2.2⟩
            case round =>
              obtain ⟨tl2, P2, d2, rfl, hP2, rfl, hr2, hi2, ho2⟩ := hrel
              cases gk with
              | zero =>
                obtain ⟨lb, lib, its, rfl⟩ := Tr.leaf tl2
                obtain ⟨restL, hNL, hIL, hlenL, hkrL⟩ := mkL_parts hr2
                rw [mkL_ok] at ho2
                obtain ⟨I0, y, hIy, hI0⟩ := snoc_of_len (l := its) (n := its.length - 1) (by omega)
                obtain ⟨nl, hnl⟩ : ∃ nl, nl = its.length := ⟨_, rfl⟩
                obtain ⟨ml, hml⟩ : ∃ ml, ml = I0.length := ⟨_, rfl⟩
                rw [← hnl] at hNL
                have l0 := hNL.cell 0
                have l1 := hNL.cell 1
                simp only [List.getElem?_cons_zero, List.getElem?_cons_succ] at l0 l1
                have hly : w.cell? ⟨lib, ml, none⟩ = some (.pointer (some ⟨y.p, 0, none⟩)) := by rw [hIL.cell, hIy, hml]; simp [It.ptr]
                have hsub : (nl : Int) - 1 = (ml : Int) := by omega
                have hlt : (ml : Int) < (nl : Int) := by omega
                have hl64 : (nl : Int) ≤ 64 := by omega
                have hmw : IntKind.i64.wrap (ml : Int) = (ml : Int) := by rw [IntKind.wrap_i64]; omega
                have HZ : Hid (P = P2 ++ its ∧ its = I0 ++ [y]) := ⟨hP2, hIy⟩
                clear hP2 hr2 hi2 ho2 hNL hIL hlenL hkrL hIy hI0 hnl hml
                simp only [mkL_nb]
                go_wp2
                go_quiet (fail)
                go_wp2
                go_ret2
                refine ⟨⟨_, _, rfl, ?_⟩, d2 + nq, by rw [World.drewN_drewN]⟩
                obtain ⟨_, ⟨hAB, hA, hA1, hB1⟩, hE', hall, hP, hQ, hleft⟩ := HX.out
                rw [hE']
                have e : P ++ items ++ Q = P2 ++ (I0 ++ y :: []) ++ (items ++ Q) := by rw [HZ.out.1, HZ.out.2]; simp
                rw [e] at hall ⊢
                refine floor_of hall (hP y (by rw [HZ.out.1, HZ.out.2]; simp)) (fun z hz => by cases hz) (fun z hz => ?_)
                rcases List.mem_append.1 hz with hz | hz
                · rw [hAB, HA0.out] at hz; exact HB2.out z (by simpa using hz)
                · exact hQ z hz
              | succ h2 =>
                obtain ⟨lb, lib, lcb, ss, ks, rfl⟩ := Tr.inner tl2
                obtain ⟨restS, restK, hN2, hlS2, hlK2, hkr2, hrk2⟩ := mkI_parts hr2
                rw [mkI_ok] at ho2
                obtain ⟨K0, cl, hKc, hK0⟩ := snoc_of_len (l := ks) (n := ks.length - 1) (by omega)
                obtain ⟨nk, hnk⟩ : ∃ nk, nk = ks.length := ⟨_, rfl⟩
                obtain ⟨mk, hmk⟩ : ∃ mk, mk = K0.length := ⟨_, rfl⟩
                rw [← hnk] at hN2
                have l1 := hN2.c1
                have hly : w.cell? ⟨lcb, mk, none⟩ = some (.pointer (some ⟨nbOf h2 cl, 0, none⟩)) := by rw [hN2.kid.cell, hKc, hmk]; simp [nodeV]
                have hsub : (nk : Int) - 1 = (mk : Int) := by omega
                have hlt : (mk : Int) < (nk : Int) := by omega
                have hl64 : (nk : Int) ≤ 64 := by omega
                have hmw : IntKind.i64.wrap (mk : Int) = (mk : Int) := by rw [IntKind.wrap_i64]; omega
                have HZ : Hid (P = P2 ++ elems (h2 + 1) (mkI lb lib lcb ss ks) ∧ ks = K0 ++ [cl] ∧ Rep h2 w cl ∧ Ok h2 cl 32 ∧ ∃ lo hi, Inv h2 cl lo hi) := by
                  refine ⟨hP2, hKc, hrk2 cl (by rw [hKc]; simp), ho2.2.2.2 cl (by rw [hKc]; simp), ?_⟩
                  obtain ⟨lo, hi, hch⟩ := hi2
                  have hch' : Chain (Inv h2) ss ks lo hi := hch
                  have hll := hch'.length
                  rw [hKc] at hch'
                  have e : ss = ss ++ [] := by simp
                  rw [e, show K0 ++ [cl] = K0 ++ [cl] ++ [] by simp] at hch'
                  obtain ⟨a, b, _, hh, _⟩ := Chain.at hch' (by omega)
                  exact ⟨a, b, hh⟩
                clear hP2 hr2 hi2 ho2 hN2 hlS2 hlK2 hkr2 hrk2 hKc hK0 hnk hmk
                simp only [mkI_nb]
                go_wp2
                go_quiet (fail)
                go_wp2
                go_roundg h2
                case measure => exact Nat.lt_succ_self _
                case rel =>
                  obtain ⟨hP2, hKc, g1, g2, g3⟩ := HZ.out
                  refine ⟨cl, P2 ++ K0.flatMap (elems h2), d2 + nq, by rw [World.drewN_drewN], ?_, rfl, g1, g3, g2⟩
                  rw [hP2, mkI_elems, hKc]; simp
        · obtain ⟨A', y, hAy, hA'⟩ := snoc_of_len (l := A) (n := A.length - 1) (by have := List.length_pos_iff.2 hA0; omega)
          obtain ⟨j, hj⟩ : ∃ j, j = A'.length := ⟨_, rfl⟩
          have hcj : w.cell? ⟨ib, j, none⟩ = some (.pointer (some ⟨y.p, 0, none⟩)) := by rw [hI.cell, hAB, hAy, hj]; simp [It.ptr]
          have hc1 : c0 = j + 1 := by rw [← hA, hAy, hj]; simp
          have hsub : (c0 : Int) - 1 = (j : Int) := by omega
          have hc0p : (0 : Int) < (c0 : Int) := by omega
          have hjl : (j : Int) < (items.length : Int) := by rw [hAB, hAy, hj]; simp; omega
          have hjw : IntKind.i64.wrap (j : Int) = (j : Int) := by rw [IntKind.wrap_i64]; omega
          have HAy : Hid (A = A' ++ [y]) := hAy
          clear hA0 hAy hA' hj hc1 hI hAB hA
          go_wp2
          go_quiet (first | (go_at_call 35; exact Calls.quiet_at (search_at (HX.out.1.1.drewN _) (fun s hs => (HX.out.1.2.1 s hs).drewN _) (HT.out.2.drewN _) HX.out.1.2.2.1 HX.out.1.2.2.2.1 HX.out.1.2.2.2.2)))
          rw [hfd]
          go_wp2
          go_ret2
          refine ⟨⟨_, _, rfl, ?_⟩, _, rfl⟩
          obtain ⟨_, ⟨hAB, hA, hA1, hB1⟩, hE', hall, hP, hQ, hleft⟩ := HX.out
          rw [hE']
          have e : P ++ items ++ Q = P ++ (A' ++ y :: B) ++ Q := by rw [hAB, HAy.out]; simp
          rw [e] at hall ⊢
          refine floor_of hall ?_ HB2.out hQ
          have := hA1 y (by rw [HAy.out]; simp)
          grind
    | succ h =>
      obtain ⟨nb, ib, cb, seps, kids, rfl⟩ := Tr.inner t
      obtain ⟨restS, restK, hN, hlS, hlK, hkr, hrk⟩ := mkI_parts hr
      have hch : Chain (Inv h) seps kids lo hi := hv
      have hlen := hch.length
      have hok' := mkI_ok.1 hok
      have hsps := (Chain.seps (fun _ _ _ h => Inv.le h) hch).1
      have n1 := hN.c1
      have HX : Hid ((NodeR w nb ib cb seps.length kids.length (seps.map It.ptr ++ restS) (kids.map (nodeV h) ++ restK) ∧ (∀ s ∈ seps, KR w s) ∧ (∀ c ∈ kids, Rep h w c) ∧ seps.Pairwise (fun a b => a.k ≤ b.k)) ∧ Chain (Inv h) seps kids lo hi ∧ (kids.length = seps.length + 1 ∧ kids.length ≤ 64) ∧ (∀ c ∈ kids, Ok h c 32) ∧ elems H T = P ++ kids.flatMap (elems h) ++ Q ∧ (∀ y ∈ P, y.k ≤ x) ∧ (∀ y ∈ Q, x < y.k) ∧ (geL lo x ∧ ltH x hi) ∧ LeftOf w P u6) := ⟨⟨hN, hkr, hrk, hsps⟩, hch, ⟨hlen, hok'.2.2.1⟩, hok'.2.2.2, hE, hP, hQ, hb, hleft⟩
      clear hr hv hok hE hP hQ hb hleft hN hlS hlK hkr hrk hch hlen hok' hsps
      simp only [mkI_nb]
      go_wp2_with fail
      refine (child_any (w := w.drewN d) (tb := tb) (x := x) HT.out.1.row (HX.out.1.1.node.drewN _) (HX.out.1.1.row.drewN _) (fun s hs => (HX.out.1.2.1 s hs).drewN _) (HT.out.2.drewN _) HX.out.1.2.2.2 (by have := HX.out.2.2.1; omega)).mono ?_
      rintro e w1 ⟨⟨i, rfl, hup⟩, n1', hw1⟩
      rw [World.drewN_drewN] at hw1
      subst hw1
      obtain ⟨S1, S2, K1, c, K2, hS, hK, hi1, hi2, hb1, hb2⟩ := hup.zip HX.out.2.2.1.1
      obtain ⟨nk, hnk⟩ : ∃ nk, nk = kids.length := ⟨_, rfl⟩
      rw [← hnk] at n1
      have hnk2 : kids.length = K1.length + 1 + K2.length := by rw [hK]; simp; omega
      have hik : (i : Int) < (nk : Int) := by omega
      have hi64 : (i : Int) ≤ 64 := by have := HX.out.2.2.1; omega
      have hci : w.cell? ⟨cb, i, none⟩ = some (.pointer (some ⟨nbOf h c, 0, none⟩)) := by
        rw [HX.out.1.1.kid.cell, hK, List.getElem?_append_left (by simp; omega)]
        simp [List.getElem?_append_right, hi2, nodeV]
      obtain ⟨a, b, hcl, hcv, hcr⟩ := Chain.at (I := Inv h) (S1 := S1) (S2 := S2) (K1 := K1) (K2 := K2) (c := c) (lo := lo) (hi := hi) (by have := HX.out.2.1; rw [hS, hK] at this; exact this) (by omega)
      have hx : geL a x ∧ ltH x b := ⟨hcl.bound HX.out.2.2.2.2.2.2.2.1.1 hb1, hcr.bound HX.out.2.2.2.2.2.2.2.1.2 hb2⟩
      have hrel : ∀ dd lv, LeftOf w (P ++ K1.flatMap (elems h)) lv → FloorInv H T x w h lv (.pointer (some ⟨nbOf h c, 0, none⟩)) (w.drewN dd) := fun dd lv hlv => by
        obtain ⟨⟨hN, hkr, hrk, hsps⟩, hch, _, hoks, hE, hP, hQ, hb, hleft⟩ := HX.out
        refine ⟨c, a, b, P ++ K1.flatMap (elems h), K2.flatMap (elems h) ++ Q, dd, rfl, rfl, hrk c (by rw [hK]; simp), hcv, ok_mono (hoks c (by rw [hK]; simp)) 0 (Nat.zero_le _), ?_, fun y hy => ?_, fun y hy => ?_, hx, hlv⟩
        · rw [hE, hK]; simp
        · rcases List.mem_append.1 hy with hy | hy
          · exact hP y hy
          · obtain ⟨ak, rfl, hlt⟩ := hcl.elems_lt (by omega) y hy
            have : ak ≤ x := hx.1
            grind
        · rcases List.mem_append.1 hy with hy | hy
          · obtain ⟨bk, rfl, hge⟩ := hcr.elems_ge y hy
            have : x < bk := hx.2
            grind
          · exact hQ y hy
      have HREL : Hid (∀ dd lv, LeftOf w (P ++ K1.flatMap (elems h)) lv → FloorInv H T x w h lv (.pointer (some ⟨nbOf h c, 0, none⟩)) (w.drewN dd)) := hrel
      by_cases hi0 : i = 0
      · have hK1 : K1 = [] := List.eq_nil_of_length_eq_zero (by omega)
        have HK : Hid (K1 = []) := hK1
        clear hrel hx hcl hcv hcr hup hS hK hi1 hi2 hb1 hb2 hnk2 hnk hK1
        subst hi0
        go_wp2
        go_roundg h
        case measure => exact Nat.lt_succ_self _
        case rel =>
          refine HREL.out _ _ ?_
          rw [HK.out]
          simpa using HX.out.2.2.2.2.2.2.2.2
      · obtain ⟨K0, cl, hKc, hK0⟩ := snoc_of_len (l := K1) (n := K1.length - 1) (by omega)
        obtain ⟨j, hj⟩ : ∃ j, j = K0.length := ⟨_, rfl⟩
        have hK1l : K1.length = K0.length + 1 := by rw [hKc]; simp
        have hcj : w.cell? ⟨cb, j, none⟩ = some (.pointer (some ⟨nbOf h cl, 0, none⟩)) := by
          rw [HX.out.1.1.kid.cell, hK, hKc, List.getElem?_append_left (by simp; omega), hj]
          simp [List.getElem?_append_right, nodeV]
        have hsub : (i : Int) - 1 = (j : Int) := by omega
        have hip : (0 : Int) < (i : Int) := by omega
        have hjk : (j : Int) < (nk : Int) := by omega
        have hjw : IntKind.i64.wrap (j : Int) = (j : Int) := by rw [IntKind.wrap_i64]; omega
        have HL : Hid (LeftOf w (P ++ K1.flatMap (elems h)) (.pointer (some ⟨nbOf h cl, 0, none⟩))) := by
          refine .inr ⟨h, cl, P ++ K0.flatMap (elems h), by rw [hKc]; simp, rfl, HX.out.1.2.2.1 cl (by rw [hK, hKc]; simp), ?_, HX.out.2.2.2.1 cl (by rw [hK, hKc]; simp)⟩
          obtain ⟨S0, s, hSs, hS0⟩ := snoc_of_len (l := S1) (n := S1.length - 1) (by omega)
          rw [hKc, hSs] at hcl
          obtain ⟨a0, _, g2, _⟩ := ChainL.unsnoc (by rw [hSs] at hi1; simp at hi1; omega) hcl
          exact ⟨_, _, g2⟩
        clear hrel hx hcl hcv hcr hup hS hK hi1 hi2 hb1 hb2 hnk2 hnk hi0 hKc hK0 hj hK1l
        go_wp2
        go_roundg h
        case measure => exact Nat.lt_succ_self _
        case rel => exact HREL.out _ _ HL.out
end Go.Proofs.Qxb6615764a
