/-
  The walks of child (34), slices.BinarySearchFunc (35): the two searches.
-/
import Derived.Test.Qxb6615764aTree
namespace Go.Proofs.Qxb6615764a
open Go.RowKit
set_option linter.unusedVariables false
set_option linter.unusedSectionVars false
set_option linter.unusedSimpArgs false
variable [Bd]

/-- The tree's order as a value. -/
def cmpV : Value := .func (.func 23) #[] #[]

/-- What 'child' finds: how many separators lie at or below x. -/
def Upper (L : List It) (x : Key) (c : Nat) : Prop := c ≤ L.length ∧ ∀ q s, L[q]? = some s → (q < c → s.k ≤ x) ∧ (c ≤ q → x < s.k)
/-- What the binary search finds: how many items lie below x. -/
def Lower (L : List It) (x : Key) (c : Nat) : Prop := c ≤ L.length ∧ ∀ q s, L[q]? = some s → (q < c → s.k < x) ∧ (c ≤ q → x ≤ s.k)

theorem upper_step {L : List It} {x : Key} (hs : L.Pairwise (fun a b => a.k ≤ b.k)) {i j h : Nat} {s : It} (hj : j ≤ L.length) (hi : ∀ q s, L[q]? = some s → (q < i → s.k ≤ x) ∧ (j ≤ q → x < s.k)) (h1 : i ≤ h) (h2 : h < j) (hL : L[h]? = some s) :
    (s.k ≤ x → ∀ q s, L[q]? = some s → (q < h + 1 → s.k ≤ x) ∧ (j ≤ q → x < s.k)) ∧ (x < s.k → ∀ q s, L[q]? = some s → (q < i → s.k ≤ x) ∧ (h ≤ q → x < s.k)) := by
  refine ⟨fun hk q t hq => ⟨fun hlt => ?_, (hi q t hq).2⟩, fun hk q t hq => ⟨(hi q t hq).1, fun hle => ?_⟩⟩
  · by_cases e : q = h
    · subst e; rw [hL] at hq; cases hq; exact hk
    · obtain ⟨hq1, hq2⟩ := List.getElem?_eq_some_iff.1 hq
      obtain ⟨hh1, hh2⟩ := List.getElem?_eq_some_iff.1 hL
      have := List.pairwise_iff_getElem.1 hs q h hq1 hh1 (by omega)
      rw [hq2, hh2] at this
      grind
  · by_cases e : q = h
    · subst e; rw [hL] at hq; cases hq; exact hk
    · obtain ⟨hq1, hq2⟩ := List.getElem?_eq_some_iff.1 hq
      obtain ⟨hh1, hh2⟩ := List.getElem?_eq_some_iff.1 hL
      have := List.pairwise_iff_getElem.1 hs h q hh1 hq1 (by omega)
      rw [hq2, hh2] at this
      grind

theorem mid_eq (i j : Nat) (h : i + j ≤ 2000) : IntKind.i64.wrap (IntKind.u64.wrap ((i : Int) + (j : Int)) / 2) = (((i + j) / 2 : Nat) : Int) := by
  rw [IntKind.wrap_i64]
  have : IntKind.u64.wrap ((i : Int) + (j : Int)) = (i : Int) + (j : Int) := by
    rw [IntKind.wrap_u64]; omega
  rw [this]; omega

theorem Calls.quiet_at {P : Program} {f : FuncId} {args : Array Value} {w : World} {k x : Nat} {v : Value} (h : Calls P f args (w.drewN (k + x)) fun e w' => e = .returned v ∧ ∃ n, w' = (w.drewN (k + x)).drewN n) :
    Calls P f args (w.drewN (k + x)) fun e w'' => e = .returned v ∧ ∃ n, w'' = w.drewN (k + n) :=
  h.mono fun e w' ⟨he, n, hn⟩ => ⟨he, x + n, by rw [hn, World.drewN_drewN, Nat.add_assoc]⟩

set_option maxHeartbeats 1000000 in
set_option maxRecDepth 100000 in
theorem child_any {w : World} {tb nb ib xb xo c : Nat} {tr tl cv : Value} {L : List It} {rest : List Value} {x : Key} (hT : RowB w tb 57 [cmpV, tr, tl]) (hN : RowB w nb 62 [.slice (some ⟨ib, 0, none⟩) L.length c, cv])
    (hI : RowB w ib 46 (L.map It.ptr ++ rest)) (hK : ∀ s ∈ L, KR w s) (hx : KAt w ⟨xb, xo, none⟩ x) (hs : L.Pairwise (fun a b => a.k ≤ b.k)) (hl : L.length ≤ 1000) :
    Calls Try.prog 34 #[.pointer (some ⟨tb, 0, none⟩), .pointer (some ⟨nb, 0, none⟩), .pointer (some ⟨xb, xo, none⟩)] w fun e w' => (∃ c, e = .returned (.int .i64 (c : Nat)) ∧ Upper L x c) ∧ ∃ n, w' = w.drewN n := by
  have t0 := hT.cell 0
  have n0 := hN.cell 0
  simp only [List.getElem?_cons_zero] at t0 n0
  unfold cmpV at t0
  have HX : Hid (KAt w ⟨xb, xo, none⟩ x ∧ ∀ s ∈ L, KR w s) := ⟨hx, hK⟩
  have HI : Hid (∀ q s, L[q]? = some s → w.cell? ⟨ib, q, none⟩ = some s.ptr) := fun q s h => by
    rw [hI.cell, List.getElem?_append_left (by simp; exact (List.getElem?_eq_some_iff.1 h).1), List.getElem?_map, h]; rfl
  have HS : Hid (L.Pairwise (fun a b => a.k ≤ b.k)) := hs
  clear hT hN hI hK hx hs
  go_enter Try.func34, Try.ntmps34
  go_wp2
  go_quiet (fail)
  go_wp2
  go_loopw [7, 8] (fun a b wr => ∃ i j k : Nat, i ≤ j ∧ j ≤ L.length ∧ (∀ q s, L[q]? = some s → (q < i → s.k ≤ x) ∧ (j ≤ q → x < s.k)) ∧ a = .int .i64 (i : Int) ∧ b = .int .i64 (j : Int) ∧ wr = w.drewN k) (fun a b _ => (intOf b).toNat - (intOf a).toNat)
  case atStart => exact ⟨0, L.length, _, Nat.zero_le _, Nat.le_refl _, fun q s hq => ⟨fun h => by omega, fun h => by have := (List.getElem?_eq_some_iff.1 hq).1; omega⟩, rfl, rfl, rfl⟩
  case round =>
    obtain ⟨i, j, k, hij, hj, hinv, rfl, rfl, rfl⟩ := hrel
    have HV : Hid (∀ q s, L[q]? = some s → (q < i → s.k ≤ x) ∧ (j ≤ q → x < s.k)) := hinv
    clear hinv
    by_cases hlt : i < j
    · have hlt' : (i : Int) < (j : Int) := by omega
      obtain ⟨h, hh⟩ : ∃ h, h = (i + j) / 2 := ⟨_, rfl⟩
      have hh1 : i ≤ h := by omega
      have hh2 : h < j := by omega
      have hm : ((i : Int) + (j : Int)) / 2 = (h : Int) := by omega
      have hlen : (h : Int) < (L.length : Int) := by omega
      obtain ⟨s, hs⟩ : ∃ s, L[h]? = some s := ⟨_, List.getElem?_eq_getElem (by omega)⟩
      have hc := HI.out h s hs
      unfold It.ptr at hc
      have HS2 : Hid (s ∈ L ∧ L[h]? = some s) := ⟨List.mem_of_getElem? hs, hs⟩
      clear hs hh
      by_cases hcmp : cmpK s.k x ≤ 0
      · go_wp2
        go_quiet (first | (go_at_call 23; exact Calls.quiet_at (order_any ((HX.out.2 s HS2.out.1).kat.drewN _) (HX.out.1.drewN _))))
        go_wp2
        go_roundw
        case rel => exact ⟨h + 1, j, _, by omega, hj, (upper_step HS.out hj HV.out hh1 hh2 HS2.out.2).1 (cmpK_le.1 hcmp), by go_num, rfl, rfl⟩
        case measure => simp [intOf]; omega
      · have hcmp' : 0 < cmpK s.k x := by omega
        go_wp2
        go_quiet (first | (go_at_call 23; exact Calls.quiet_at (order_any ((HX.out.2 s HS2.out.1).kat.drewN _) (HX.out.1.drewN _))))
        go_wp2
        go_roundw
        case rel => exact ⟨i, h, _, hh1, by omega, (upper_step HS.out hj HV.out hh1 hh2 HS2.out.2).2 (cmpK_pos.1 hcmp'), rfl, rfl, by rw [World.drewN_drewN]⟩
        case measure => simp [intOf]; omega
    · go_wp2
      go_ret
      have hji : j = i := by omega
      subst hji
      exact ⟨⟨j, rfl, hj, HV.out⟩, _, rfl⟩

theorem lower_step {L : List It} {x : Key} (hs : L.Pairwise (fun a b => a.k < b.k)) {i j h : Nat} {s : It} (hj : j ≤ L.length) (hi : ∀ q s, L[q]? = some s → (q < i → s.k < x) ∧ (j ≤ q → x ≤ s.k)) (h1 : i ≤ h) (h2 : h < j) (hL : L[h]? = some s) :
    (s.k < x → ∀ q s, L[q]? = some s → (q < h + 1 → s.k < x) ∧ (j ≤ q → x ≤ s.k)) ∧ (x ≤ s.k → ∀ q s, L[q]? = some s → (q < i → s.k < x) ∧ (h ≤ q → x ≤ s.k)) := by
  refine ⟨fun hk q t hq => ⟨fun hlt => ?_, (hi q t hq).2⟩, fun hk q t hq => ⟨(hi q t hq).1, fun hle => ?_⟩⟩
  · by_cases e : q = h
    · subst e; rw [hL] at hq; cases hq; exact hk
    · obtain ⟨hq1, hq2⟩ := List.getElem?_eq_some_iff.1 hq
      obtain ⟨hh1, hh2⟩ := List.getElem?_eq_some_iff.1 hL
      have := List.pairwise_iff_getElem.1 hs q h hq1 hh1 (by omega)
      rw [hq2, hh2] at this
      grind
  · by_cases e : q = h
    · subst e; rw [hL] at hq; cases hq; exact hk
    · obtain ⟨hq1, hq2⟩ := List.getElem?_eq_some_iff.1 hq
      obtain ⟨hh1, hh2⟩ := List.getElem?_eq_some_iff.1 hL
      have := List.pairwise_iff_getElem.1 hs h q hh1 hq1 (by omega)
      rw [hq2, hh2] at this
      grind

/-- Is x there? -/
def foundAt (L : List It) (x : Key) (c : Nat) : Bool := match L[c]? with | some s => decide (s.k = x) | none => false

set_option maxHeartbeats 1000000 in
set_option maxRecDepth 100000 in
theorem search_any {w : World} {ib xb xo c : Nat} {L : List It} {rest : List Value} {x : Key} (hI : RowB w ib 46 (L.map It.ptr ++ rest)) (hK : ∀ s ∈ L, KR w s) (hx : KAt w ⟨xb, xo, none⟩ x) (hs : L.Pairwise (fun a b => a.k < b.k)) (hl : L.length ≤ 1000) :
    Calls Try.prog 35 #[.slice (some ⟨ib, 0, none⟩) L.length c, .pointer (some ⟨xb, xo, none⟩), .func (.func 23) #[] #[]] w fun e w' => (∃ c, e = .returned (.tuple #[.int .i64 (c : Nat), .bool (foundAt L x c)]) ∧ Lower L x c) ∧ ∃ n, w' = w.drewN n := by
  have HX : Hid (KAt w ⟨xb, xo, none⟩ x ∧ ∀ s ∈ L, KR w s) := ⟨hx, hK⟩
  have HI : Hid (∀ q s, L[q]? = some s → w.cell? ⟨ib, q, none⟩ = some s.ptr) := fun q s h => by
    rw [hI.cell, List.getElem?_append_left (by simp; exact (List.getElem?_eq_some_iff.1 h).1), List.getElem?_map, h]; rfl
  have HS : Hid (L.Pairwise (fun a b => a.k < b.k)) := hs
  clear hI hK hx hs
  go_enter Try.func35, Try.ntmps35
  go_wp2
  go_loopw [9, 10] (fun a b wr => ∃ i j k : Nat, i ≤ j ∧ j ≤ L.length ∧ (∀ q s, L[q]? = some s → (q < i → s.k < x) ∧ (j ≤ q → x ≤ s.k)) ∧ a = .int .i64 (i : Int) ∧ b = .int .i64 (j : Int) ∧ wr = w.drewN k) (fun a b _ => (intOf b).toNat - (intOf a).toNat)
  case atStart => exact ⟨0, L.length, 0, Nat.zero_le _, Nat.le_refl _, fun q s hq => ⟨fun h => by omega, fun h => by have := (List.getElem?_eq_some_iff.1 hq).1; omega⟩, rfl, rfl, rfl⟩
  case round =>
    obtain ⟨i, j, k, hij, hj, hinv, rfl, rfl, rfl⟩ := hrel
    have HV : Hid (∀ q s, L[q]? = some s → (q < i → s.k < x) ∧ (j ≤ q → x ≤ s.k)) := hinv
    clear hinv
    by_cases hlt : i < j
    · have hlt' : (i : Int) < (j : Int) := by omega
      obtain ⟨h, hh⟩ : ∃ h, h = (i + j) / 2 := ⟨_, rfl⟩
      have hh1 : i ≤ h := by omega
      have hh2 : h < j := by omega
      have hm : ((i : Int) + (j : Int)) / 2 = (h : Int) := by omega
      have hlen : (h : Int) < (L.length : Int) := by omega
      obtain ⟨s, hs⟩ : ∃ s, L[h]? = some s := ⟨_, List.getElem?_eq_getElem (by omega)⟩
      have hc := HI.out h s hs
      unfold It.ptr at hc
      have HS2 : Hid (s ∈ L ∧ L[h]? = some s) := ⟨List.mem_of_getElem? hs, hs⟩
      clear hs hh
      by_cases hcmp : cmpK s.k x < 0
      · go_wp2_with fail
        refine (order_any ((HX.out.2 s HS2.out.1).kat.drewN _) (HX.out.1.drewN _)).mono ?_
        rintro e w' ⟨rfl, n', rfl⟩
        go_wp2
        go_roundw
        case rel => exact ⟨h + 1, j, _, by omega, hj, (lower_step HS.out hj HV.out hh1 hh2 HS2.out.2).1 (cmpK_neg.1 hcmp), by go_num, rfl, rfl⟩
        case measure => simp [intOf]; omega
      · have hcmp' : 0 ≤ cmpK s.k x := by omega
        go_wp2_with fail
        refine (order_any ((HX.out.2 s HS2.out.1).kat.drewN _) (HX.out.1.drewN _)).mono ?_
        rintro e w' ⟨rfl, n', rfl⟩
        go_wp2
        go_roundw
        case rel => exact ⟨i, h, _, hh1, by omega, (lower_step HS.out hj HV.out hh1 hh2 HS2.out.2).2 (cmpK_ge.1 hcmp'), rfl, rfl, rfl⟩
        case measure => simp [intOf]; omega
    · have hji : j = i := by omega
      subst hji
      by_cases hjl : j < L.length
      · have hjl' : (j : Int) < (L.length : Int) := by omega
        obtain ⟨s, hs⟩ : ∃ s, L[j]? = some s := ⟨_, List.getElem?_eq_getElem (by omega)⟩
        have hc := HI.out j s hs
        unfold It.ptr at hc
        have HS2 : Hid (s ∈ L ∧ L[j]? = some s) := ⟨List.mem_of_getElem? hs, hs⟩
        clear hs
        go_wp2_with fail
        refine (order_any ((HX.out.2 s HS2.out.1).kat.drewN _) (HX.out.1.drewN _)).mono ?_
        rintro e w' ⟨rfl, n', rfl⟩
        go_wp2
        go_ret2
        refine ⟨⟨j, ?_, hj, HV.out⟩, _, rfl⟩
        have : foundAt L x j = decide (cmpK s.k x = 0) := by unfold foundAt; rw [HS2.out.2]; simp [cmpK_zero]
        rw [this]
        rfl
      · go_wp2
        go_ret2
        refine ⟨⟨j, ?_, hj, HV.out⟩, _, rfl⟩
        have : foundAt L x j = false := by unfold foundAt; rw [List.getElem?_eq_none (by omega)]
        rw [this]
        rfl
end Go.Proofs.Qxb6615764a
