/-
  The walks of descend (31) and Descend (19): all items; the last one alone.
-/
import Derived.Test.Qxb6615764aFloor
namespace Go.Proofs.Qxb6615764a
open Go.RowKit Go.Lib
set_option linter.unusedVariables false
set_option linter.unusedSectionVars false
set_option linter.unusedSimpArgs false
variable [Bd]

theorem drop_one {α : Type} {l : List α} {k : Nat} (h : k < l.length) : l.drop k = l[k] :: l.drop (k + 1) := List.drop_eq_getElem_cons h

set_option maxHeartbeats 4000000 in
set_option maxRecDepth 100000 in
theorem descend_all {c1 c2 : Value} {J : List It → World → Prop} {E : List It} {N : Nat}
    (hf : ∀ vs y w, J vs w → y ∈ E → vs.length < N → Calls Try.prog 20 #[.pointer (some ⟨y.p, 0, none⟩), c1, c2] w fun e w' => e = .returned (.bool true) ∧ J (vs ++ [y]) w') :
    ∀ {h : Nat} {t : Tr h} {lo hi : Option Key} (hv : Inv h t lo hi) (hok : Ok h t 0) (hJ : ∀ vs w, J vs w → Rep h w t) (hE : ∀ y ∈ elems h t, y ∈ E) {vs : List It} {w : World} (h0 : J vs w) (hN0 : vs.length + (elems h t).length ≤ N) {tv tov : Value},
      Calls Try.prog 31 #[tv, .pointer (some ⟨nbOf h t, 0, none⟩), tov, .bool false, .func (.func 20) #[] #[c1, c2]] w fun e w' => e = .returned (.bool true) ∧ J (vs ++ (elems h t).reverse) w' := by
  intro h
  induction h with
  | zero =>
    intro t lo hi hv hok hJ hE vs w h0 hN0 tv tov
    obtain ⟨nb, ib, items, rfl⟩ := Tr.leaf t
    have hl64 : items.length ≤ 64 := hok.2
    have hlI : (items.length : Int) ≤ 64 := by omega
    have HJ : Hid (∀ vs w, J vs w → Rep 0 w (mkL nb ib items)) := hJ
    have HE : Hid (∀ y ∈ items, y ∈ E) := hE
    have HNN : Hid (vs.length + items.length ≤ N) := hN0
    clear hN0
    have HF : Hid (∀ vs y w, J vs w → y ∈ E → vs.length < N → Calls Try.prog 20 #[.pointer (some ⟨y.p, 0, none⟩), c1, c2] w fun e w' => e = .returned (.bool true) ∧ J (vs ++ [y]) w') := hf
    have H0 : Hid (J vs w) := h0
    obtain ⟨rest, hN, hI, hlen, hkr⟩ := mkL_parts (hJ vs w h0)
    have n0 := hN.cell 0
    have n1 := hN.cell 1
    simp only [List.getElem?_cons_zero, List.getElem?_cons_succ] at n0 n1
    simp only [mkL_nb]
    clear hN hI hlen hkr hv hok hJ hE h0 hf
    go_enter Try.func31, Try.ntmps31
    go_wp2
    go_loopg [12] items.length (fun k v wr => v = .int .i64 ((k : Int) - 1) ∧ k ≤ items.length ∧ J (vs ++ (items.drop k).reverse) wr)
    case atStart => exact ⟨by go_num, Nat.le_refl _, by simpa using H0.out⟩
    case round =>
      obtain ⟨rfl, hk, hj⟩ := hrel
      obtain ⟨rest, hN, hI, hlen, hkr⟩ := mkL_parts (HJ.out _ _ hj)
      have m0 := hN.cell 0
      have m1 := hN.cell 1
      simp only [List.getElem?_cons_zero, List.getElem?_cons_succ] at m0 m1
      cases gk with
      | zero =>
        have HK : Hid (J (vs ++ items.reverse) wr) := by rw [List.drop_zero] at hj; exact hj
        clear hj hN hI hlen hkr n0 n1
        simp only [show (((0 : Nat) : Int) - 1) = -1 from rfl]
        go_wp2
        go_ret
        exact ⟨rfl, HK.out⟩
      | succ k =>
        have hkl : k < items.length := by omega
        have hcell : wr.cell? ⟨ib, k, none⟩ = some (.pointer (some ⟨(items[k]).p, 0, none⟩)) := by
          rw [hI.cell, List.getElem?_append_left (by simpa using hkl)]; simp [It.ptr, hkl]
        have hkI : (k : Int) < (items.length : Int) := by omega
        have hk64 : (k : Int) ≤ 64 := by omega
        have HK : Hid (J (vs ++ (items.drop (k + 1)).reverse) wr) := hj
        have e : (((k + 1 : Nat) : Int) - 1) = (k : Int) := by omega
        obtain ⟨y, hy⟩ : ∃ y, y = items[k] := ⟨_, rfl⟩
        rw [← hy] at hcell
        have HY : Hid (y = items[k]) := hy
        have HKL : Hid (k < items.length) := hkl
        rw [e]
        clear hj hN hI hlen hkr n0 n1 e hy hk
        go_wp2_with fail
        refine (HF.out _ y _ HK.out (HE.out y (by rw [HY.out]; exact List.getElem_mem _)) (by have := HNN.out; have := HKL.out; simp; omega)).mono ?_
        rintro e w' ⟨rfl, hj'⟩
        have HK' : Hid (J (vs ++ (items.drop (k + 1)).reverse ++ [y]) w') := hj'
        clear hj'
        go_wp2
        go_roundg k
        case measure => exact Nat.lt_succ_self _
        case rel =>
          refine ⟨by go_num, by have := HKL.out; omega, ?_⟩
          have := HK'.out
          rw [drop_one HKL.out, ← HY.out]
          simpa using this
  | succ h ih =>
    intro t lo hi hv hok hJ hE vs w h0 hN0 tv tov
    obtain ⟨nb, ib, cb, seps, kids, rfl⟩ := Tr.inner t
    rw [mkI_ok] at hok
    rw [mkI_inv] at hv
    have hl64 : kids.length ≤ 64 := hok.2.2.1
    have hlI : (kids.length : Int) ≤ 64 := by omega
    have hchi : ∀ c ∈ kids, ∃ lo hi, Inv h c lo hi := fun c hc => by
      obtain ⟨K1, K2, hK⟩ := List.append_of_mem hc
      have hl := hv.length
      rw [hK] at hv
      have e : seps = seps.take K1.length ++ seps.drop K1.length := (List.take_append_drop _ _).symm
      rw [e, show K1 ++ c :: K2 = K1 ++ [c] ++ K2 by simp] at hv
      obtain ⟨a, b, _, hh, _⟩ := Chain.at hv (by simp; rw [hK] at hl; simp at hl; omega)
      exact ⟨a, b, hh⟩
    have HJ : Hid (∀ vs w, J vs w → Rep (h + 1) w (mkI nb ib cb seps kids)) := hJ
    have HE : Hid (∀ c ∈ kids, ∀ y ∈ elems h c, y ∈ E) := fun c hc y hy => hE y (by rw [mkI_elems]; exact List.mem_flatMap.2 ⟨c, hc, hy⟩)
    have HI : Hid (∀ {t : Tr h} {lo hi : Option Key} (hv : Inv h t lo hi) (hok : Ok h t 0) (hJ : ∀ vs w, J vs w → Rep h w t) (hE : ∀ y ∈ elems h t, y ∈ E) {vs : List It} {w : World} (h0 : J vs w) (hN0 : vs.length + (elems h t).length ≤ N) {tv tov : Value},
      Calls Try.prog 31 #[tv, .pointer (some ⟨nbOf h t, 0, none⟩), tov, .bool false, .func (.func 20) #[] #[c1, c2]] w fun e w' => e = .returned (.bool true) ∧ J (vs ++ (elems h t).reverse) w') := @ih
    have HNN : Hid (vs.length + (kids.flatMap (elems h)).length ≤ N) := hN0
    clear hN0
    have HO : Hid ((∀ c ∈ kids, Ok h c 0) ∧ ∀ c ∈ kids, ∃ lo hi, Inv h c lo hi) := ⟨fun c hc => ok_mono (hok.2.2.2 c hc) 0 (Nat.zero_le _), hchi⟩
    have H0 : Hid (J vs w) := h0
    obtain ⟨restS, restK, hN, _⟩ := mkI_parts (hJ vs w h0)
    have n1 := hN.c1
    rw [mkI_elems]
    simp only [mkI_nb]
    clear hN hv hok hJ hE h0 hf ih hchi
    go_enter Try.func31, Try.ntmps31
    go_wp2
    go_loopg [14] kids.length (fun k v wr => v = .int .i64 ((k : Int) - 1) ∧ k ≤ kids.length ∧ J (vs ++ ((kids.drop k).flatMap (elems h)).reverse) wr)
    case atStart => exact ⟨by go_num, Nat.le_refl _, by simpa using H0.out⟩
    case round =>
      obtain ⟨rfl, hk, hj⟩ := hrel
      obtain ⟨restS, restK, hN, hlS, hlK, hkr, hrk⟩ := mkI_parts (HJ.out _ _ hj)
      have m1 := hN.c1
      cases gk with
      | zero =>
        have HK : Hid (J (vs ++ ((kids.drop 0).flatMap (elems h)).reverse) wr) := hj
        clear hj hN hlS hlK hkr hrk n1
        simp only [show (((0 : Nat) : Int) - 1) = -1 from rfl]
        go_wp2
        go_ret
        exact ⟨rfl, by simpa using HK.out⟩
      | succ k =>
        have hkl : k < kids.length := by omega
        obtain ⟨c, hc⟩ : ∃ c, c = kids[k] := ⟨_, rfl⟩
        have hcell : wr.cell? ⟨cb, k, none⟩ = some (.pointer (some ⟨nbOf h c, 0, none⟩)) := by
          rw [hN.kid.cell, List.getElem?_append_left (by simpa using hkl)]; simp [nodeV, hkl, hc]
        have hkI : (k : Int) < (kids.length : Int) := by omega
        have hk64 : (k : Int) ≤ 64 := by omega
        have HK : Hid (J (vs ++ ((kids.drop (k + 1)).flatMap (elems h)).reverse) wr) := hj
        have e : (((k + 1 : Nat) : Int) - 1) = (k : Int) := by omega
        have HC : Hid (c = kids[k] ∧ c ∈ kids ∧ k < kids.length) := ⟨hc, by rw [hc]; exact List.getElem_mem _, hkl⟩
        rw [e]
        clear hj hN hlS hlK hkr hrk n1 e hc hk
        go_wp2_with fail
        obtain ⟨lo', hi', hvc⟩ := HO.out.2 c HC.out.2.1
        refine (HI.out hvc (HO.out.1 c HC.out.2.1) (fun vs w hj => by
          obtain ⟨_, _, _, _, _, _, hrk⟩ := mkI_parts (HJ.out vs w hj)
          exact hrk c HC.out.2.1) (HE.out c HC.out.2.1) HK.out (by
            have h1 := HNN.out
            have h2 : (kids.flatMap (elems h)).length = ((kids.take k).flatMap (elems h)).length + ((elems h c).length + ((kids.drop (k + 1)).flatMap (elems h)).length) := by
              have e : kids = kids.take k ++ c :: kids.drop (k + 1) := by rw [HC.out.1, List.getElem_cons_drop, List.take_append_drop]
              have e2 := congrArg (fun l => (l.flatMap (elems h)).length) e
              simpa using e2
            simp only [List.length_append, List.length_reverse]
            omega)).mono ?_
        rintro e w' ⟨rfl, hj'⟩
        have HK' : Hid (J (vs ++ ((kids.drop (k + 1)).flatMap (elems h)).reverse ++ (elems h c).reverse) w') := hj'
        clear hj' hvc
        go_wp2
        go_roundg k
        case measure => exact Nat.lt_succ_self _
        case rel =>
          refine ⟨by go_num, by have := HC.out; omega, ?_⟩
          have := HK'.out
          rw [drop_one HC.out.2.2, ← HC.out.1, List.flatMap_cons, List.reverse_append]
          simpa using this

/-- close$2: the visitor notes the item and stops. -/
theorem close2_any {w : World} {vb : Nat} {v0 : Value} {a : Option Addr} (hv : RowB w vb 46 [v0]) : Calls Try.prog 25 #[.pointer a, .pointer (some ⟨vb, 0, none⟩)] w fun e w' => e = .returned (.bool false) ∧ w' = w.setCell ⟨vb, 0, none⟩ (.pointer a) := by
  have c0 := hv.cell 0
  have f0 := hv.frozen 0
  simp only [List.getElem?_cons_zero] at c0
  clear hv
  go_enter Try.func25, Try.ntmps25
  go_wp2
  go_ret
  exact ⟨rfl, rfl⟩

set_option maxHeartbeats 4000000 in
set_option maxRecDepth 100000 in
/-- A visitor that stops at once sees the last item. -/
theorem descend_one {w : World} {vb : Nat} {v0 : Value} (hvb : RowB w vb 46 [v0]) :
    ∀ {h : Nat} {t : Tr h} {lo hi : Option Key} (hr : Rep h w t) (hv : Inv h t lo hi) (hok : Ok h t 0) {tv tov : Value},
      Calls Try.prog 31 #[tv, .pointer (some ⟨nbOf h t, 0, none⟩), tov, .bool false, .func (.func 25) #[] #[.pointer (some ⟨vb, 0, none⟩)]] w fun e w' =>
        (elems h t = [] ∧ e = .returned (.bool true) ∧ w' = w) ∨ (∃ y E', elems h t = E' ++ [y] ∧ e = .returned (.bool false) ∧ w' = w.setCell ⟨vb, 0, none⟩ (.pointer (some ⟨y.p, 0, none⟩))) := by
  intro h
  have HV : Hid (RowB w vb 46 [v0]) := hvb
  clear hvb
  induction h with
  | zero =>
    intro t lo hi hr hv hok tv tov
    obtain ⟨nb, ib, items, rfl⟩ := Tr.leaf t
    have hlI : (items.length : Int) ≤ 64 := by have : items.length ≤ 64 := hok.2; omega
    obtain ⟨rest, hN, hI, hlen, hkr⟩ := mkL_parts hr
    rw [mkL_elems]
    by_cases he : items = []
    · subst he
      have n0 := hN.cell 0
      have n1 := hN.cell 1
      simp only [List.getElem?_cons_zero, List.getElem?_cons_succ, List.length_nil] at n0 n1
      simp only [mkL_nb]
      clear hr hv hok hN hI hlen hkr
      go_enter Try.func31, Try.ntmps31
      go_wp2
      go_loopg [12] 0 (fun k v wr => v = .int .i64 (-1) ∧ wr = w)
      case atStart => exact ⟨by go_num, rfl⟩
      case round =>
        obtain ⟨rfl, hw⟩ := hrel
        obtain rfl := hw.symm
        go_wp2
        go_ret
        first | exact .inl ⟨rfl, rfl, rfl⟩ | exact ⟨rfl, rfl⟩ | simp
    · obtain ⟨I0, y, hIy, hI0⟩ := snoc_of_len (l := items) (n := items.length - 1) (by have := List.length_pos_iff.2 he; omega)
      obtain ⟨nl, hnl⟩ : ∃ nl, nl = items.length := ⟨_, rfl⟩
      obtain ⟨ml, hml⟩ : ∃ ml, ml = I0.length := ⟨_, rfl⟩
      rw [← hnl] at hN hlI
      have n0 := hN.cell 0
      have n1 := hN.cell 1
      simp only [List.getElem?_cons_zero, List.getElem?_cons_succ] at n0 n1
      have hcell : w.cell? ⟨ib, ml, none⟩ = some (.pointer (some ⟨y.p, 0, none⟩)) := by rw [hI.cell, hIy, hml]; simp [It.ptr]
      have hsub : (nl : Int) - 1 = (ml : Int) := by have := List.length_pos_iff.2 he; omega
      have hlt : (ml : Int) < (nl : Int) := by omega
      have hmw : IntKind.i64.wrap (ml : Int) = (ml : Int) := by rw [IntKind.wrap_i64]; omega
      have HY : Hid (items = I0 ++ [y]) := hIy
      simp only [mkL_nb]
      clear hr hv hok hN hI hlen hkr he hIy hI0 hnl hml
      go_enter Try.func31, Try.ntmps31
      go_wp2
      go_loopg [12] 0 (fun k v wr => v = .int .i64 (ml : Int) ∧ wr = w)
      case atStart => exact ⟨rfl, rfl⟩
      case round =>
        obtain ⟨rfl, hw⟩ := hrel
        obtain rfl := hw.symm
        go_wp2_with fail
        refine (close2_any HV.out).mono ?_
        rintro e w' ⟨rfl, rfl⟩
        go_wp2
        go_ret
        exact .inr ⟨y, I0, HY.out, rfl, rfl⟩
  | succ h ih =>
    intro t lo hi hr hv hok tv tov
    obtain ⟨nb, ib, cb, seps, kids, rfl⟩ := Tr.inner t
    rw [mkI_ok] at hok
    rw [mkI_inv] at hv
    obtain ⟨restS, restK, hN, hlS, hlK, hkr, hrk⟩ := mkI_parts hr
    obtain ⟨K0, c, hKc, hK0⟩ := snoc_of_len (l := kids) (n := kids.length - 1) (by omega)
    have hvc : ∃ lo hi, Inv h c lo hi := by
      have hll := hv.length
      rw [hKc] at hv hll
      rw [show seps = seps ++ [] by simp, show K0 ++ [c] = K0 ++ [c] ++ [] by simp] at hv
      obtain ⟨a, b, _, hh, _⟩ := Chain.at hv (by simp at hll; omega)
      exact ⟨a, b, hh⟩
    obtain ⟨nl, hnl⟩ : ∃ nl, nl = kids.length := ⟨_, rfl⟩
    obtain ⟨ml, hml⟩ : ∃ ml, ml = K0.length := ⟨_, rfl⟩
    rw [← hnl] at hN
    have n1 := hN.c1
    have hcell : w.cell? ⟨cb, ml, none⟩ = some (.pointer (some ⟨nbOf h c, 0, none⟩)) := by rw [hN.kid.cell, hKc, hml]; simp [nodeV]
    have hsub : (nl : Int) - 1 = (ml : Int) := by omega
    have hlt : (ml : Int) < (nl : Int) := by omega
    have hlI : (nl : Int) ≤ 64 := by omega
    have hmw : IntKind.i64.wrap (ml : Int) = (ml : Int) := by rw [IntKind.wrap_i64]; omega
    have HI : Hid (∀ {t : Tr h} {lo hi : Option Key} (hr : Rep h w t) (hv : Inv h t lo hi) (hok : Ok h t 0) {tv tov : Value},
      Calls Try.prog 31 #[tv, .pointer (some ⟨nbOf h t, 0, none⟩), tov, .bool false, .func (.func 25) #[] #[.pointer (some ⟨vb, 0, none⟩)]] w fun e w' =>
        (elems h t = [] ∧ e = .returned (.bool true) ∧ w' = w) ∨ (∃ y E', elems h t = E' ++ [y] ∧ e = .returned (.bool false) ∧ w' = w.setCell ⟨vb, 0, none⟩ (.pointer (some ⟨y.p, 0, none⟩)))) := @ih
    have HC : Hid (kids = K0 ++ [c] ∧ Rep h w c ∧ Ok h c 32 ∧ ∃ lo hi, Inv h c lo hi) := ⟨hKc, hrk c (by rw [hKc]; simp), hok.2.2.2 c (by rw [hKc]; simp), hvc⟩
    rw [mkI_elems]
    simp only [mkI_nb]
    clear hr hv hok hN hlS hlK hkr hrk hKc hK0 hvc hnl hml ih
    go_enter Try.func31, Try.ntmps31
    go_wp2
    go_loopg [14] 0 (fun k v wr => v = .int .i64 (ml : Int) ∧ wr = w)
    case atStart => exact ⟨rfl, rfl⟩
    case round =>
      obtain ⟨rfl, hw⟩ := hrel
      obtain rfl := hw.symm
      go_wp2_with fail
      obtain ⟨lo', hi', hvc⟩ := HC.out.2.2.2
      refine (HI.out HC.out.2.1 hvc (ok_mono HC.out.2.2.1 0 (Nat.zero_le _))).mono ?_
      rintro e w' (⟨h1, _, _⟩ | ⟨y, E', h1, rfl, rfl⟩)
      · exact absurd h1 (elems_ne HC.out.2.2.1)
      · have HY : Hid (elems h c = E' ++ [y]) := h1
        clear h1 hvc
        go_wp2
        go_ret
        refine .inr ⟨y, K0.flatMap (elems h) ++ E', ?_, rfl, rfl⟩
        rw [HC.out.1, List.flatMap_append, List.flatMap_cons, List.flatMap_nil, List.append_nil, HY.out, List.append_assoc]

set_option maxHeartbeats 1000000 in
/-- Descend, at a visitor that stops at once. -/
theorem Descend_one {w : World} {tb H vb : Nat} {T : Tr H} {l : Int} {v0 : Value} (hT : TreeR w tb H T l) (hvb : RowB w vb 46 [v0]) :
    Calls Try.prog 19 #[.pointer (some ⟨tb, 0, none⟩), .func (.func 25) #[] #[.pointer (some ⟨vb, 0, none⟩)]] w fun e w' => e = .returned (.tuple #[]) ∧ ((elems H T = [] ∧ w' = w) ∨ (∃ y E', elems H T = E' ++ [y] ∧ w' = w.setCell ⟨vb, 0, none⟩ (.pointer (some ⟨y.p, 0, none⟩)))) := by
  have t1 := hT.row.cell 1
  simp only [List.getElem?_cons_zero, List.getElem?_cons_succ] at t1
  unfold nodeV at t1
  have HT : Hid (TreeR w tb H T l ∧ RowB w vb 46 [v0]) := ⟨hT, hvb⟩
  clear hT hvb
  go_enter Try.func19, Try.ntmps19
  go_wp2_with fail
  refine (descend_one HT.out.2 HT.out.1.rep HT.out.1.inv HT.out.1.ok).mono ?_
  rintro e w' (⟨h1, rfl, hw⟩ | ⟨y, E', h1, rfl, hw⟩)
  · have HH : Hid (elems H T = [] ∧ w' = w) := ⟨h1, hw⟩
    clear h1 hw
    go_wp2
    go_end0
    exact ⟨rfl, .inl HH.out⟩
  · have HH : Hid (elems H T = E' ++ [y] ∧ w' = w.setCell ⟨vb, 0, none⟩ (.pointer (some ⟨y.p, 0, none⟩))) := ⟨h1, hw⟩
    clear h1 hw
    go_wp2
    go_end0
    exact ⟨rfl, .inr ⟨y, E', HH.out⟩⟩
set_option maxHeartbeats 1000000 in
/-- Descend, at a visitor that goes on. -/
theorem Descend_all {w : World} {tb H : Nat} {T : Tr H} {l : Int} {c1 c2 : Value} {J : List It → World → Prop} (hT : TreeR w tb H T l)
    (hf : ∀ vs y w, J vs w → y ∈ elems H T → vs.length < (elems H T).length → Calls Try.prog 20 #[.pointer (some ⟨y.p, 0, none⟩), c1, c2] w fun e w' => e = .returned (.bool true) ∧ J (vs ++ [y]) w') (hJ : ∀ vs w, J vs w → Rep H w T) (h0 : J [] w) :
    Calls Try.prog 19 #[.pointer (some ⟨tb, 0, none⟩), .func (.func 20) #[] #[c1, c2]] w fun e w' => e = .returned (.tuple #[]) ∧ J (elems H T).reverse w' := by
  have t1 := hT.row.cell 1
  simp only [List.getElem?_cons_zero, List.getElem?_cons_succ] at t1
  unfold nodeV at t1
  have HT : Hid (TreeR w tb H T l ∧ (∀ vs y w, J vs w → y ∈ elems H T → vs.length < (elems H T).length → Calls Try.prog 20 #[.pointer (some ⟨y.p, 0, none⟩), c1, c2] w fun e w' => e = .returned (.bool true) ∧ J (vs ++ [y]) w') ∧ (∀ vs w, J vs w → Rep H w T) ∧ J [] w) := ⟨hT, hf, hJ, h0⟩
  clear hT hf hJ h0
  go_enter Try.func19, Try.ntmps19
  go_wp2_with fail
  refine (descend_all HT.out.2.1 HT.out.1.inv HT.out.1.ok HT.out.2.2.1 (fun y hy => hy) HT.out.2.2.2 (by simp)).mono ?_
  rintro e w' ⟨rfl, hj⟩
  have HH : Hid (J ([] ++ (elems H T).reverse) w') := hj
  clear hj
  go_wp2
  go_end0
  exact ⟨rfl, HH.out⟩
end Go.Proofs.Qxb6615764a
