/-
  The walk of zzCloneStretches (8).
-/
import Derived.Test.Qxb6615764aClone
namespace Go.Proofs.Qxb6615764a
open Go.RowKit
set_option linter.unusedVariables false
set_option linter.unusedSimpArgs false
set_option linter.unusedSectionVars false

@[go_sem] theorem eql22 (w : World) (a : Option Addr) (n c : Nat) : (binOp .eql 22 (.slice a n c) (.slice none 0 0)).run Try.prog w = .ok (.bool a.isNone) w := Lib.run_eql_slice_nil w 22 _ a n c 0 0 Try.underlying22
theorem Try.info30 : (Try.prog.info? 30).map (fun i => (i.zero, i.size, i.bytes)) = some (some (.agg #[.slice none 0 0, .slice none 0 0]), 2, 48) := by kernel_rfl
theorem make22 (w : World) (n : Nat) (hn : n ≤ 1048576) : ∃ cs : Array Value, cs.size = n * 2 ∧ (Instr.makeSlice 22 (.int .i64 (n : Int)) (.int .i64 (n : Int))).run Try.prog w = .ok (.slice (some ⟨w.heap.size, 0, none⟩) n n) (w.alloc (.cells cs 30)) := by
  obtain ⟨i0, hi, hz0, hz1, hz2⟩ := info_parts Try.info30
  have := run_makeSlice (P := Try.prog) w 22 30 i0 _ Try.underlying22 hi hz0 .i64 .i64 n n (by omega) (by omega) (by rw [hz1]; omega) (by rw [hz2]; omega) (by omega)
  rw [hz1, Int.toNat_natCast] at this
  exact ⟨_, size_madeCells _ _, this⟩
/-- A []Stretch of our own, its bytes in blocks of bytes. -/
def StsY (w : World) (v : Value) (L : List Iv) : Prop :=
  ∃ a c, v = .slice a L.length c ∧ (L ≠ [] → ∃ b, a = some ⟨b, 0, none⟩ ∧ ∀ j r, L[j]? = some r → ∃ fv tv, w.cell? ⟨b, j * 2, none⟩ = some fv ∧ w.cell? ⟨b, j * 2 + 1, none⟩ = some tv ∧ Bs w fv r.1 ∧ Bnd w tv r.2 ∧ By w fv ∧ By w tv)
def CSPost (w : World) (L : List Iv) (e : Ending) (w' : World) : Prop := ∃ v', e = .returned v' ∧ StsY w' v' L ∧ Kep (fun _ => False) w w'
def CSInv (w : World) (cb n : Nat) (L : List Iv) (i : Nat) (wr : World) : Prop :=
  w.heap.size ≤ cb ∧ Kep (fun _ => False) w wr ∧ ∃ cur, RowB wr cb 30 cur ∧ cur.length = n * 2 ∧ ∀ j r, j < i → L[j]? = some r → ∃ fv tv, cur[j * 2]? = some fv ∧ cur[j * 2 + 1]? = some tv ∧ Bs wr fv r.1 ∧ Bnd wr tv r.2 ∧ By wr fv ∧ By wr tv
theorem byN {w w' : World} {v : Value} (h : By w v) (k : Kep (fun _ => False) w w') : By w' v := fun b hb => by
  obtain ⟨cur, hr⟩ := h b hb
  exact ⟨cur, hr.kep k id⟩
theorem by_ne {w : World} {v : Value} {cb : Nat} {cur : List Value} (h : By w v) (hc : RowB w cb 30 cur) : ∀ b, blockOf v = some b → b ≠ cb := fun b hb e => by
  obtain ⟨c2, hr⟩ := h b hb
  exact row_ne hr hc (by decide) e
theorem cs_step {w wr w3 : World} {cb n : Nat} {L : List Iv} {i : Nat} {r : Iv} {cur : List Value} {x0 x1 fv tv : Value} (h : CSInv w cb n L i wr ∧ RowB wr cb 30 cur) (hx0 : cur[i * 2]? = some x0) (hx1 : cur[i * 2 + 1]? = some x1) (hr : L[i]? = some r) (k : Kep (fun _ => False) wr w3) (hf : Bs w3 fv r.1) (ht : Bnd w3 tv r.2) (yf : By w3 fv) (yt : By w3 tv) :
    CSInv w cb n L (i + 1) ((w3.setCell ⟨cb, i * 2, none⟩ fv).setCell ⟨cb, i * 2 + 1, none⟩ tv) := by
  obtain ⟨⟨h1, h2, cur', h3, h4, h5⟩, h6⟩ := h
  have ec : cur' = cur := by
    unfold RowB at h3 h6
    rw [h3] at h6
    injection h6 with h6
    injection h6 with h6 _ _
    simpa using h6
  subst ec
  have h30 := h3.kep k id
  have s1 : RowB (w3.setCell ⟨cb, i * 2, none⟩ fv) cb 30 (cur'.set (i * 2) fv) := by
    have := RowB.setCells [fv] (i * 2) w3 cur' h30 (by have := (List.getElem?_eq_some_iff.1 hx0).1; simp; omega)
    have e : cur'.take (i * 2) ++ [fv] ++ cur'.drop (i * 2 + [fv].length) = cur'.set (i * 2) fv := by
      rw [List.set_eq_take_append_cons_drop, if_pos (List.getElem?_eq_some_iff.1 hx0).1]; simp
    rw [e] at this; exact this
  have s2 : RowB ((w3.setCell ⟨cb, i * 2, none⟩ fv).setCell ⟨cb, i * 2 + 1, none⟩ tv) cb 30 ((cur'.set (i * 2) fv).set (i * 2 + 1) tv) := by
    have := RowB.setCells [tv] (i * 2 + 1) _ _ s1 (by have := (List.getElem?_eq_some_iff.1 hx1).1; simp; omega)
    have e : (cur'.set (i * 2) fv).take (i * 2 + 1) ++ [tv] ++ (cur'.set (i * 2) fv).drop (i * 2 + 1 + [tv].length) = (cur'.set (i * 2) fv).set (i * 2 + 1) tv := by
      generalize hcc : cur'.set (i * 2) fv = cc
      have hl : i * 2 + 1 < cc.length := by rw [← hcc, List.length_set]; exact (List.getElem?_eq_some_iff.1 hx1).1
      rw [List.set_eq_take_append_cons_drop, if_pos hl]; simp
    rw [e] at this; exact this
  have kS : Kep (fun b => b = cb) w3 ((w3.setCell ⟨cb, i * 2, none⟩ fv).setCell ⟨cb, i * 2 + 1, none⟩ tv) := (kep_set _ _ _ _).trans (kep_set _ _ _ _) (fun _ _ h => h)
  have keepBs : ∀ v k, Bs w3 v k → By w3 v → Bs ((w3.setCell ⟨cb, i * 2, none⟩ fv).setCell ⟨cb, i * 2 + 1, none⟩ tv) v k := fun v k hb hy => hb.same fun b hbl => by
    obtain ⟨c2, hr2⟩ := hy b hbl
    exact kS.block b hr2.lt (by_ne hy h30 b hbl)
  have keepBnd : ∀ v u, Bnd w3 v u → By w3 v → Bnd ((w3.setCell ⟨cb, i * 2, none⟩ fv).setCell ⟨cb, i * 2 + 1, none⟩ tv) v u := fun v u hb hy => hb.same fun b hbl => by
    obtain ⟨c2, hr2⟩ := hy b hbl
    exact kS.block b hr2.lt (by_ne hy h30 b hbl)
  have keepBy : ∀ v, By w3 v → By ((w3.setCell ⟨cb, i * 2, none⟩ fv).setCell ⟨cb, i * 2 + 1, none⟩ tv) v := fun v hy b hbl => by
    obtain ⟨c2, hr2⟩ := hy b hbl
    exact ⟨c2, hr2.kep kS (by_ne hy h30 b hbl)⟩
  refine ⟨h1, (h2.trans k (fun _ _ h => h)).trans kS (fun b hb e => by have e2 : b = cb := e; omega), _, s2, by simpa using h4, fun j r' hj hr' => ?_⟩
  by_cases e : j = i
  · subst e
    rw [hr] at hr'
    injection hr' with hr'
    subst hr'
    have l1 := (List.getElem?_eq_some_iff.1 hx0).1
    have l2 := (List.getElem?_eq_some_iff.1 hx1).1
    exact ⟨fv, tv, by rw [List.getElem?_set_ne (by omega), List.getElem?_set_self l1], by rw [List.getElem?_set_self (by simpa using l2)], keepBs _ _ hf yf, keepBnd _ _ ht yt, keepBy _ yf, keepBy _ yt⟩
  · obtain ⟨gf, gt, g1, g2, g3, g4, g5, g6⟩ := h5 j r' (by omega) hr'
    exact ⟨gf, gt, by rw [List.getElem?_set_ne (by omega), List.getElem?_set_ne (by omega)]; exact g1, by rw [List.getElem?_set_ne (by omega), List.getElem?_set_ne (by omega)]; exact g2, keepBs _ _ (g3.keepN k) (byN g5 k), keepBnd _ _ (g4.keepN k) (byN g6 k), keepBy _ (byN g5 k), keepBy _ (byN g6 k)⟩

set_option maxHeartbeats 4000000 in
set_option maxRecDepth 100000 in
theorem zzCS_any {w : World} {v : Value} {L : List Iv} (hv : Sts w v L) (hs : Small L) : Calls Try.prog 8 #[v] w fun e w' => CSPost w L e w' := by
  obtain ⟨a, c, rfl, hnil, hL⟩ := hv
  obtain ⟨n, hn⟩ : ∃ n, n = L.length := ⟨_, rfl⟩
  rw [← hn]
  have hnI : (n : Int) ≤ 1048576 := by have := hs.1; omega
  cases a with
  | none =>
    have HL : Hid (L = []) := (hnil rfl).2
    clear hL hs hnil
    go_enter Try.func8, Try.ntmps8
    go_wp2
    go_ret
    refine ⟨_, rfl, ⟨none, 0, by rw [HL.out]; rfl, fun h => absurd HL.out h⟩, Kep.refl _ _⟩
  | some ad =>
    obtain ⟨cs, hcs, hmk⟩ := make22 w n (by omega)
    have HL : Hid ((L ≠ [] → ∃ b o, some ad = some ⟨b, o, none⟩ ∧ ∀ j r, L[j]? = some r → ∃ fv tv, w.cell? ⟨b, o + j * 2, none⟩ = some fv ∧ w.cell? ⟨b, o + j * 2 + 1, none⟩ = some tv ∧ Bs w fv r.1 ∧ Bnd w tv r.2) ∧ n = L.length ∧ Small L) := ⟨hL, hn, hs⟩
    obtain ⟨cb, hcb⟩ : ∃ cb, cb = w.heap.size := ⟨_, rfl⟩
    have HI : Hid (CSInv w cb n L 0 (w.alloc (.cells cs 30))) := ⟨by omega, Kep.alloc' _ _, cs.toList, by rw [hcb]; exact row_newA w 30 cs, by simpa using hcs, fun j r hj => by omega⟩
    rw [← hcb] at hmk
    have HCB : Hid (cb = w.heap.size) := hcb
    clear hL hs hn hcs hcb hnil
    go_enter Try.func8, Try.ntmps8
    go_wp2
    generalize w.alloc (.cells cs 30) = w1 at *
    go_loopg [4] n (fun k q wr => ∃ i : Nat, i ≤ n ∧ k = n - i ∧ q = .int .i64 (i : Int) ∧ CSInv w cb n L i wr)
    case atStart => exact ⟨0, Nat.zero_le _, rfl, rfl, HI.out⟩
    case round =>
      obtain ⟨i, hi, rfl, rfl, hinv⟩ := hrel
      by_cases hin : i < n
      · have hinI : (i : Int) < (n : Int) := by omega
        obtain ⟨b, o, ha, hc⟩ := HL.out.1 (by intro e; have := HL.out.2.1; rw [e] at this; simp at this; omega)
        injection ha with ha
        subst ha
        obtain ⟨r, fa, fc, ta, tc, h1, h2, h3, h4, h5⟩ := Sts.at hc (by have := HL.out.2.1; omega : i < L.length)
        have hsm := HL.out.2.2.2 r (List.mem_of_getElem? h1)
        obtain ⟨lf, hlf⟩ : ∃ lf, lf = r.1.length := ⟨_, rfl⟩
        obtain ⟨lt, hlt⟩ : ∃ lt, lt = bdLen r.2 := ⟨_, rfl⟩
        rw [← hlf] at h2 h4
        rw [← hlt] at h3 h5
        have hk0 : Kep (fun _ => False) w wr := hinv.2.1
        have hinv' := hinv
        obtain ⟨_, _, cur, hrow, hlen, _⟩ := hinv'
        obtain ⟨x0, hx0⟩ : ∃ x, cur[i * 2]? = some x := ⟨cur[i * 2]'(by omega), by simp <;> omega⟩
        obtain ⟨x1, hx1⟩ : ∃ x, cur[i * 2 + 1]? = some x := ⟨cur[i * 2 + 1]'(by omega), by simp <;> omega⟩
        have g1 := (hk0.cell (World.block_lt_of_cell? _ _ h2) id).trans h2
        have g2 := (hk0.cell (World.block_lt_of_cell? _ _ h3) id).trans h3
        have HF : Hid (Bs wr (.slice fa lf fc) r.1 ∧ Bnd wr (.slice ta lt tc) r.2 ∧ r.1.length ≤ 1048576 ∧ bdLen r.2 ≤ 1048576) := ⟨h4.keepN hk0, h5.keepN hk0, hsm.1, hsm.2⟩
        have HC : Hid (RowB wr cb 30 cur ∧ True) := ⟨hrow, trivial⟩
        have HX : Hid (cur[i * 2]? = some x0 ∧ cur[i * 2 + 1]? = some x1) := ⟨hx0, hx1⟩
        have HR : Hid (L[i]? = some r) := h1
        have HCS : Hid (CSInv w cb n L i wr ∧ RowB wr cb 30 cur) := ⟨hinv, hrow⟩
        have HBC : Hid (cb = w.heap.size ∧ b < w.heap.size) := ⟨HCB.out, World.block_lt_of_cell? _ _ h2⟩
        clear h1 h2 h3 h4 h5 hc hsm hlf hlt hk0 hinv hrow hlen hx0 hx1 hmk
        go_upto_region 7 with fail
        refine wp_region_noPanic ?_
        refine wp_region_held_drew (S := fun w' => w'.cell? ⟨b, o + i * 2, none⟩ = some (.slice fa lf fc) ∧ w'.cell? ⟨b, o + i * 2 + 1, none⟩ = some (.slice ta lt tc)) (by kernel_rfl) ⟨g1, g2⟩ (fun hHeld => ?_)
        refine wpAnyH_take (i := 0) (v := .slice (some ⟨cb, 0, none⟩) n n) rfl (by kernel_rfl) (by kernel_rfl) (by kernel_rfl) (fun _ _ _ h => h) (Or.inl ⟨by rfl, fun w' hSw => by kernel_rfl⟩) hHeld ?_
        try simp only [Act.put, List.getElem_toArray, List.getElem_cons_succ, List.getElem_cons_zero, List.setIfInBounds_toArray, List.set_cons_zero, List.set_cons_succ]
        refine wpAnyH_take (i := 1) (v := .int .i64 (i : Int)) rfl (by kernel_rfl) (by kernel_rfl) (by kernel_rfl) (fun _ _ _ h => h) (Or.inl ⟨by rfl, fun w' hSw => by kernel_rfl⟩) hHeld ?_
        try simp only [Act.put, List.getElem_toArray, List.getElem_cons_succ, List.getElem_cons_zero, List.setIfInBounds_toArray, List.set_cons_zero, List.set_cons_succ]
        refine wpAnyH_take (i := 2) (v := .slice (some ⟨b, o, none⟩) n c) rfl (by kernel_rfl) (by kernel_rfl) (by kernel_rfl) (fun _ _ _ h => h) (Or.inl ⟨by rfl, fun w' hSw => by kernel_rfl⟩) hHeld ?_
        try simp only [Act.put, List.getElem_toArray, List.getElem_cons_succ, List.getElem_cons_zero, List.setIfInBounds_toArray, List.set_cons_zero, List.set_cons_succ]
        refine wpAnyH_take (i := 3) (v := .int .i64 (i : Int)) rfl (by kernel_rfl) (by kernel_rfl) (by kernel_rfl) (fun _ _ _ h => h) (Or.inl ⟨by rfl, fun w' hSw => by kernel_rfl⟩) hHeld ?_
        try simp only [Act.put, List.getElem_toArray, List.getElem_cons_succ, List.getElem_cons_zero, List.setIfInBounds_toArray, List.set_cons_zero, List.set_cons_succ]
        refine wpAnyH_take (i := 4) (v := .pointer (some ⟨b, o + i * 2, none⟩)) rfl (by kernel_rfl) (by kernel_rfl) (by kernel_rfl) (fun _ _ _ h => h) (Or.inl ⟨by rfl, fun w' hSw => by go_simp⟩) hHeld ?_
        try simp only [Act.put, List.getElem_toArray, List.getElem_cons_succ, List.getElem_cons_zero, List.setIfInBounds_toArray, List.set_cons_zero, List.set_cons_succ]
        refine wpAnyH_take (i := 5) (v := .pointer (some ⟨b, o + i * 2, none⟩)) rfl (by kernel_rfl) (by kernel_rfl) (by kernel_rfl) (fun _ _ _ h => h) (Or.inl ⟨by rfl, fun w' hSw => by go_simp⟩) hHeld ?_
        try simp only [Act.put, List.getElem_toArray, List.getElem_cons_succ, List.getElem_cons_zero, List.setIfInBounds_toArray, List.set_cons_zero, List.set_cons_succ]
        refine wpAnyH_take (i := 6) (v := .slice fa lf fc) rfl (by kernel_rfl) (by kernel_rfl) (by kernel_rfl) (fun _ _ _ h => h) (Or.inl ⟨by rfl, fun w' hSw => by (have h := hSw.1; go_simp)⟩) hHeld ?_
        try simp only [Act.put, List.getElem_toArray, List.getElem_cons_succ, List.getElem_cons_zero, List.setIfInBounds_toArray, List.set_cons_zero, List.set_cons_succ]
        refine wpAnyH_take (i := 8) (v := .slice (some ⟨b, o, none⟩) n c) rfl (by kernel_rfl) (by kernel_rfl) (by kernel_rfl) (fun _ _ _ h => h) (Or.inl ⟨by rfl, fun w' hSw => by kernel_rfl⟩) hHeld ?_
        try simp only [Act.put, List.getElem_toArray, List.getElem_cons_succ, List.getElem_cons_zero, List.setIfInBounds_toArray, List.set_cons_zero, List.set_cons_succ]
        refine wpAnyH_take (i := 9) (v := .int .i64 (i : Int)) rfl (by kernel_rfl) (by kernel_rfl) (by kernel_rfl) (fun _ _ _ h => h) (Or.inl ⟨by rfl, fun w' hSw => by kernel_rfl⟩) hHeld ?_
        try simp only [Act.put, List.getElem_toArray, List.getElem_cons_succ, List.getElem_cons_zero, List.setIfInBounds_toArray, List.set_cons_zero, List.set_cons_succ]
        refine wpAnyH_take (i := 10) (v := .pointer (some ⟨b, o + i * 2, none⟩)) rfl (by kernel_rfl) (by kernel_rfl) (by kernel_rfl) (fun _ _ _ h => h) (Or.inl ⟨by rfl, fun w' hSw => by go_simp⟩) hHeld ?_
        try simp only [Act.put, List.getElem_toArray, List.getElem_cons_succ, List.getElem_cons_zero, List.setIfInBounds_toArray, List.set_cons_zero, List.set_cons_succ]
        refine wpAnyH_take (i := 11) (v := .pointer (some ⟨b, o + i * 2 + 1, none⟩)) rfl (by kernel_rfl) (by kernel_rfl) (by kernel_rfl) (fun _ _ _ h => h) (Or.inl ⟨by rfl, fun w' hSw => by go_simp⟩) hHeld ?_
        try simp only [Act.put, List.getElem_toArray, List.getElem_cons_succ, List.getElem_cons_zero, List.setIfInBounds_toArray, List.set_cons_zero, List.set_cons_succ]
        refine wpAnyH_take (i := 12) (v := .slice ta lt tc) rfl (by kernel_rfl) (by kernel_rfl) (by kernel_rfl) (fun _ _ _ h => h) (Or.inl ⟨by rfl, fun w' hSw => by (have h := hSw.2; go_simp)⟩) hHeld ?_
        try simp only [Act.put, List.getElem_toArray, List.getElem_cons_succ, List.getElem_cons_zero, List.setIfInBounds_toArray, List.set_cons_zero, List.set_cons_succ]
        refine wpAnyH_ready (rs := [7]) (by kernel_rfl) (by simp) ?_
        refine AllReadyH.cons rfl (fun K hK => ?_) AllReadyH.nil
        go_simp
        refine Calls.mono (zzClone_from (w := wr.drew) (HF.out.1.drewN 1) HF.out.2.2.1) ?_
        rintro e w2 ⟨⟨na, nn, nc, rfl⟩, hb1, k1⟩
        obtain ⟨b1, y1⟩ := hb1 _ rfl
        have hs2 : w2.cell? ⟨b, o + i * 2, none⟩ = some (.slice fa lf fc) ∧ w2.cell? ⟨b, o + i * 2 + 1, none⟩ = some (.slice ta lt tc) := ⟨(k1.cell (World.block_lt_of_cell? _ _ hHeld.1) id).trans hHeld.1, (k1.cell (World.block_lt_of_cell? _ _ hHeld.2) id).trans hHeld.2⟩
        refine hK.out _ _ hs2 (fun hHeld2 => ?_)
        have HV : Hid (Bs w2 (.slice na nn nc) r.1 ∧ By w2 (.slice na nn nc) ∧ Kep (fun _ => False) wr.drew w2) := ⟨b1, y1, k1⟩
        clear hK hHeld hb1 b1 y1 k1 hs2
        try simp only [Act.put, List.getElem_toArray, List.getElem_cons_succ, List.getElem_cons_zero, List.setIfInBounds_toArray, List.set_cons_zero, List.set_cons_succ]
        refine wpAnyH_ready (rs := [13]) (by kernel_rfl) (by simp) ?_
        refine AllReadyH.cons rfl (fun K hK => ?_) AllReadyH.nil
        go_simp
        refine Calls.mono (zzClone_to (w := w2) (HF.out.2.1.kepN HV.out.2.2) HF.out.2.2.2) ?_
        rintro e w3 ⟨⟨ma, mn, mc, rfl⟩, hb1, k1⟩
        obtain ⟨b1, y1⟩ := hb1 _ rfl
        have hs3 : w3.cell? ⟨b, o + i * 2, none⟩ = some (.slice fa lf fc) ∧ w3.cell? ⟨b, o + i * 2 + 1, none⟩ = some (.slice ta lt tc) := ⟨(k1.cell (World.block_lt_of_cell? _ _ hHeld2.1) id).trans hHeld2.1, (k1.cell (World.block_lt_of_cell? _ _ hHeld2.2) id).trans hHeld2.2⟩
        refine hK.out _ _ hs3 (fun hHeld3 => ?_)
        have HU : Hid (Bnd w3 (.slice ma mn mc) r.2 ∧ By w3 (.slice ma mn mc) ∧ Kep (fun _ => False) w2 w3) := ⟨b1, y1, k1⟩
        clear hK hHeld2 hb1 b1 y1 k1 hs3
        try simp only [Act.put, List.getElem_toArray, List.getElem_cons_succ, List.getElem_cons_zero, List.setIfInBounds_toArray, List.set_cons_zero, List.set_cons_succ]
        refine wpAnyH_take (i := 14) (v := .agg #[.slice na nn nc, .slice ma mn mc]) rfl (by kernel_rfl) (by kernel_rfl) (by kernel_rfl) (fun _ _ _ h => h) (Or.inl ⟨by rfl, fun w' hSw => by kernel_rfl⟩) hHeld3 ?_
        try simp only [Act.put, List.getElem_toArray, List.getElem_cons_succ, List.getElem_cons_zero, List.setIfInBounds_toArray, List.set_cons_zero, List.set_cons_succ]
        refine wpAnyH_take (i := 15) (v := .pointer (some ⟨cb, i * 2, none⟩)) rfl (by kernel_rfl) (by kernel_rfl) (by kernel_rfl) (fun _ _ _ h => h) (Or.inl ⟨by rfl, fun w' hSw => by go_simp⟩) hHeld3 ?_
        try simp only [Act.put, List.getElem_toArray, List.getElem_cons_succ, List.getElem_cons_zero, List.setIfInBounds_toArray, List.set_cons_zero, List.set_cons_succ]
        refine wpAnyH_ready (rs := [16]) (by kernel_rfl) (by simp) ?_
        refine AllReadyH.cons rfl (fun K hK => ?_) AllReadyH.nil
        have k3 : Kep (fun _ => False) wr w3 := ((Kep.refl (fun _ => False) wr).drew.trans HV.out.2.2 (fun _ _ h => h)).trans HU.out.2.2 (fun _ _ h => h)
        have hrow3 := HC.out.1.kep k3 id
        have c0 : w3.cell? ⟨cb, i * 2, none⟩ = some x0 := by rw [hrow3.cell]; exact HX.out.1
        have c1 : w3.cell? ⟨cb, i * 2 + 1, none⟩ = some x1 := by rw [hrow3.cell]; exact HX.out.2
        have f0 := hrow3.frozen (i * 2)
        have f1 := hrow3.frozen (i * 2 + 1)
        go_simp
        have hcbb : cb ≠ b := fun e => by have h1 := HBC.out.2; have h2 := HBC.out.1; omega
        have kS : Kep (fun k => k = cb) w3 ((w3.setCell ⟨cb, i * 2, none⟩ (.slice na nn nc)).setCell ⟨cb, i * 2 + 1, none⟩ (.slice ma mn mc)) := (kep_set _ _ _ _).trans (kep_set _ _ _ _) (fun _ _ h => h)
        refine hK.out _ _ ⟨(kS.cell (World.block_lt_of_cell? _ _ hHeld3.1) (fun e => hcbb e.symm)).trans hHeld3.1, (kS.cell (World.block_lt_of_cell? _ _ hHeld3.2) (fun e => hcbb e.symm)).trans hHeld3.2⟩ (fun hHeld4 => ?_)
        have HNEW : Hid (CSInv w cb n L (i + 1) ((w3.setCell ⟨cb, i * 2, none⟩ (.slice na nn nc)).setCell ⟨cb, i * 2 + 1, none⟩ (.slice ma mn mc))) := cs_step HCS.out HX.out.1 HX.out.2 HR.out k3 (HV.out.1.keepN HU.out.2.2) HU.out.1 (byN HV.out.2.1 HU.out.2.2) HU.out.2.1
        clear hK c0 c1 f0 f1 hHeld3 hHeld4 k3 hrow3 kS
        try simp only [Act.put, List.getElem_toArray, List.getElem_cons_succ, List.getElem_cons_zero, List.setIfInBounds_toArray, List.set_cons_zero, List.set_cons_succ]
        refine wpAnyH_done (by kernel_rfl) ?_ _
        refine NoPanic.normal ?_
        generalize (w3.setCell ⟨cb, i * 2, none⟩ (.slice na nn nc)).setCell ⟨cb, i * 2 + 1, none⟩ (.slice ma mn mc) = w4 at *
        go_wp2
        go_roundg (n - (i + 1))
        case measure => omega
        case rel => exact ⟨i + 1, by omega, by omega, by go_num, HNEW.out⟩
      · have hie : i = n := by omega
        have hinI : ¬ (i : Int) < (n : Int) := by omega
        have HV : Hid (CSInv w cb n L i wr ∧ i = n) := ⟨hinv, hie⟩
        clear hinv hmk hie
        go_wp2
        go_ret
        obtain ⟨⟨h1, h2, cur, h3, h4, h5⟩, h6⟩ := HV.out
        refine ⟨_, rfl, ⟨some ⟨cb, 0, none⟩, n, by rw [← HL.out.2.1]; rfl, fun _ => ⟨cb, rfl, fun j r hr => ?_⟩⟩, h2⟩
        have hj := (List.getElem?_eq_some_iff.1 hr).1
        obtain ⟨fv, tv, g1, g2, g3⟩ := h5 j r (by have := HL.out.2.1; omega) hr
        exact ⟨fv, tv, by rw [h3.cell]; exact g1, by rw [h3.cell]; exact g2, g3⟩
end Go.Proofs.Qxb6615764a
