/-
  The walks of ZZnewStretchIndex (9), ZZclosedDescending$1 (20), ZZclosedDescending (11).
-/
import Derived.Test.Qxb6615764aClose
import Derived.Deep.AppendLies
namespace Go.Proofs.Qxb6615764a
open Go.RowKit Go.Lib
set_option linter.unusedVariables false
set_option linter.unusedSimpArgs false
set_option linter.unusedSectionVars false

theorem Try.info28 : (Try.prog.info? 28).map (fun i => (i.zero, i.size, i.bytes)) = some (some (.slice none 0 0), 1, 24) := by kernel_rfl
theorem ownsRow_kep {w w' : World} {M : Nat → Prop} {base : Nat} {e : TypeId} {size : Nat} {v : Value} {n : Nat} {xs : List Value} (h : w.ownsRow base e size v n xs) (k : Kep M w w') (hM : ∀ g, v.ownBlock = some g → ¬ M g) : w'.ownsRow base e size v n xs := by
  refine ⟨h.1, h.2.imp id ?_⟩
  rintro ⟨g, cap, cur, rfl, h1, h2, h3⟩
  exact ⟨g, cap, cur, rfl, h1, by rw [k.block g (lt_of_some h2) (hM g rfl)]; exact h2, h3⟩
theorem grownBy_kep {w w' : World} {row : Option Nat} (h : w.grownBy w' row) : Kep (fun k => some k = row) w w' := ⟨h.os, h.tape, h.output, h.size, fun k hk hn => h.block k hk hn⟩
theorem own_typed {w : World} {base : Nat} {e : TypeId} {size : Nat} {v : Value} {n : Nat} {xs : List Value} (h : w.ownsRow base e size v n xs) {g : Nat} (hg : v.ownBlock = some g) : base ≤ g ∧ ∃ cur, RowB w g e cur := by
  rcases h.2 with ⟨rfl, _⟩ | ⟨g', cap, cur, rfl, h1, h2, _⟩
  · cases hg
  · simp [Value.ownBlock] at hg
    subst hg
    exact ⟨h1, cur.toList, by unfold RowB; rw [h2]⟩
/-- append of one value to a row that grows: what comes of it. -/
theorem grow_one {w : World} {base n vb : Nat} {v : Value} {xs : List Value} {x : Value} (h : w.ownsRow base 28 1 v n xs) (hv : RowB w vb 28 [x]) (hx : x.oneCell' = true) (hn : n ≤ 1000000) (hb : base ≤ w.heap.size) (ty : TypeId) :
    ∃ g cap w', (Builtin.append_ #[31, 31] ty #[v, .slice (some ⟨vb, 0, none⟩) 1 1]).run Try.prog w = .ok (.slice (some ⟨g, 0, none⟩) (n + 1) cap) w' ∧ w'.ownsRow base 28 1 (.slice (some ⟨g, 0, none⟩) (n + 1) cap) (n + 1) (xs ++ [x]) ∧ Kep (fun k => some k = v.ownBlock) w w' ∧ (v.ownBlock = some g ∨ g = w.heap.size) := by
  obtain ⟨i0, hi0, hz0, hz1, hz2⟩ := info_parts Try.info28
  obtain ⟨g, cap, w', hrun, hown, hgr, hgc, hglt⟩ := run_append_lies (P := Try.prog) w 31 ty base 28 i0 (.slice none 0 0) 1 24 Try.underlying31 hi0 hz0 hz1 hz2 rfl (by decide) v n xs h ⟨vb, 0, none⟩ 1 1 [x] rfl (fun j u hj => by
    rw [Addr.add_lit, Nat.zero_add, hv.cell]; exact hj) (fun u hu => by simp at hu; subst hu; exact hx) (by omega) (by unfold maxLen; omega) (by omega) hb _ rfl
  exact ⟨g, cap, w', hrun, hown, grownBy_kep hgr, hgc⟩

/-- The two rows that the visitor builds. -/
def VisJ (w0 : World) (fb ob : Nat) (fV tV : It → Value) (vs : List It) (w : World) : Prop :=
  Kep (fun b => w0.heap.size ≤ b) w0 w ∧ ∃ fs ts, RowB w fb 31 [fs] ∧ RowB w ob 31 [ts] ∧ w.ownsRow w0.heap.size 28 1 fs vs.length (vs.map fV) ∧ w.ownsRow w0.heap.size 28 1 ts vs.length (vs.map tV) ∧ (∀ g, fs.ownBlock = some g → ts.ownBlock ≠ some g)


set_option maxHeartbeats 4000000 in
set_option maxRecDepth 100000 in
theorem vis_any {w0 w : World} {fb ob : Nat} {fV tV : It → Value} {vs : List It} {y : It} {fa ua : Option Addr} {fn fc un uc : Nat} (hfo : fb ≠ ob ∧ w0.heap.size ≤ fb ∧ w0.heap.size ≤ ob) (hJ : VisJ w0 fb ob fV tV vs w) (hy : RowB w0 y.p 41 [.slice fa fn fc, .slice ua un uc]) (hf : fV y = .slice fa fn fc) (ht : tV y = .slice ua un uc) (hn : vs.length ≤ 1000000) :
    Calls Try.prog 20 #[.pointer (some ⟨y.p, 0, none⟩), .pointer (some ⟨fb, 0, none⟩), .pointer (some ⟨ob, 0, none⟩)] w fun e w' => e = .returned (.bool true) ∧ VisJ w0 fb ob fV tV (vs ++ [y]) w' := by
  obtain ⟨hk, fs, ts, h1, h2, h3, h4, h5⟩ := hJ
  have Ha : Hid (Kep (fun b => w0.heap.size ≤ b) w0 w ∧ RowB w fb 31 [fs] ∧ RowB w ob 31 [ts] ∧ w.ownsRow w0.heap.size 28 1 fs (vs.length) (vs.map fV) ∧ w.ownsRow w0.heap.size 28 1 ts (vs.length) (vs.map tV) ∧ (∀ g, Value.ownBlock fs = some g → Value.ownBlock ts ≠ some g) ∧ RowB w y.p 41 [.slice fa fn fc, .slice ua un uc]) := ⟨hk, h1, h2, h3, h4, h5, hy.kep hk (by have := hy.lt; omega)⟩
  have HB : Hid (vs.length ≤ 1000000) := hn
  have HFO : Hid (fb ≠ ob ∧ w0.heap.size ≤ fb ∧ w0.heap.size ≤ ob) := hfo
  have HV : Hid (fV y = .slice fa fn fc ∧ tV y = .slice ua un uc) := ⟨hf, ht⟩
  clear hk h1 h2 h3 h4 h5 hy hn hfo hf ht
  go_enter Try.func20, Try.ntmps20
  go_upto_region 1 with fail
  refine wp_region_G (fun w' => w'.cell? ⟨fb, 0, none⟩ = some (fs) ∧ w'.cell? ⟨y.p, 0, none⟩ = some (.slice fa fn fc)) (fun _ => True) [7] (by kernel_rfl) ?_
  have kdr := (Kep.refl (fun _ => False) w).drew
  have Ha1 : Hid (Kep (fun b => w0.heap.size ≤ b) w0 w.drew ∧ RowB w.drew fb 31 [fs] ∧ RowB w.drew ob 31 [ts] ∧ w.drew.ownsRow w0.heap.size 28 1 fs (vs.length) (vs.map fV) ∧ w.drew.ownsRow w0.heap.size 28 1 ts (vs.length) (vs.map tV) ∧ (∀ g, Value.ownBlock fs = some g → Value.ownBlock ts ≠ some g) ∧ RowB w.drew y.p 41 [.slice fa fn fc, .slice ua un uc]) := ⟨Ha.out.1.trans kdr (fun _ _ h => h.elim), Ha.out.2.1.kep kdr id, Ha.out.2.2.1.kep kdr id, ownsRow_kep Ha.out.2.2.2.1 kdr (fun _ _ => id), ownsRow_kep Ha.out.2.2.2.2.1 kdr (fun _ _ => id), Ha.out.2.2.2.2.2.1, Ha.out.2.2.2.2.2.2.kep kdr id⟩
  clear kdr Ha
  generalize w.drew = aa at *
  have HA : Hid (aa.cell? ⟨fb, 0, none⟩ = some (fs) ∧ aa.cell? ⟨y.p, 0, none⟩ = some (.slice fa fn fc)) := ⟨by rw [Ha1.out.2.1.cell]; rfl, by rw [Ha1.out.2.2.2.2.2.2.cell]; rfl⟩
  refine wpAnyG_take (i := 0) (v := fs) rfl (by kernel_rfl) (by kernel_rfl) (by kernel_rfl) (by kernel_rfl) (fun _ _ _ h => h) HA.out trivial (Or.inl ⟨by rfl, fun w' hSw => by (have h := hSw.1.1; go_simp)⟩) ?_
  try simp only [Act.put, List.getElem_toArray, List.getElem_cons_succ, List.getElem_cons_zero, List.setIfInBounds_toArray, List.set_cons_zero, List.set_cons_succ]
  refine wpAnyG_takeB (i := 1) (v := .pointer (some ⟨y.p, 0, none⟩)) rfl (by kernel_rfl) (by kernel_rfl) (by kernel_rfl) (by kernel_rfl) (fun _ _ _ h => h) (fun _ => HA.out) trivial (Or.inl ⟨by rfl, fun w' hSw => by kernel_rfl⟩) ?_
  try simp only [Act.put, List.getElem_toArray, List.getElem_cons_succ, List.getElem_cons_zero, List.setIfInBounds_toArray, List.set_cons_zero, List.set_cons_succ]
  refine wpAnyG_takeB (i := 2) (v := .pointer (some ⟨y.p, 0, none⟩)) rfl (by kernel_rfl) (by kernel_rfl) (by kernel_rfl) (by kernel_rfl) (fun _ _ _ h => h) (fun _ => HA.out) trivial (Or.inl ⟨by rfl, fun w' hSw => by go_simp⟩) ?_
  try simp only [Act.put, List.getElem_toArray, List.getElem_cons_succ, List.getElem_cons_zero, List.setIfInBounds_toArray, List.set_cons_zero, List.set_cons_succ]
  refine wpAnyG_takeB (i := 3) (v := .pointer (some ⟨y.p, 0, none⟩)) rfl (by kernel_rfl) (by kernel_rfl) (by kernel_rfl) (by kernel_rfl) (fun _ _ _ h => h) (fun _ => HA.out) trivial (Or.inl ⟨by rfl, fun w' hSw => by go_simp⟩) ?_
  try simp only [Act.put, List.getElem_toArray, List.getElem_cons_succ, List.getElem_cons_zero, List.setIfInBounds_toArray, List.set_cons_zero, List.set_cons_succ]
  refine wpAnyG_take (i := 4) (v := .slice fa fn fc) rfl (by kernel_rfl) (by kernel_rfl) (by kernel_rfl) (by kernel_rfl) (fun _ _ _ h => h) HA.out trivial (Or.inl ⟨by rfl, fun w' hSw => by (have h := hSw.1.2; go_simp)⟩) ?_
  try simp only [Act.put, List.getElem_toArray, List.getElem_cons_succ, List.getElem_cons_zero, List.setIfInBounds_toArray, List.set_cons_zero, List.set_cons_succ]
  refine wpAnyG_step (i := 5) (by kernel_rfl) rfl (fun K hK => ?_)
  go_simp
  have ka : Kep (fun _ => False) aa (aa.alloc (.cells #[.slice fa fn fc] 28)) := (Kep.refl _ _).alloc _
  have hv : RowB (aa.alloc (.cells #[.slice fa fn fc] 28)) aa.heap.size 28 [.slice fa fn fc] := row_new aa 28 [.slice fa fn fc]
  have Ha2 : Hid (Kep (fun b => w0.heap.size ≤ b) w0 (aa.alloc (.cells #[.slice fa fn fc] 28)) ∧ RowB (aa.alloc (.cells #[.slice fa fn fc] 28)) fb 31 [fs] ∧ RowB (aa.alloc (.cells #[.slice fa fn fc] 28)) ob 31 [ts] ∧ (aa.alloc (.cells #[.slice fa fn fc] 28)).ownsRow w0.heap.size 28 1 fs (vs.length) (vs.map fV) ∧ (aa.alloc (.cells #[.slice fa fn fc] 28)).ownsRow w0.heap.size 28 1 ts (vs.length) (vs.map tV) ∧ (∀ g, Value.ownBlock fs = some g → Value.ownBlock ts ≠ some g) ∧ RowB (aa.alloc (.cells #[.slice fa fn fc] 28)) y.p 41 [.slice fa fn fc, .slice ua un uc]) := ⟨Ha1.out.1.trans ka (fun _ _ h => h.elim), Ha1.out.2.1.kep ka id, Ha1.out.2.2.1.kep ka id, ownsRow_kep Ha1.out.2.2.2.1 ka (fun _ _ => id), ownsRow_kep Ha1.out.2.2.2.2.1 ka (fun _ _ => id), Ha1.out.2.2.2.2.2.1, Ha1.out.2.2.2.2.2.2.kep ka id⟩
  refine hK.out _ _ trivial (fun _ => ⟨by rw [Ha2.out.2.1.cell]; rfl, by rw [Ha2.out.2.2.2.2.2.2.cell]; rfl⟩) ?_
  clear hK ka Ha1 HA
  generalize aa.heap.size = vba at *
  generalize aa.alloc (.cells #[.slice fa fn fc] 28) = ab at *
  try simp only [Act.put, List.getElem_toArray, List.getElem_cons_succ, List.getElem_cons_zero, List.setIfInBounds_toArray, List.set_cons_zero, List.set_cons_succ]
  refine wpAnyG_step (i := 6) (by kernel_rfl) rfl (fun K hK => ?_)
  obtain ⟨ga, ca, ac, hrun, hown, kg, hgc⟩ := grow_one Ha2.out.2.2.2.1 hv rfl HB.out Ha2.out.1.size 31
  refine step_append_runI rfl (.tmp 5) (.tmp 10) 31 rfl _ _ rfl rfl hrun ?_
  have hb0 : Hid (w0.heap.size ≤ ga) := by
    rcases hown.2 with ⟨h, _⟩ | ⟨g, cap, cur, h, h1, _⟩
    · cases h
    · injection h with h _ _; injection h with h; injection h with h; rw [h]; exact h1
  have hmb : ∀ g, Value.ownBlock fs = some g → w0.heap.size ≤ g := fun g hg => (own_typed Ha2.out.2.2.2.1 hg).1
  have hM : ∀ b ty cur', RowB ab b ty cur' → ty ≠ 28 → ¬ (some b = Value.ownBlock fs) := fun b ty cur' hb hty e => by
    obtain ⟨_, cur2, hc⟩ := own_typed Ha2.out.2.2.2.1 e.symm
    exact row_ne hb hc hty rfl
  have Ha3 : Hid (Kep (fun b => w0.heap.size ≤ b) w0 ac ∧ RowB ac fb 31 [fs] ∧ RowB ac ob 31 [ts] ∧ ac.ownsRow w0.heap.size 28 1 (.slice (some ⟨ga, 0, none⟩) (vs.length + 1) ca) (vs.length + 1) (vs.map fV ++ [.slice fa fn fc]) ∧ ac.ownsRow w0.heap.size 28 1 ts (vs.length) (vs.map tV) ∧ (∀ g, Value.ownBlock ts = some g → g ≠ ga) ∧ RowB ac y.p 41 [.slice fa fn fc, .slice ua un uc]) := by
    refine ⟨Ha2.out.1.trans kg (fun b _ e => hmb b e.symm), Ha2.out.2.1.kep kg (hM _ _ _ Ha2.out.2.1 (by decide)), Ha2.out.2.2.1.kep kg (hM _ _ _ Ha2.out.2.2.1 (by decide)), hown, ownsRow_kep Ha2.out.2.2.2.2.1 kg (fun g hg e => ?_), fun g hg e => ?_, Ha2.out.2.2.2.2.2.2.kep kg (hM _ _ _ Ha2.out.2.2.2.2.2.2 (by decide))⟩
    · exact Ha2.out.2.2.2.2.2.1 g e.symm hg
    · rw [e] at hg
      rcases hgc with h1 | h1
      · exact Ha2.out.2.2.2.2.2.1 _ h1 hg
      · obtain ⟨_, cur2, hc⟩ := own_typed Ha2.out.2.2.2.2.1 hg
        have := hc.lt
        omega
  refine hK.out _ _ trivial (fun _ => ⟨by rw [Ha3.out.2.1.cell]; rfl, by rw [Ha3.out.2.2.2.2.2.2.cell]; rfl⟩) ?_
  clear hK hv hrun hown kg hgc Ha2 hmb hM
  try simp only [Act.put, List.getElem_toArray, List.getElem_cons_succ, List.getElem_cons_zero, List.setIfInBounds_toArray, List.set_cons_zero, List.set_cons_succ]
  have c0 := Ha3.out.2.1.cell 0
  have f0 := Ha3.out.2.1.frozen 0
  simp only [List.getElem?_cons_zero] at c0
  refine wpAnyG_step (i := 7) (by kernel_rfl) rfl (fun K hK => ?_)
  go_simp
  refine hK.out _ _ trivial (fun h => not_early (by kernel_rfl) h) ?_
  clear hK c0 f0
  have hT : ∀ g e cur', RowB ac g e cur' → e ≠ 31 → g ≠ fb := fun g e cur' hg he h => row_ne hg Ha3.out.2.1 he h
  have ks : Kep (fun k => k = fb) ac (ac.setCell ⟨fb, 0, none⟩ (.slice (some ⟨ga, 0, none⟩) (vs.length + 1) ca)) := kep_set _ _ _ _
  have Ha4 : Hid (Kep (fun b => w0.heap.size ≤ b) w0 (ac.setCell ⟨fb, 0, none⟩ (.slice (some ⟨ga, 0, none⟩) (vs.length + 1) ca)) ∧ RowB (ac.setCell ⟨fb, 0, none⟩ (.slice (some ⟨ga, 0, none⟩) (vs.length + 1) ca)) fb 31 [(.slice (some ⟨ga, 0, none⟩) (vs.length + 1) ca)] ∧ RowB (ac.setCell ⟨fb, 0, none⟩ (.slice (some ⟨ga, 0, none⟩) (vs.length + 1) ca)) ob 31 [ts] ∧ (ac.setCell ⟨fb, 0, none⟩ (.slice (some ⟨ga, 0, none⟩) (vs.length + 1) ca)).ownsRow w0.heap.size 28 1 (.slice (some ⟨ga, 0, none⟩) (vs.length + 1) ca) (vs.length + 1) (vs.map fV ++ [.slice fa fn fc]) ∧ (ac.setCell ⟨fb, 0, none⟩ (.slice (some ⟨ga, 0, none⟩) (vs.length + 1) ca)).ownsRow w0.heap.size 28 1 ts (vs.length) (vs.map tV) ∧ (∀ g, Value.ownBlock (.slice (some ⟨ga, 0, none⟩) (vs.length + 1) ca) = some g → Value.ownBlock ts ≠ some g) ∧ RowB (ac.setCell ⟨fb, 0, none⟩ (.slice (some ⟨ga, 0, none⟩) (vs.length + 1) ca)) y.p 41 [.slice fa fn fc, .slice ua un uc]) := by
    have ho1 := ownsRow_kep Ha3.out.2.2.2.1 ks (fun g hg => by obtain ⟨_, cur2, hc⟩ := own_typed Ha3.out.2.2.2.1 hg; exact hT g _ _ hc (by decide))
    have ho2 := ownsRow_kep Ha3.out.2.2.2.2.1 ks (fun g hg => by obtain ⟨_, cur2, hc⟩ := own_typed Ha3.out.2.2.2.2.1 hg; exact hT g _ _ hc (by decide))
    refine ⟨Ha3.out.1.trans ks (fun b hb e => by have := HFO.out; have e2 : b = fb := e; omega), Ha3.out.2.1.set (P := []) rfl rfl, Ha3.out.2.2.1.kep ks (Ne.symm HFO.out.1), ho1, ho2, fun g hg e => ?_, Ha3.out.2.2.2.2.2.2.kep ks (hT _ _ _ Ha3.out.2.2.2.2.2.2 (by decide))⟩
    simp [Value.ownBlock] at hg; exact Ha3.out.2.2.2.2.2.1 g e hg.symm
  clear hT ks Ha3
  generalize ac.setCell ⟨fb, 0, none⟩ (.slice (some ⟨ga, 0, none⟩) (vs.length + 1) ca) = ad at *
  try simp only [Act.put, List.getElem_toArray, List.getElem_cons_succ, List.getElem_cons_zero, List.setIfInBounds_toArray, List.set_cons_zero, List.set_cons_succ]
  refine wpAnyG_done (by kernel_rfl) ?_ _
  refine NoPanic.normal ?_
  have Hb := Ha4
  clear Ha4
  go_upto_region 2 with fail
  refine wp_region_G (fun w' => w'.cell? ⟨ob, 0, none⟩ = some (ts) ∧ w'.cell? ⟨y.p, 1, none⟩ = some (.slice ua un uc)) (fun _ => True) [7] (by kernel_rfl) ?_
  have kdr := (Kep.refl (fun _ => False) ad).drew
  have Hb1 : Hid (Kep (fun b => w0.heap.size ≤ b) w0 ad.drew ∧ RowB ad.drew fb 31 [(.slice (some ⟨ga, 0, none⟩) (vs.length + 1) ca)] ∧ RowB ad.drew ob 31 [ts] ∧ ad.drew.ownsRow w0.heap.size 28 1 (.slice (some ⟨ga, 0, none⟩) (vs.length + 1) ca) (vs.length + 1) (vs.map fV ++ [.slice fa fn fc]) ∧ ad.drew.ownsRow w0.heap.size 28 1 ts (vs.length) (vs.map tV) ∧ (∀ g, Value.ownBlock (.slice (some ⟨ga, 0, none⟩) (vs.length + 1) ca) = some g → Value.ownBlock ts ≠ some g) ∧ RowB ad.drew y.p 41 [.slice fa fn fc, .slice ua un uc]) := ⟨Hb.out.1.trans kdr (fun _ _ h => h.elim), Hb.out.2.1.kep kdr id, Hb.out.2.2.1.kep kdr id, ownsRow_kep Hb.out.2.2.2.1 kdr (fun _ _ => id), ownsRow_kep Hb.out.2.2.2.2.1 kdr (fun _ _ => id), Hb.out.2.2.2.2.2.1, Hb.out.2.2.2.2.2.2.kep kdr id⟩
  clear kdr Hb
  generalize ad.drew = ba at *
  have HA : Hid (ba.cell? ⟨ob, 0, none⟩ = some (ts) ∧ ba.cell? ⟨y.p, 1, none⟩ = some (.slice ua un uc)) := ⟨by rw [Hb1.out.2.2.1.cell]; rfl, by rw [Hb1.out.2.2.2.2.2.2.cell]; rfl⟩
  refine wpAnyG_take (i := 0) (v := ts) rfl (by kernel_rfl) (by kernel_rfl) (by kernel_rfl) (by kernel_rfl) (fun _ _ _ h => h) HA.out trivial (Or.inl ⟨by rfl, fun w' hSw => by (have h := hSw.1.1; go_simp)⟩) ?_
  try simp only [Act.put, List.getElem_toArray, List.getElem_cons_succ, List.getElem_cons_zero, List.setIfInBounds_toArray, List.set_cons_zero, List.set_cons_succ]
  refine wpAnyG_takeB (i := 1) (v := .pointer (some ⟨y.p, 0, none⟩)) rfl (by kernel_rfl) (by kernel_rfl) (by kernel_rfl) (by kernel_rfl) (fun _ _ _ h => h) (fun _ => HA.out) trivial (Or.inl ⟨by rfl, fun w' hSw => by kernel_rfl⟩) ?_
  try simp only [Act.put, List.getElem_toArray, List.getElem_cons_succ, List.getElem_cons_zero, List.setIfInBounds_toArray, List.set_cons_zero, List.set_cons_succ]
  refine wpAnyG_takeB (i := 2) (v := .pointer (some ⟨y.p, 0, none⟩)) rfl (by kernel_rfl) (by kernel_rfl) (by kernel_rfl) (by kernel_rfl) (fun _ _ _ h => h) (fun _ => HA.out) trivial (Or.inl ⟨by rfl, fun w' hSw => by go_simp⟩) ?_
  try simp only [Act.put, List.getElem_toArray, List.getElem_cons_succ, List.getElem_cons_zero, List.setIfInBounds_toArray, List.set_cons_zero, List.set_cons_succ]
  refine wpAnyG_takeB (i := 3) (v := .pointer (some ⟨y.p, 1, none⟩)) rfl (by kernel_rfl) (by kernel_rfl) (by kernel_rfl) (by kernel_rfl) (fun _ _ _ h => h) (fun _ => HA.out) trivial (Or.inl ⟨by rfl, fun w' hSw => by go_simp⟩) ?_
  try simp only [Act.put, List.getElem_toArray, List.getElem_cons_succ, List.getElem_cons_zero, List.setIfInBounds_toArray, List.set_cons_zero, List.set_cons_succ]
  refine wpAnyG_take (i := 4) (v := .slice ua un uc) rfl (by kernel_rfl) (by kernel_rfl) (by kernel_rfl) (by kernel_rfl) (fun _ _ _ h => h) HA.out trivial (Or.inl ⟨by rfl, fun w' hSw => by (have h := hSw.1.2; go_simp)⟩) ?_
  try simp only [Act.put, List.getElem_toArray, List.getElem_cons_succ, List.getElem_cons_zero, List.setIfInBounds_toArray, List.set_cons_zero, List.set_cons_succ]
  refine wpAnyG_step (i := 5) (by kernel_rfl) rfl (fun K hK => ?_)
  go_simp
  have ka : Kep (fun _ => False) ba (ba.alloc (.cells #[.slice ua un uc] 28)) := (Kep.refl _ _).alloc _
  have hv : RowB (ba.alloc (.cells #[.slice ua un uc] 28)) ba.heap.size 28 [.slice ua un uc] := row_new ba 28 [.slice ua un uc]
  have Hb2 : Hid (Kep (fun b => w0.heap.size ≤ b) w0 (ba.alloc (.cells #[.slice ua un uc] 28)) ∧ RowB (ba.alloc (.cells #[.slice ua un uc] 28)) fb 31 [(.slice (some ⟨ga, 0, none⟩) (vs.length + 1) ca)] ∧ RowB (ba.alloc (.cells #[.slice ua un uc] 28)) ob 31 [ts] ∧ (ba.alloc (.cells #[.slice ua un uc] 28)).ownsRow w0.heap.size 28 1 (.slice (some ⟨ga, 0, none⟩) (vs.length + 1) ca) (vs.length + 1) (vs.map fV ++ [.slice fa fn fc]) ∧ (ba.alloc (.cells #[.slice ua un uc] 28)).ownsRow w0.heap.size 28 1 ts (vs.length) (vs.map tV) ∧ (∀ g, Value.ownBlock (.slice (some ⟨ga, 0, none⟩) (vs.length + 1) ca) = some g → Value.ownBlock ts ≠ some g) ∧ RowB (ba.alloc (.cells #[.slice ua un uc] 28)) y.p 41 [.slice fa fn fc, .slice ua un uc]) := ⟨Hb1.out.1.trans ka (fun _ _ h => h.elim), Hb1.out.2.1.kep ka id, Hb1.out.2.2.1.kep ka id, ownsRow_kep Hb1.out.2.2.2.1 ka (fun _ _ => id), ownsRow_kep Hb1.out.2.2.2.2.1 ka (fun _ _ => id), Hb1.out.2.2.2.2.2.1, Hb1.out.2.2.2.2.2.2.kep ka id⟩
  refine hK.out _ _ trivial (fun _ => ⟨by rw [Hb2.out.2.2.1.cell]; rfl, by rw [Hb2.out.2.2.2.2.2.2.cell]; rfl⟩) ?_
  clear hK ka Hb1 HA
  generalize ba.heap.size = vbb at *
  generalize ba.alloc (.cells #[.slice ua un uc] 28) = bb at *
  try simp only [Act.put, List.getElem_toArray, List.getElem_cons_succ, List.getElem_cons_zero, List.setIfInBounds_toArray, List.set_cons_zero, List.set_cons_succ]
  refine wpAnyG_step (i := 6) (by kernel_rfl) rfl (fun K hK => ?_)
  obtain ⟨gb, cb, bc, hrun, hown, kg, hgc⟩ := grow_one Hb2.out.2.2.2.2.1 hv rfl HB.out Hb2.out.1.size 31
  refine step_append_runI rfl (.tmp 12) (.tmp 17) 31 rfl _ _ rfl rfl hrun ?_
  have hb0 : Hid (w0.heap.size ≤ gb) := by
    rcases hown.2 with ⟨h, _⟩ | ⟨g, cap, cur, h, h1, _⟩
    · cases h
    · injection h with h _ _; injection h with h; injection h with h; rw [h]; exact h1
  have hmb : ∀ g, Value.ownBlock ts = some g → w0.heap.size ≤ g := fun g hg => (own_typed Hb2.out.2.2.2.2.1 hg).1
  have hM : ∀ b ty cur', RowB bb b ty cur' → ty ≠ 28 → ¬ (some b = Value.ownBlock ts) := fun b ty cur' hb hty e => by
    obtain ⟨_, cur2, hc⟩ := own_typed Hb2.out.2.2.2.2.1 e.symm
    exact row_ne hb hc hty rfl
  have Hb3 : Hid (Kep (fun b => w0.heap.size ≤ b) w0 bc ∧ RowB bc fb 31 [(.slice (some ⟨ga, 0, none⟩) (vs.length + 1) ca)] ∧ RowB bc ob 31 [ts] ∧ bc.ownsRow w0.heap.size 28 1 (.slice (some ⟨gb, 0, none⟩) (vs.length + 1) cb) (vs.length + 1) (vs.map tV ++ [.slice ua un uc]) ∧ bc.ownsRow w0.heap.size 28 1 (.slice (some ⟨ga, 0, none⟩) (vs.length + 1) ca) (vs.length + 1) (vs.map fV ++ [.slice fa fn fc]) ∧ (∀ g, Value.ownBlock (.slice (some ⟨ga, 0, none⟩) (vs.length + 1) ca) = some g → g ≠ gb) ∧ RowB bc y.p 41 [.slice fa fn fc, .slice ua un uc]) := by
    refine ⟨Hb2.out.1.trans kg (fun b _ e => hmb b e.symm), Hb2.out.2.1.kep kg (hM _ _ _ Hb2.out.2.1 (by decide)), Hb2.out.2.2.1.kep kg (hM _ _ _ Hb2.out.2.2.1 (by decide)), hown, ownsRow_kep Hb2.out.2.2.2.1 kg (fun g hg e => ?_), fun g hg e => ?_, Hb2.out.2.2.2.2.2.2.kep kg (hM _ _ _ Hb2.out.2.2.2.2.2.2 (by decide))⟩
    · exact Hb2.out.2.2.2.2.2.1 g hg e.symm
    · rw [e] at hg
      rcases hgc with h1 | h1
      · exact Hb2.out.2.2.2.2.2.1 _ hg h1
      · obtain ⟨_, cur2, hc⟩ := own_typed Hb2.out.2.2.2.1 hg
        have := hc.lt
        omega
  refine hK.out _ _ trivial (fun _ => ⟨by rw [Hb3.out.2.2.1.cell]; rfl, by rw [Hb3.out.2.2.2.2.2.2.cell]; rfl⟩) ?_
  clear hK hv hrun hown kg hgc Hb2 hmb hM
  try simp only [Act.put, List.getElem_toArray, List.getElem_cons_succ, List.getElem_cons_zero, List.setIfInBounds_toArray, List.set_cons_zero, List.set_cons_succ]
  have c0 := Hb3.out.2.2.1.cell 0
  have f0 := Hb3.out.2.2.1.frozen 0
  simp only [List.getElem?_cons_zero] at c0
  refine wpAnyG_step (i := 7) (by kernel_rfl) rfl (fun K hK => ?_)
  go_simp
  refine hK.out _ _ trivial (fun h => not_early (by kernel_rfl) h) ?_
  clear hK c0 f0
  have hT : ∀ g e cur', RowB bc g e cur' → e ≠ 31 → g ≠ ob := fun g e cur' hg he h => row_ne hg Hb3.out.2.2.1 he h
  have ks : Kep (fun k => k = ob) bc (bc.setCell ⟨ob, 0, none⟩ (.slice (some ⟨gb, 0, none⟩) (vs.length + 1) cb)) := kep_set _ _ _ _
  have Hb4 : Hid (Kep (fun b => w0.heap.size ≤ b) w0 (bc.setCell ⟨ob, 0, none⟩ (.slice (some ⟨gb, 0, none⟩) (vs.length + 1) cb)) ∧ RowB (bc.setCell ⟨ob, 0, none⟩ (.slice (some ⟨gb, 0, none⟩) (vs.length + 1) cb)) fb 31 [(.slice (some ⟨ga, 0, none⟩) (vs.length + 1) ca)] ∧ RowB (bc.setCell ⟨ob, 0, none⟩ (.slice (some ⟨gb, 0, none⟩) (vs.length + 1) cb)) ob 31 [(.slice (some ⟨gb, 0, none⟩) (vs.length + 1) cb)] ∧ (bc.setCell ⟨ob, 0, none⟩ (.slice (some ⟨gb, 0, none⟩) (vs.length + 1) cb)).ownsRow w0.heap.size 28 1 (.slice (some ⟨ga, 0, none⟩) (vs.length + 1) ca) (vs.length + 1) (vs.map fV ++ [.slice fa fn fc]) ∧ (bc.setCell ⟨ob, 0, none⟩ (.slice (some ⟨gb, 0, none⟩) (vs.length + 1) cb)).ownsRow w0.heap.size 28 1 (.slice (some ⟨gb, 0, none⟩) (vs.length + 1) cb) (vs.length + 1) (vs.map tV ++ [.slice ua un uc]) ∧ (∀ g, Value.ownBlock (.slice (some ⟨ga, 0, none⟩) (vs.length + 1) ca) = some g → Value.ownBlock (.slice (some ⟨gb, 0, none⟩) (vs.length + 1) cb) ≠ some g) ∧ RowB (bc.setCell ⟨ob, 0, none⟩ (.slice (some ⟨gb, 0, none⟩) (vs.length + 1) cb)) y.p 41 [.slice fa fn fc, .slice ua un uc]) := by
    have ho1 := ownsRow_kep Hb3.out.2.2.2.1 ks (fun g hg => by obtain ⟨_, cur2, hc⟩ := own_typed Hb3.out.2.2.2.1 hg; exact hT g _ _ hc (by decide))
    have ho2 := ownsRow_kep Hb3.out.2.2.2.2.1 ks (fun g hg => by obtain ⟨_, cur2, hc⟩ := own_typed Hb3.out.2.2.2.2.1 hg; exact hT g _ _ hc (by decide))
    refine ⟨Hb3.out.1.trans ks (fun b hb e => by have := HFO.out; have e2 : b = ob := e; omega), Hb3.out.2.1.kep ks HFO.out.1, Hb3.out.2.2.1.set (P := []) rfl rfl, ho2, ho1, fun g hg e => ?_, Hb3.out.2.2.2.2.2.2.kep ks (hT _ _ _ Hb3.out.2.2.2.2.2.2 (by decide))⟩
    simp [Value.ownBlock] at e; exact Hb3.out.2.2.2.2.2.1 g hg e.symm
  clear hT ks Hb3
  generalize bc.setCell ⟨ob, 0, none⟩ (.slice (some ⟨gb, 0, none⟩) (vs.length + 1) cb) = bd at *
  try simp only [Act.put, List.getElem_toArray, List.getElem_cons_succ, List.getElem_cons_zero, List.setIfInBounds_toArray, List.set_cons_zero, List.set_cons_succ]
  refine wpAnyG_done (by kernel_rfl) ?_ _
  refine NoPanic.normal ?_
  go_wp2
  go_ret
  obtain ⟨g1, g2, g3, g4, g5, g6, g7⟩ := Hb4.out
  exact ⟨rfl, g1, _, _, g2, g3, by rw [List.length_append, List.map_append, List.map_singleton, HV.out.1]; exact g4, by rw [List.length_append, List.map_append, List.map_singleton, HV.out.2]; exact g5, g6⟩
end Go.Proofs.Qxb6615764a
