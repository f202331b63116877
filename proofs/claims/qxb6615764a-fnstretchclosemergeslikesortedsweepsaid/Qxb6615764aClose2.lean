/-
  The walk of close (18).
-/
import Derived.Test.Qxb6615764aClose
import Derived.Deep.CutRange
namespace Go.Proofs.Qxb6615764a
open Go.RowKit Go.Lib
set_option linter.unusedVariables false
set_option linter.unusedSimpArgs false
set_option linter.unusedSectionVars false

@[go_sem] theorem eql39_some (w : World) (a : Addr) : (binOp .eql 39 (.pointer (some a)) (.pointer none)).run Try.prog w = .ok (.bool false) w := by kernel_rfl
@[go_sem] theorem eql39_none (w : World) : (binOp .eql 39 (.pointer none) (.pointer none)).run Try.prog w = .ok (.bool true) w := by kernel_rfl
@[go_sem] theorem eql46_some (w : World) (a : Addr) : (binOp .eql 46 (.pointer (some a)) (.pointer none)).run Try.prog w = .ok (.bool false) w := by kernel_rfl
@[go_sem] theorem eql46_none (w : World) : (binOp .eql 46 (.pointer none) (.pointer none)).run Try.prog w = .ok (.bool true) w := by kernel_rfl

/-- The cells of a stretch index. -/
def ixRow (cl p : Value) : List Value := [.int .i64 0, .int .i64 0, .int .i64 0, .int .i64 0, .int .u64 0, cl, p, .slice none 0 0]
/-- A stretch index in memory: its items, the blocks that it owns. -/
def Ix [Bd] (w : World) (xb : Nat) (E : List It) (F : Nat → Prop) : Prop :=
  F xb ∧ ((RowB w xb 43 (ixRow (.pointer none) (.slice none 0 0)) ∧ E = []) ∨
    ∃ (tb H : Nat) (T : Tr H) (l : Int), RowB w xb 43 (ixRow (.pointer (some ⟨tb, 0, none⟩)) (.slice none 0 0)) ∧ TreeR w tb H T l ∧ elems H T = E ∧ F tb ∧ ∀ b ∈ foot H T, F b)
/-- The stretch at hand. -/
def RR (w : World) (rb : Nat) (fv tv : Value) (r : Iv) : Prop := RowB w rb 41 [fv, tv] ∧ Bs w fv r.1 ∧ Bnd w tv r.2 ∧ By w fv ∧ By w tv
/-- The tree, and whose its blocks are. -/
def TI [Bd] (w : World) (xb tb H : Nat) (T : Tr H) (l : Int) (F : Nat → Prop) (w0 : World) : Prop :=
  RowB w xb 43 (ixRow (.pointer (some ⟨tb, 0, none⟩)) (.slice none 0 0)) ∧ TreeR w tb H T l ∧ ((F tb ∨ w0.heap.size ≤ tb) ∧ ∀ b ∈ foot H T, F b ∨ w0.heap.size ≤ b) ∧ Kep F w0 w
def CloseInv [Bd] (w0 : World) (xb rb : Nat) (F : Nat → Prop) (D : List Iv) (k : Nat) (wr : World) : Prop :=
  ∃ (tb H : Nat) (T : Tr H) (l : Int) (fv tv : Value) (r : Iv), TI wr xb tb H T l F w0 ∧ (elems H T).length = k ∧ RR wr rb fv tv r ∧ Mid (elems H T) r D
/-- The item of E that begins highest at or below the bound u. -/
def LastOf (E : List It) (u : Option Key) (v : Value) : Prop := (∃ y ∈ E, v = .pointer (some ⟨y.p, 0, none⟩) ∧ leB y.k u = true ∧ ∀ z ∈ E, leB z.k u = true → z.k ≤ y.k) ∨ (v = .pointer none ∧ ∀ z ∈ E, ¬ leB z.k u = true)

theorem RR.kep [Bd] {w w' : World} {M : Nat → Prop} {rb : Nat} {fv tv : Value} {r : Iv} (h : RR w rb fv tv r) (k : Kep M w w') (hM : TT w M) (h1 : ¬ M rb) : RR w' rb fv tv r := by
  obtain ⟨g1, g2, g3, g4, g5⟩ := h
  exact ⟨g1.kep k h1, g2.same (g4.same k hM), g3.same (g5.same k hM), g4.kep k hM, g5.kep k hM⟩
theorem TI.tt [Bd] {w w0 : World} {xb tb H : Nat} {T : Tr H} {l : Int} {F : Nat → Prop} (h : TI w xb tb H T l F w0) : TT w (fun b => b ∈ foot H T ∨ b = tb) := h.2.1.rep.tt.or (TT.one h.2.1.row (by decide) (by decide))
theorem Kep.alloc' (w : World) (o : Obj) : Kep (fun _ => False) w (w.alloc o) := (Kep.refl _ _).alloc o
theorem TI.kep [Bd] {w w' w0 : World} {M : Nat → Prop} {xb tb H : Nat} {T : Tr H} {l : Int} {F : Nat → Prop} (h : TI w xb tb H T l F w0) (k : Kep M w w') (hM : TT w M) (h1 : ¬ M xb) (h2 : ¬ M tb) (h3 : ∀ b ∈ foot H T, ¬ M b) (h4 : ∀ b, b < w0.heap.size → M b → F b) : TI w' xb tb H T l F w0 :=
  ⟨h.1.kep k h1, h.2.1.kep k hM h2 h3, h.2.2.1, h.2.2.2.trans k h4⟩
/-- Blocks apart from the tree's. -/
theorem TI.ne [Bd] {w w0 : World} {xb tb H : Nat} {T : Tr H} {l : Int} {F : Nat → Prop} (h : TI w xb tb H T l F w0) : xb ≠ tb ∧ xb ∉ foot H T ∧ tb ∉ foot H T := ⟨row_ne h.1 h.2.1.row (by decide), h.1.not_foot h.2.1.rep (by decide) (by decide) (by decide), h.2.1.row.not_foot h.2.1.rep (by decide) (by decide) (by decide)⟩

set_option maxHeartbeats 4000000 in
set_option maxRecDepth 100000 in
theorem close_core [Bd] {w : World} {xb : Nat} {E : List It} {D : List Iv} {F : Nat → Prop} {fv tv : Value} {r : Iv} (hB : Bd.B = w.heap.size) (hI : Ix w xb E F) (hG : Good E D) (hfv : Bs w fv r.1) (htv : Bnd w tv r.2) (hbf : By w fv) (hbt : By w tv) (hr : Valid r) (hsz1 : fv.oneCell' = true) (hsz2 : tv.oneCell' = true) :
    Calls Try.prog 18 #[.pointer (some ⟨xb, 0, none⟩), .agg #[fv, tv]] w fun e w' => e = .returned (.tuple #[]) ∧ ∃ (tb H : Nat) (T : Tr H) (l : Int), RowB w' xb 43 (ixRow (.pointer (some ⟨tb, 0, none⟩)) (.slice none 0 0)) ∧ @TreeR ⟨w'.heap.size⟩ w' tb H T l ∧ ((F tb ∨ w.heap.size ≤ tb) ∧ ∀ b ∈ foot H T, F b ∨ w.heap.size ≤ b) ∧ Kep F w w' ∧ Good (elems H T) (r :: D) := by
  obtain ⟨hFx, hI⟩ := hI
  have hxc : ∃ cl, w.cell? ⟨xb, 5, none⟩ = some cl ∧ xb < w.heap.size := by
    rcases hI with ⟨h, _⟩ | ⟨tb, H, T, l, h, _⟩
    · exact ⟨_, by rw [h.cell]; rfl, h.lt⟩
    · exact ⟨_, by rw [h.cell]; rfl, h.lt⟩
  have HH : Hid (Bd.B = w.heap.size ∧ F xb ∧ Good E D ∧ Valid r ∧ xb < w.heap.size) := ⟨hB, hFx, hG, hr, hxc.choose_spec.2⟩
  have HV : Hid (Bs w fv r.1 ∧ Bnd w tv r.2 ∧ By w fv ∧ By w tv) := ⟨hfv, htv, hbf, hbt⟩
  have HI : Hid ((RowB w xb 43 (ixRow (.pointer none) (.slice none 0 0)) ∧ E = []) ∨ ∃ (tb H : Nat) (T : Tr H) (l : Int), RowB w xb 43 (ixRow (.pointer (some ⟨tb, 0, none⟩)) (.slice none 0 0)) ∧ TreeR w tb H T l ∧ elems H T = E ∧ F tb ∧ ∀ b ∈ foot H T, F b) := hI
  clear hB hI hG hfv htv hbf hbt hr hFx hxc
  go_enter Try.func18, Try.ntmps18
  go_upto_region 1 with fail
  have HR : Hid (RR (w.alloc (.cells #[fv, tv] 41)) w.heap.size fv tv r ∧ Kep (fun _ => False) w (w.alloc (.cells #[fv, tv] 41))) := by
    have k := Kep.alloc' w (.cells #[fv, tv] 41)
    exact ⟨⟨row_new w 41 [fv, tv], HV.out.1.same (HV.out.2.2.1.same k (TT.false _)), HV.out.2.1.same (HV.out.2.2.2.same k (TT.false _)), HV.out.2.2.1.kep k (TT.false _), HV.out.2.2.2.kep k (TT.false _)⟩, k⟩
  obtain ⟨rb, hrb⟩ : ∃ rb, rb = w.heap.size := ⟨_, rfl⟩
  rw [← hrb] at HR ⊢
  have HRB : Hid (rb = w.heap.size) := hrb
  clear hrb
  obtain ⟨cl, bb, hcl, hcb, hcase⟩ : ∃ cl bb, (w.alloc (.cells #[fv, tv] 41)).cell? ⟨xb, 5, none⟩ = some cl ∧ ((cl = .pointer none ∧ bb = true) ∨ (∃ t : Nat, cl = .pointer (some ⟨t, 0, none⟩) ∧ bb = false)) ∧ ((bb = true ∧ RowB (w.alloc (.cells #[fv, tv] 41)) xb 43 (ixRow (.pointer none) (.slice none 0 0)) ∧ E = []) ∨ (bb = false ∧ ∃ (tb H : Nat) (T : Tr H) (l : Int), TI (w.alloc (.cells #[fv, tv] 41)) xb tb H T l F w ∧ elems H T = E)) := by
    rcases HI.out with ⟨h, hE⟩ | ⟨tb, H, T, l, h, hT, hE, h1, h2⟩
    · exact ⟨.pointer none, true, by rw [(h.kep HR.out.2 id).cell]; rfl, Or.inl ⟨rfl, rfl⟩, .inl ⟨rfl, h.kep HR.out.2 id, hE⟩⟩
    · exact ⟨.pointer (some ⟨tb, 0, none⟩), false, by rw [(h.kep HR.out.2 id).cell]; rfl, Or.inr ⟨tb, rfl, rfl⟩, .inr ⟨rfl, tb, H, T, l, ⟨h.kep HR.out.2 id, hT.kep HR.out.2 (TT.false _) id (fun _ _ => id), ⟨.inl h1, fun b hb => .inl (h2 b hb)⟩, HR.out.2.mono (fun _ _ h => h.elim)⟩, hE⟩⟩
  have HC : Hid ((bb = true ∧ RowB (w.alloc (.cells #[fv, tv] 41)) xb 43 (ixRow (.pointer none) (.slice none 0 0)) ∧ E = []) ∨ (bb = false ∧ ∃ (tb H : Nat) (T : Tr H) (l : Int), TI (w.alloc (.cells #[fv, tv] 41)) xb tb H T l F w ∧ elems H T = E)) := hcase
  clear hcase HI
  generalize w.alloc (.cells #[fv, tv] 41) = w1 at *
  go_cut [9] from 10 (fun s9 wd => s9 = .bool bb ∧ wd = w1)
  case first =>
    rcases hcb with ⟨rfl, rfl⟩ | ⟨t, rfl, rfl⟩
    · go_wp2_with fail
      go_meet
      case rel => exact ⟨rfl, rfl⟩
    · go_wp2_with fail
      go_meet
      case rel => exact ⟨rfl, rfl⟩
  have HCL : Hid (w1.cell? ⟨xb, 5, none⟩ = some cl ∧ ((cl = .pointer none ∧ bb = true) ∨ (∃ t : Nat, cl = .pointer (some ⟨t, 0, none⟩) ∧ bb = false))) := ⟨hcl, hcb⟩
  obtain ⟨rfl, hww⟩ := hcut
  obtain rfl := hww.symm
  clear hww hcl hcb
  go_upto_if 9 with fail
  go_cut [] from 5 (fun wc => ∃ (tb H : Nat) (T : Tr H) (l : Int), TI wc xb tb H T l F w ∧ elems H T = E ∧ RR wc rb fv tv r)
  case first =>
    rcases HC.out with ⟨e1, h1, h2⟩ | ⟨e1, tb, H, T, l, h1, h2⟩
    · subst e1
      have HX : Hid (RowB w1 xb 43 (ixRow (.pointer none) (.slice none 0 0)) ∧ E = []) := ⟨h1, h2⟩
      clear h1 h2 HC
      go_wp2_with fail
      refine (new_any w1).mono ?_
      rintro e w2 ⟨tb, rfl, htb, ⟨T, hT, hE, hf⟩, k2⟩
      have hx2 := HX.out.1.kep k2 id
      have H2 : Hid (RowB w2 xb 43 (ixRow (.pointer none) (.slice none 0 0)) ∧ TreeR w2 tb 0 T 0 ∧ elems 0 T = [] ∧ (∀ b ∈ foot 0 T, w1.heap.size ≤ b) ∧ w1.heap.size ≤ tb ∧ Kep (fun _ => False) w1 w2) := ⟨hx2, hT, hE, hf, htb, k2⟩
      have x5 := hx2.cell 5
      have f5 := hx2.frozen 5
      simp only [ixRow, List.getElem?_cons_zero, List.getElem?_cons_succ] at x5
      clear hx2 hT hE hf htb k2
      go_wp2_with fail
      go_meet
      case rel =>
        obtain ⟨hx2, hT, hE, hf, htb, k2⟩ := H2.out
        have hs := HR.out.2.size
        have hl := HH.out.2.2.2.2
        have hxt : xb ≠ tb := row_ne hx2 hT.row (by decide)
        have hxf : xb ∉ foot 0 T := hx2.not_foot hT.rep (by decide) (by decide) (by decide)
        have ttx : TT w2 (fun k => k = xb) := TT.one hx2 (by decide) (by decide)
        have k3 := HR.out.2.trans k2 (fun _ _ h => h)
        refine ⟨tb, 0, T, 0, ⟨hx2.set (P := [.int .i64 0, .int .i64 0, .int .i64 0, .int .i64 0, .int .u64 0]) rfl rfl, hT.kep (kep_set _ _ _ _) ttx (Ne.symm hxt) (fun b hb e => hxf (e ▸ hb)), ⟨.inr (by omega), fun b hb => .inr (by have := hf b hb; omega)⟩, (k3.mono (fun _ _ h => h.elim)).trans (kep_set _ _ _ _) (fun b _ e => by rw [e]; exact HH.out.2.1)⟩, by rw [hE, HX.out.2], ?_⟩
        exact (HR.out.1.kep k2 (TT.false _) id).kep (kep_set _ _ _ _) ttx (fun e => by have h3 : rb = w.heap.size := HRB.out; have e2 : rb = xb := e; omega)
    · subst e1
      have HX : Hid (TI w1 xb tb H T l F w ∧ elems H T = E) := ⟨h1, h2⟩
      clear h1 h2 HC
      go_wp2_with fail
      go_meet
      case rel => exact ⟨tb, H, T, l, HX.out.1, HX.out.2, HR.out.1⟩
  case rest =>
    obtain ⟨tb, H, T, l, hTI, hE, hRR⟩ := hcut
    have HS : Hid (TI wc xb tb H T l F w ∧ elems H T = E ∧ RR wc rb fv tv r) := ⟨hTI, hE, hRR⟩
    clear hTI hE hRR HC HR HCL
    go_wp2
    go_loopg [] E.length (fun k wr => CloseInv w xb rb F (r :: D) k wr)
    case atStart => exact ⟨tb, H, T, l, fv, tv, r, HS.out.1, by rw [HS.out.2.1], HS.out.2.2, by rw [HS.out.2.1]; exact HH.out.2.2.1.mid HH.out.2.2.2.1⟩
    case round =>
      obtain ⟨tb, H, T, l, f1, t1, r1, hTI, hlen, hRR, hMid⟩ := hrel
      clear HS
      have HS : Hid (TI wr xb tb H T l F w ∧ (elems H T).length = gk ∧ RR wr rb f1 t1 r1 ∧ Mid (elems H T) r1 (r :: D)) := ⟨hTI, hlen, hRR, hMid⟩
      clear hTI hlen hRR hMid
      go_upto_region 4 with fail
      have ka := Kep.alloc' wr (.cells #[.pointer none] 46)
      obtain ⟨vb, hvb⟩ : ∃ vb, vb = wr.heap.size := ⟨_, rfl⟩
      have H1 : Hid (TI (wr.alloc (.cells #[.pointer none] 46)) xb tb H T l F w ∧ RR (wr.alloc (.cells #[.pointer none] 46)) rb f1 t1 r1 ∧ RowB (wr.alloc (.cells #[.pointer none] 46)) vb 46 [.pointer none]) := ⟨HS.out.1.kep ka (TT.false _) id id (fun _ _ => id) (fun _ _ h => h.elim), HS.out.2.2.1.kep ka (TT.false _) id, by rw [hvb]; exact row_new wr 46 [.pointer none]⟩
      have HVB : Hid (vb ≠ xb ∧ vb ≠ tb ∧ vb ∉ foot H T ∧ vb ≠ rb ∧ w.heap.size ≤ vb) := by
        have hT := HS.out.1
        refine ⟨?_, ?_, fun hb => ?_, ?_, ?_⟩
        · have := hT.1.lt; omega
        · have := hT.2.1.row.lt; omega
        · have := hT.2.1.rep.lt _ hb; omega
        · have := HS.out.2.2.1.1.lt; omega
        · have := hT.2.2.2.size; omega
      have HM : Hid ((elems H T).length = gk ∧ Mid (elems H T) r1 (r :: D)) := ⟨HS.out.2.1, HS.out.2.2.2⟩
      rw [← hvb]
      clear ka HS hvb
      generalize wr.alloc (.cells #[.pointer none] 46) = w2 at *
      have rc1 := H1.out.2.1.1.cell 1
      simp only [List.getElem?_cons_zero, List.getElem?_cons_succ] at rc1
      obtain ⟨ub, hub⟩ : ∃ ub, ub = r1.2.isNone := ⟨_, rfl⟩
      go_cut [16] from 14 to 16 (fun s16 wd => s16 = .bool ub ∧ wd = w2)
      case first =>
        rcases H1.out.2.1.2.2.1.shape with ⟨e1, e2⟩ | ⟨tk, ad, n, c, e1, e2, e3⟩
        · subst e2
          rw [e1] at hub
          subst hub
          clear e1
          go_wp2_with fail
          go_meet
          case rel => exact ⟨rfl, rfl⟩
        · subst e2
          rw [e1] at hub
          subst hub
          clear e1 e3
          go_wp2_with fail
          go_meet
          case rel => exact ⟨rfl, rfl⟩
      have HUB : Hid (ub = r1.2.isNone) := hub
      obtain ⟨rfl, hww⟩ := hcut
      obtain rfl := hww.symm
      clear hww hub
      go_upto_if 16 with fail
      go_cut [] from 14 to 80 (fun wd => ∃ lv, RowB wd vb 46 [lv] ∧ LastOf (elems H T) r1.2 lv ∧ TI wd xb tb H T l F w ∧ RR wd rb f1 t1 r1)
      case first =>
        have x5 := H1.out.1.1.cell 5
        simp only [ixRow, List.getElem?_cons_zero, List.getElem?_cons_succ] at x5
        rcases H1.out.2.1.2.2.1.shape with ⟨e1, e2⟩ | ⟨tk, ad, n, c, e1, e2, e3⟩
        · have hubt : ub = true := by rw [HUB.out, e1]; rfl
          have HU : Hid (r1.2 = none) := e1
          subst hubt
          clear e1 e2
          go_wp2_with fail
          refine (Descend_one H1.out.1.2.1 H1.out.2.2).mono ?_
          rintro e w3 ⟨rfl, hd⟩
          have HD : Hid ((elems H T = [] ∧ w3 = w2) ∨ (∃ y E', elems H T = E' ++ [y] ∧ w3 = w2.setCell ⟨vb, 0, none⟩ (.pointer (some ⟨y.p, 0, none⟩)))) := hd
          clear hd
          go_wp2_with fail
          go_meet
          case rel =>
            rcases HD.out with ⟨h1, rfl⟩ | ⟨y, E', h1, rfl⟩
            · exact ⟨_, H1.out.2.2, .inr ⟨rfl, fun z hz => by rw [h1] at hz; cases hz⟩, H1.out.1, H1.out.2.1⟩
            · have ttv : TT w2 (fun k => k = vb) := TT.one H1.out.2.2 (by decide) (by decide)
              refine ⟨_, H1.out.2.2.set (P := []) rfl rfl, .inl ⟨y, by rw [h1]; simp, rfl, by rw [HU.out]; rfl, fun z hz _ => ?_⟩, H1.out.1.kep (kep_set _ _ _ _) ttv (Ne.symm HVB.out.1) (Ne.symm HVB.out.2.1) (fun b hb e => HVB.out.2.2.1 (e ▸ hb)) (fun b hb e => by have := HVB.out.2.2.2.2; have e2 : b = vb := e; omega), H1.out.2.1.kep (kep_set _ _ _ _) ttv (Ne.symm HVB.out.2.2.2.1)⟩
              have hs := (H1.out.1.2.1.inv.elems).1
              rw [h1] at hz hs
              rw [List.pairwise_append] at hs
              rcases List.mem_append.1 hz with hz | hz
              · have := hs.2.2 z hz y (by simp); grind
              · simp at hz; subst hz; grind
        · subst e2
          have hubf : ub = false := by rw [HUB.out, e1]; rfl
          have HU : Hid (r1.2 = some tk ∧ Bs w2 (.slice (some ad) n c) tk) := ⟨e1, e3⟩
          subst hubf
          clear e1 e3
          have f6 := H1.out.1.1.frozen 6
          have x6 := H1.out.1.1.cell 6
          simp only [ixRow, List.getElem?_cons_zero, List.getElem?_cons_succ] at x6
          go_upto_region 7 with fail
          have kA : Kep (fun k => k = xb) w2 (w2.setCell ⟨xb, 6, none⟩ (.slice (some ad) n c)) := kep_set _ _ _ _
          have ttx : TT w2 (fun k => k = xb) := TT.one H1.out.1.1 (by decide) (by decide)
          have hne := H1.out.1.ne
          have HB1 : Hid (RowB (w2.setCell ⟨xb, 6, none⟩ (.slice (some ad) n c)) xb 43 (ixRow (.pointer (some ⟨tb, 0, none⟩)) (.slice (some ad) n c)) ∧ TreeR (w2.setCell ⟨xb, 6, none⟩ (.slice (some ad) n c)) tb H T l ∧ RowB (w2.setCell ⟨xb, 6, none⟩ (.slice (some ad) n c)) vb 46 [.pointer none] ∧ RR (w2.setCell ⟨xb, 6, none⟩ (.slice (some ad) n c)) rb f1 (.slice (some ad) n c) r1 ∧ KAt (w2.setCell ⟨xb, 6, none⟩ (.slice (some ad) n c)) ⟨xb, 6, none⟩ tk ∧ Kep (fun k => k = xb) w2 (w2.setCell ⟨xb, 6, none⟩ (.slice (some ad) n c))) := by
            have hrow := H1.out.1.1.set (P := [.int .i64 0, .int .i64 0, .int .i64 0, .int .i64 0, .int .u64 0, .pointer (some ⟨tb, 0, none⟩)]) (o := 6) (v := (.slice (some ad) n c)) rfl rfl
            have hR := H1.out.2.1.kep kA ttx (fun e => by have h3 : rb = w.heap.size := HRB.out; have e2 : rb = xb := e; have := HH.out.2.2.2.2; omega)
            refine ⟨hrow, H1.out.1.2.1.kep kA ttx (Ne.symm hne.1) (fun b hb e => hne.2.1 (e ▸ hb)), H1.out.2.2.kep kA HVB.out.1, hR, ⟨(.slice (some ad) n c), by rw [hrow.cell]; rfl, ?_⟩, kA⟩
            exact HU.out.2.same (H1.out.2.1.2.2.2.2.same kA ttx)
          clear kA ttx x5 x6 f6
          generalize w2.setCell ⟨xb, 6, none⟩ (.slice (some ad) n c) = wA at *
          have kdr := (Kep.refl (fun _ => False) wA).drew
          have HB2 : Hid (RowB wA.drew xb 43 (ixRow (.pointer (some ⟨tb, 0, none⟩)) (.slice (some ad) n c)) ∧ TreeR wA.drew tb H T l ∧ RowB wA.drew vb 46 [.pointer none] ∧ RR wA.drew rb f1 (.slice (some ad) n c) r1 ∧ KAt wA.drew ⟨xb, 6, none⟩ tk ∧ Kep (fun k => k = xb) w2 wA.drew) := ⟨HB1.out.1.kep kdr id, HB1.out.2.1.kep kdr (TT.false _) id (fun _ _ => id), HB1.out.2.2.1.kep kdr id, HB1.out.2.2.2.1.kep kdr (TT.false _) id, HB1.out.2.2.2.2.1.drewN 1, HB1.out.2.2.2.2.2.drew⟩
          have HA : Hid (wA.drew.cell? ⟨xb, 5, none⟩ = some (.pointer (some ⟨tb, 0, none⟩))) := by rw [HB2.out.1.cell]; rfl
          clear kdr HB1
          refine wp_region_noPanic ?_
          refine wp_region_held_drew (S := fun w' => w'.cell? ⟨xb, 5, none⟩ = some (.pointer (some ⟨tb, 0, none⟩))) (by kernel_rfl) HA.out (fun hHeld => ?_)
          generalize wA.drew = wB at *
          clear HA
          refine wpAnyH_take (i := 0) (v := .pointer (some ⟨xb, 0, none⟩)) rfl (by kernel_rfl) (by kernel_rfl) (by kernel_rfl) (fun _ _ _ h => h) (Or.inl ⟨by rfl, fun w' hSw => by kernel_rfl⟩) hHeld ?_
          try simp only [Act.put, List.getElem_toArray, List.getElem_cons_succ, List.getElem_cons_zero, List.setIfInBounds_toArray, List.set_cons_zero, List.set_cons_succ]
          refine wpAnyH_take (i := 1) (v := .pointer (some ⟨xb, 0, none⟩)) rfl (by kernel_rfl) (by kernel_rfl) (by kernel_rfl) (fun _ _ _ h => h) (Or.inl ⟨by rfl, fun w' hSw => by go_simp⟩) hHeld ?_
          try simp only [Act.put, List.getElem_toArray, List.getElem_cons_succ, List.getElem_cons_zero, List.setIfInBounds_toArray, List.set_cons_zero, List.set_cons_succ]
          refine wpAnyH_take (i := 2) (v := .pointer (some ⟨xb, 5, none⟩)) rfl (by kernel_rfl) (by kernel_rfl) (by kernel_rfl) (fun _ _ _ h => h) (Or.inl ⟨by rfl, fun w' hSw => by go_simp⟩) hHeld ?_
          try simp only [Act.put, List.getElem_toArray, List.getElem_cons_succ, List.getElem_cons_zero, List.setIfInBounds_toArray, List.set_cons_zero, List.set_cons_succ]
          refine wpAnyH_take (i := 3) (v := .pointer (some ⟨tb, 0, none⟩)) rfl (by kernel_rfl) (by kernel_rfl) (by kernel_rfl) (fun _ _ _ h => h) (Or.inl ⟨by rfl, fun w' hSw => by (have h := hSw; go_simp)⟩) hHeld ?_
          try simp only [Act.put, List.getElem_toArray, List.getElem_cons_succ, List.getElem_cons_zero, List.setIfInBounds_toArray, List.set_cons_zero, List.set_cons_succ]
          refine wpAnyH_take (i := 4) (v := .pointer (some ⟨xb, 0, none⟩)) rfl (by kernel_rfl) (by kernel_rfl) (by kernel_rfl) (fun _ _ _ h => h) (Or.inl ⟨by rfl, fun w' hSw => by kernel_rfl⟩) hHeld ?_
          try simp only [Act.put, List.getElem_toArray, List.getElem_cons_succ, List.getElem_cons_zero, List.setIfInBounds_toArray, List.set_cons_zero, List.set_cons_succ]
          refine wpAnyH_take (i := 5) (v := .pointer (some ⟨xb, 0, none⟩)) rfl (by kernel_rfl) (by kernel_rfl) (by kernel_rfl) (fun _ _ _ h => h) (Or.inl ⟨by rfl, fun w' hSw => by go_simp⟩) hHeld ?_
          try simp only [Act.put, List.getElem_toArray, List.getElem_cons_succ, List.getElem_cons_zero, List.setIfInBounds_toArray, List.set_cons_zero, List.set_cons_succ]
          refine wpAnyH_take (i := 6) (v := .pointer (some ⟨xb, 6, none⟩)) rfl (by kernel_rfl) (by kernel_rfl) (by kernel_rfl) (fun _ _ _ h => h) (Or.inl ⟨by rfl, fun w' hSw => by go_simp⟩) hHeld ?_
          try simp only [Act.put, List.getElem_toArray, List.getElem_cons_succ, List.getElem_cons_zero, List.setIfInBounds_toArray, List.set_cons_zero, List.set_cons_succ]
          refine wpAnyH_ready (rs := [7]) (by kernel_rfl) (by simp) ?_
          refine AllReadyH.cons rfl (fun K hK => ?_) AllReadyH.nil
          go_simp
          refine Calls.mono (floor_any HB2.out.2.1 HB2.out.2.2.2.2.1) ?_
          rintro e w3 ⟨⟨lv, bv, rfl, hlv⟩, d, rfl⟩
          have HL : Hid (FloorOf (elems H T) tk lv ∧ (∃ a, lv = .pointer a)) := ⟨hlv, by rcases hlv with ⟨y, _, e, _⟩ | ⟨e, _⟩; exact ⟨_, e⟩; exact ⟨_, e⟩⟩
          have kdn := (Kep.refl (fun _ => False) wB).drewN d
          have HB3 : Hid (RowB (wB.drewN d) xb 43 (ixRow (.pointer (some ⟨tb, 0, none⟩)) (.slice (some ad) n c)) ∧ TreeR (wB.drewN d) tb H T l ∧ RowB (wB.drewN d) vb 46 [.pointer none] ∧ RR (wB.drewN d) rb f1 (.slice (some ad) n c) r1 ∧ KAt (wB.drewN d) ⟨xb, 6, none⟩ tk ∧ Kep (fun k => k = xb) w2 (wB.drewN d)) := ⟨HB2.out.1.drewN d, HB2.out.2.1.kep kdn (TT.false _) id (fun _ _ => id), HB2.out.2.2.1.drewN d, HB2.out.2.2.2.1.kep kdn (TT.false _) id, HB2.out.2.2.2.2.1.drewN d, HB2.out.2.2.2.2.2.drewN d⟩
          have hx5 : (wB.drewN d).cell? ⟨xb, 5, none⟩ = some (.pointer (some ⟨tb, 0, none⟩)) := by rw [HB3.out.1.cell]; rfl
          refine hK.out _ _ hx5 (fun hHeld2 => ?_)
          clear hK hHeld hlv kdn HB2 hx5
          generalize wB.drewN d = wC at *
          try simp only [Act.put, List.getElem_toArray, List.getElem_cons_succ, List.getElem_cons_zero, List.setIfInBounds_toArray, List.set_cons_zero, List.set_cons_succ]
          refine wpAnyH_take (i := 8) (v := .tuple #[lv, bv]) rfl (by kernel_rfl) (by kernel_rfl) (by kernel_rfl) (fun _ _ _ h => h) (Or.inl ⟨by rfl, fun w' hSw => by kernel_rfl⟩) hHeld2 ?_
          try simp only [Act.put, List.getElem_toArray, List.getElem_cons_succ, List.getElem_cons_zero, List.setIfInBounds_toArray, List.set_cons_zero, List.set_cons_succ]
          refine wpAnyH_take (i := 9) (v := lv) rfl (by kernel_rfl) (by kernel_rfl) (by kernel_rfl) (fun _ _ _ h => h) (Or.inl ⟨by rfl, fun w' hSw => by kernel_rfl⟩) hHeld2 ?_
          try simp only [Act.put, List.getElem_toArray, List.getElem_cons_succ, List.getElem_cons_zero, List.setIfInBounds_toArray, List.set_cons_zero, List.set_cons_succ]
          refine wpAnyH_take (i := 10) (v := bv) rfl (by kernel_rfl) (by kernel_rfl) (by kernel_rfl) (fun _ _ _ h => h) (Or.inl ⟨by rfl, fun w' hSw => by kernel_rfl⟩) hHeld2 ?_
          try simp only [Act.put, List.getElem_toArray, List.getElem_cons_succ, List.getElem_cons_zero, List.setIfInBounds_toArray, List.set_cons_zero, List.set_cons_succ]
          refine wpAnyH_ready (rs := [11]) (by kernel_rfl) (by simp) ?_
          refine AllReadyH.cons rfl (fun K hK => ?_) AllReadyH.nil
          obtain ⟨la, hla⟩ := HL.out.2
          have HLA : Hid (lv = .pointer la) := hla
          subst hla
          have c0 := HB3.out.2.2.1.cell 0
          have f0 := HB3.out.2.2.1.frozen 0
          simp only [List.getElem?_cons_zero] at c0
          go_simp
          have kv : Kep (fun k => k = vb) wC (wC.setCell ⟨vb, 0, none⟩ (.pointer la)) := kep_set _ _ _ _
          have ttv : TT wC (fun k => k = vb) := TT.one HB3.out.2.2.1 (by decide) (by decide)
          have HB4 : Hid (RowB (wC.setCell ⟨vb, 0, none⟩ (.pointer la)) xb 43 (ixRow (.pointer (some ⟨tb, 0, none⟩)) (.slice (some ad) n c)) ∧ TreeR (wC.setCell ⟨vb, 0, none⟩ (.pointer la)) tb H T l ∧ RowB (wC.setCell ⟨vb, 0, none⟩ (.pointer la)) vb 46 [.pointer la] ∧ RR (wC.setCell ⟨vb, 0, none⟩ (.pointer la)) rb f1 (.slice (some ad) n c) r1 ∧ Kep (fun k => k = xb ∨ k = vb) w2 (wC.setCell ⟨vb, 0, none⟩ (.pointer la))) := ⟨HB3.out.1.kep kv (Ne.symm HVB.out.1), HB3.out.2.1.kep kv ttv (Ne.symm HVB.out.2.1) (fun b hb e => HVB.out.2.2.1 (e ▸ hb)), HB3.out.2.2.1.set (P := []) rfl rfl, HB3.out.2.2.2.1.kep kv ttv (Ne.symm HVB.out.2.2.2.1), (HB3.out.2.2.2.2.2.mono (fun _ _ h => .inl h)).trans kv (fun _ _ h => .inr h)⟩
          have hx5 : (wC.setCell ⟨vb, 0, none⟩ (.pointer la)).cell? ⟨xb, 5, none⟩ = some (.pointer (some ⟨tb, 0, none⟩)) := by rw [HB4.out.1.cell]; rfl
          refine hK.out _ _ hx5 (fun hHeld3 => ?_)
          clear hK c0 f0 hx5 hHeld2 kv ttv HB3
          generalize wC.setCell ⟨vb, 0, none⟩ (.pointer la) = wD at *
          try simp only [Act.put, List.getElem_toArray, List.getElem_cons_succ, List.getElem_cons_zero, List.setIfInBounds_toArray, List.set_cons_zero, List.set_cons_succ]
          refine wpAnyH_done (by kernel_rfl) ?_ _
          refine NoPanic.normal ?_
          clear hHeld3
          have x6 := HB4.out.1.cell 6
          have f6 := HB4.out.1.frozen 6
          simp only [ixRow, List.getElem?_cons_zero, List.getElem?_cons_succ] at x6
          go_wp2_with fail
          go_meet
          case rel =>
            have kx : Kep (fun k => k = xb) wD (wD.setCell ⟨xb, 6, none⟩ (.slice none 0 0)) := kep_set _ _ _ _
            have ttx : TT wD (fun k => k = xb) := TT.one HB4.out.1 (by decide) (by decide)
            have hrx : rb ≠ xb := fun e => by have h3 : rb = w.heap.size := HRB.out; have := HH.out.2.2.2.2; omega
            refine ⟨_, HB4.out.2.2.1.kep kx HVB.out.1, ?_, ⟨HB4.out.1.set (P := [.int .i64 0, .int .i64 0, .int .i64 0, .int .i64 0, .int .u64 0, .pointer (some ⟨tb, 0, none⟩)]) (o := 6) rfl rfl, HB4.out.2.1.kep kx ttx (Ne.symm hne.1) (fun b hb e => hne.2.1 (e ▸ hb)), H1.out.1.2.2.1, (H1.out.1.2.2.2.trans HB4.out.2.2.2.2 (fun b hb hm => ?_)).trans kx (fun b _ e => by rw [e]; exact HH.out.2.1)⟩, HB4.out.2.2.2.1.kep kx ttx hrx⟩
            · rw [HU.out.1]
              have hlb : ∀ k, (leB k (some tk) = true) ↔ k ≤ tk := fun k => by simp [leB]
              rcases HL.out.1 with ⟨y, hy, e, h1, h2⟩ | ⟨e, h1⟩
              · exact .inl ⟨y, hy, e, (hlb _).2 h1, fun z hz hzl => h2 z hz ((hlb _).1 hzl)⟩
              · exact .inr ⟨e, fun z hz hzl => h1 z hz ((hlb _).1 hzl)⟩
            · rcases hm with e | e
              · rw [e]; exact HH.out.2.1
              · have := HVB.out.2.2.2.2; omega
      case rest =>
        obtain ⟨lv, hvr, hlast, hTI, hRR⟩ := hcut
        clear H1 rc1 HUB
        rcases hlast with ⟨y, hy, rfl, hle, htop⟩ | ⟨rfl, hnone⟩
        · have hkr := hTI.2.1.rep.krs y hy
          obtain ⟨fy, uy, k1, k2, k3, k4, k5, k6⟩ := hkr
          obtain ⟨ga, gc, rfl, _⟩ : ∃ a c, fy = .slice a y.k.length c ∧ True := by obtain ⟨a, c, e, _⟩ := k2; exact ⟨a, c, e, trivial⟩
          obtain ⟨fa, fc, rfl, _⟩ : ∃ a c, f1 = .slice a r1.1.length c ∧ True := by obtain ⟨a, c, e, _⟩ := hRR.2.1; exact ⟨a, c, e, trivial⟩
          obtain ⟨ua, un, uc, rfl⟩ : ∃ a n c, uy = .slice a n c := by rcases k3.shape with ⟨_, e⟩ | ⟨_, a, n, c, _, e, _⟩; exact ⟨_, _, _, e⟩; exact ⟨_, _, _, e⟩
          obtain ⟨ta, tn, tc, rfl⟩ : ∃ a n c, t1 = .slice a n c := by rcases hRR.2.2.1.shape with ⟨_, e⟩ | ⟨_, a, n, c, _, e, _⟩; exact ⟨_, _, _, e⟩; exact ⟨_, _, _, e⟩
          generalize y.k.length = gn at *
          generalize r1.1.length = fn at *
          have HY : Hid (y ∈ elems H T ∧ leB y.k r1.2 = true ∧ (∀ z ∈ elems H T, leB z.k r1.2 = true → z.k ≤ y.k) ∧ y.p < Bd.B) := ⟨hy, hle, htop, k6⟩
          have HZ : Hid (TI wc xb tb H T l F w ∧ RR wc rb (.slice fa fn fc) (.slice ta tn tc) r1 ∧ (RowB wc y.p 41 [(.slice ga gn gc), (.slice ua un uc)] ∧ Bs wc (.slice ga gn gc) y.k ∧ Bnd wc (.slice ua un uc) y.u ∧ By wc (.slice ga gn gc) ∧ By wc (.slice ua un uc)) ∧ RowB wc vb 46 [.pointer (some ⟨y.p, 0, none⟩)]) := ⟨hTI, hRR, ⟨k1, k2, k3, k4, k5⟩, hvr⟩
          clear hTI hRR hvr hy hle htop k1 k2 k3 k4 k5 k6
          go_upto_region 9 with fail
          have kdr := (Kep.refl (fun _ => False) wc).drew
          have HZ1 : Hid (TI wc.drew xb tb H T l F w ∧ RR wc.drew rb (.slice fa fn fc) (.slice ta tn tc) r1 ∧ (RowB wc.drew y.p 41 [(.slice ga gn gc), (.slice ua un uc)] ∧ Bs wc.drew (.slice ga gn gc) y.k ∧ Bnd wc.drew (.slice ua un uc) y.u ∧ By wc.drew (.slice ga gn gc) ∧ By wc.drew (.slice ua un uc)) ∧ RowB wc.drew vb 46 [.pointer (some ⟨y.p, 0, none⟩)]) := ⟨HZ.out.1.kep kdr (TT.false _) id id (fun _ _ => id) (fun _ _ h => h.elim), HZ.out.2.1.kep kdr (TT.false _) id, ⟨HZ.out.2.2.1.1.kep kdr id, HZ.out.2.2.1.2.1.same (HZ.out.2.2.1.2.2.2.1.same kdr (TT.false _)), HZ.out.2.2.1.2.2.1.same (HZ.out.2.2.1.2.2.2.2.same kdr (TT.false _)), HZ.out.2.2.1.2.2.2.1.kep kdr (TT.false _), HZ.out.2.2.1.2.2.2.2.kep kdr (TT.false _)⟩, HZ.out.2.2.2.kep kdr id⟩
          clear kdr HZ
          refine wp_region_noPanic ?_
          refine wp_region_held_drew (S := fun w' => w'.cell? ⟨vb, 0, none⟩ = some (.pointer (some ⟨y.p, 0, none⟩)) ∧ w'.cell? ⟨y.p, 0, none⟩ = some (.slice ga gn gc) ∧ w'.cell? ⟨y.p, 1, none⟩ = some (.slice ua un uc) ∧ w'.cell? ⟨rb, 0, none⟩ = some (.slice fa fn fc) ∧ w'.cell? ⟨rb, 1, none⟩ = some (.slice ta tn tc)) (by kernel_rfl) ⟨by rw [HZ1.out.2.2.2.cell]; rfl, by rw [HZ1.out.2.2.1.1.cell]; rfl, by rw [HZ1.out.2.2.1.1.cell]; rfl, by rw [HZ1.out.2.1.1.cell]; rfl, by rw [HZ1.out.2.1.1.cell]; rfl⟩ (fun hHeld => ?_)
          generalize wc.drew = wA at *
          refine wpAnyH_take (i := 0) (v := .pointer (some ⟨y.p, 0, none⟩)) rfl (by kernel_rfl) (by kernel_rfl) (by kernel_rfl) (fun _ _ _ h => h) (Or.inl ⟨by rfl, fun w' hSw => by (have h := hSw.1; go_simp)⟩) hHeld ?_
          try simp only [Act.put, List.getElem_toArray, List.getElem_cons_succ, List.getElem_cons_zero, List.setIfInBounds_toArray, List.set_cons_zero, List.set_cons_succ]
          refine wpAnyH_take (i := 1) (v := .bool false) rfl (by kernel_rfl) (by kernel_rfl) (by kernel_rfl) (fun _ _ _ h => h) (Or.inl ⟨by rfl, fun w' hSw => by go_simp⟩) hHeld ?_
          try simp only [Act.put, List.getElem_toArray, List.getElem_cons_succ, List.getElem_cons_zero, List.setIfInBounds_toArray, List.set_cons_zero, List.set_cons_succ]
          refine wpAnyH_take (i := 2) (v := .bool false) rfl (by kernel_rfl) (by kernel_rfl) (by kernel_rfl) (fun _ _ _ h => h) (Or.inl ⟨by rfl, fun w' hSw => by kernel_rfl⟩) hHeld ?_
          try simp only [Act.put, List.getElem_toArray, List.getElem_cons_succ, List.getElem_cons_zero, List.setIfInBounds_toArray, List.set_cons_zero, List.set_cons_succ]
          refine wpAnyH_take (i := 3) (v := .pointer (some ⟨y.p, 0, none⟩)) rfl (by kernel_rfl) (by kernel_rfl) (by kernel_rfl) (fun _ _ _ h => h) (Or.inl ⟨by rfl, fun w' hSw => by (have h := hSw.1; go_simp)⟩) hHeld ?_
          try simp only [Act.put, List.getElem_toArray, List.getElem_cons_succ, List.getElem_cons_zero, List.setIfInBounds_toArray, List.set_cons_zero, List.set_cons_succ]
          refine wpAnyH_take (i := 4) (v := .pointer (some ⟨y.p, 0, none⟩)) rfl (by kernel_rfl) (by kernel_rfl) (by kernel_rfl) (fun _ _ _ h => h) (Or.inl ⟨by rfl, fun w' hSw => by go_simp⟩) hHeld ?_
          try simp only [Act.put, List.getElem_toArray, List.getElem_cons_succ, List.getElem_cons_zero, List.setIfInBounds_toArray, List.set_cons_zero, List.set_cons_succ]
          refine wpAnyH_take (i := 5) (v := .agg #[.slice ga gn gc, .slice ua un uc]) rfl (by kernel_rfl) (by kernel_rfl) (by kernel_rfl) (fun _ _ _ h => h) (Or.inl ⟨by rfl, fun w' hSw => by (have h1 := hSw.2.1; have h2 := hSw.2.2.1; go_simp)⟩) hHeld ?_
          try simp only [Act.put, List.getElem_toArray, List.getElem_cons_succ, List.getElem_cons_zero, List.setIfInBounds_toArray, List.set_cons_zero, List.set_cons_succ]
          refine wpAnyH_take (i := 6) (v := .agg #[.slice fa fn fc, .slice ta tn tc]) rfl (by kernel_rfl) (by kernel_rfl) (by kernel_rfl) (fun _ _ _ h => h) (Or.inl ⟨by rfl, fun w' hSw => by (have h1 := hSw.2.2.2.1; have h2 := hSw.2.2.2.2; go_simp)⟩) hHeld ?_
          try simp only [Act.put, List.getElem_toArray, List.getElem_cons_succ, List.getElem_cons_zero, List.setIfInBounds_toArray, List.set_cons_zero, List.set_cons_succ]
          refine wpAnyH_ready (rs := [7]) (by kernel_rfl) (by simp) ?_
          refine AllReadyH.cons rfl (fun K hK => ?_) AllReadyH.nil
          go_simp
          refine Calls.mono (meets_any HZ1.out.2.2.1.2.1 HZ1.out.2.2.1.2.2.1 HZ1.out.2.1.2.1 HZ1.out.2.1.2.2.1) ?_
          rintro e wB ⟨rfl, hbel⟩
          have kb : Kep (fun _ => False) wA wB := Below.kep hbel
          have HZ2 : Hid (TI wB xb tb H T l F w ∧ RR wB rb (.slice fa fn fc) (.slice ta tn tc) r1 ∧ (RowB wB y.p 41 [(.slice ga gn gc), (.slice ua un uc)] ∧ Bs wB (.slice ga gn gc) y.k ∧ Bnd wB (.slice ua un uc) y.u ∧ By wB (.slice ga gn gc) ∧ By wB (.slice ua un uc)) ∧ RowB wB vb 46 [.pointer (some ⟨y.p, 0, none⟩)]) := ⟨HZ1.out.1.kep kb (TT.false _) id id (fun _ _ => id) (fun _ _ h => h.elim), HZ1.out.2.1.kep kb (TT.false _) id, ⟨HZ1.out.2.2.1.1.kep kb id, HZ1.out.2.2.1.2.1.same (HZ1.out.2.2.1.2.2.2.1.same kb (TT.false _)), HZ1.out.2.2.1.2.2.1.same (HZ1.out.2.2.1.2.2.2.2.same kb (TT.false _)), HZ1.out.2.2.1.2.2.2.1.kep kb (TT.false _), HZ1.out.2.2.1.2.2.2.2.kep kb (TT.false _)⟩, HZ1.out.2.2.2.kep kb id⟩
          refine hK.out _ _ ⟨by rw [HZ2.out.2.2.2.cell]; rfl, by rw [HZ2.out.2.2.1.1.cell]; rfl, by rw [HZ2.out.2.2.1.1.cell]; rfl, by rw [HZ2.out.2.1.1.cell]; rfl, by rw [HZ2.out.2.1.1.cell]; rfl⟩ (fun hHeld2 => ?_)
          clear hK hHeld hbel kb HZ1
          try simp only [Act.put, List.getElem_toArray, List.getElem_cons_succ, List.getElem_cons_zero, List.setIfInBounds_toArray, List.set_cons_zero, List.set_cons_succ]
          obtain ⟨bm, hbm⟩ : ∃ bm, bm = (leB r1.1 y.u && leB y.k r1.2) := ⟨_, rfl⟩
          rw [← hbm]
          refine wpAnyH_take (i := 8) (v := .bool (!bm)) rfl (by kernel_rfl) (by kernel_rfl) (by kernel_rfl) (fun _ _ _ h => h) (Or.inl ⟨by rfl, fun w' hSw => by kernel_rfl⟩) hHeld2 ?_
          try simp only [Act.put, List.getElem_toArray, List.getElem_cons_succ, List.getElem_cons_zero, List.setIfInBounds_toArray, List.set_cons_zero, List.set_cons_succ]
          refine wpAnyH_take (i := 9) (v := .bool (!bm)) rfl (by kernel_rfl) (by kernel_rfl) (by kernel_rfl) (fun _ _ _ h => h) (Or.inl ⟨by rfl, fun w' hSw => by kernel_rfl⟩) hHeld2 ?_
          try simp only [Act.put, List.getElem_toArray, List.getElem_cons_succ, List.getElem_cons_zero, List.setIfInBounds_toArray, List.set_cons_zero, List.set_cons_succ]
          refine wpAnyH_done (by kernel_rfl) ?_ _
          refine NoPanic.normal ?_
          clear hHeld2
          have HBM : Hid (bm = (leB r1.1 y.u && leB y.k r1.2)) := hbm
          clear hbm
          cases bm with
          | false =>
            have HZ3 : Hid (TI wB xb tb H T l F w ∧ RR wB rb (.slice fa fn fc) (.slice ta tn tc) r1 ∧ ∀ y ∈ elems H T, (∃ t, y.u = some t ∧ t < r1.1) ∨ (∃ t, r1.2 = some t ∧ t < y.k)) := by
              refine ⟨HZ2.out.1, HZ2.out.2.1, HM.out.2.sep.apart (HZ2.out.1.2.1.inv.elems).1 HM.out.2.val HY.out.1 HY.out.2.1 HY.out.2.2.1 (fun hh => ?_)⟩
              have := HBM.out
              rw [hh.1, hh.2] at this
              cases this
            have x5 := HZ3.out.1.1.cell 5
            simp only [ixRow, List.getElem?_cons_zero, List.getElem?_cons_succ] at x5
            clear HZ2
            go_wp2_with fail
            have hx : @KR ⟨wB.heap.size⟩ wB ⟨rb, r1.1, r1.2⟩ := ⟨_, _, HZ3.out.2.1.1, HZ3.out.2.1.2.1, HZ3.out.2.1.2.2.1, HZ3.out.2.1.2.2.2.1, HZ3.out.2.1.2.2.2.2, HZ3.out.2.1.1.lt⟩
            have hgr : @TreeR ⟨wB.heap.size⟩ wB tb H T l := TreeR.grow (a := Bd.B) (by rw [HH.out.1]; exact HZ3.out.1.2.2.2.size) HZ3.out.1.2.1
            refine (@set_any ⟨wB.heap.size⟩ wB tb H T ⟨rb, r1.1, r1.2⟩ l hgr hx (HM.out.2.sep.add (x := ⟨rb, r1.1, r1.2⟩) (F := elems H T ++ [⟨rb, r1.1, r1.2⟩]) HM.out.2.val (fun y => by simp) HZ3.out.2.2).2).mono ?_
            rintro e w9 ⟨⟨v9, rfl⟩, H', T', l', hT', hm', hs', hk'⟩
            have HQ : Hid (@TreeR ⟨wB.heap.size⟩ w9 tb H' T' l' ∧ (∀ y, y ∈ elems H' T' ↔ y ∈ elems H T ∨ y = (⟨rb, r1.1, r1.2⟩ : It)) ∧ (∀ b ∈ foot H' T', b ∈ foot H T ∨ wB.heap.size ≤ b) ∧ Kep (fun b => b ∈ foot H T ∨ b = tb) wB w9) := ⟨hT', hm', hs', hk'⟩
            clear hx hgr hT' hm' hs' hk'
            go_wp2
            go_end0
            obtain ⟨hT', hm', hs', hk'⟩ := HQ.out
            obtain ⟨hTI, hRR, hap⟩ := HZ3.out
            have hne := hTI.ne
            refine ⟨rfl, tb, H', T', l', hTI.1.kep hk' (fun e => e.elim hne.2.1 hne.1), TreeR.grow hk'.size hT', ⟨hTI.2.2.1.1, fun b hb => ?_⟩, hTI.2.2.2.trans hk' (fun b hb hm => ?_), HM.out.2.done (x := ⟨rb, r1.1, r1.2⟩) rfl hm' hap⟩
            · rcases hs' b hb with h1 | h1
              · exact hTI.2.2.1.2 b h1
              · exact .inr (Nat.le_trans hTI.2.2.2.size h1)
            · rcases hm with h1 | h1
              · rcases hTI.2.2.1.2 b h1 with h2 | h2
                · exact h2
                · omega
              · rw [h1] at hb ⊢
                rcases hTI.2.2.1.1 with h2 | h2
                · exact h2
                · omega
          | true =>
            have HME : Hid (leB r1.1 y.u = true) := by
              have := HBM.out
              rw [HY.out.2.1, Bool.and_true] at this
              exact this.symm
            clear HBM
            go_upto_region 10 with fail
            have kdr := (Kep.refl (fun _ => False) wB).drew
            have HZ3 : Hid (TI wB.drew xb tb H T l F w ∧ RR wB.drew rb (.slice fa fn fc) (.slice ta tn tc) r1 ∧ (RowB wB.drew y.p 41 [(.slice ga gn gc), (.slice ua un uc)] ∧ Bs wB.drew (.slice ga gn gc) y.k ∧ Bnd wB.drew (.slice ua un uc) y.u ∧ By wB.drew (.slice ga gn gc) ∧ By wB.drew (.slice ua un uc)) ∧ RowB wB.drew vb 46 [.pointer (some ⟨y.p, 0, none⟩)]) := ⟨HZ2.out.1.kep kdr (TT.false _) id id (fun _ _ => id) (fun _ _ h => h.elim), HZ2.out.2.1.kep kdr (TT.false _) id, ⟨HZ2.out.2.2.1.1.kep kdr id, HZ2.out.2.2.1.2.1.same (HZ2.out.2.2.1.2.2.2.1.same kdr (TT.false _)), HZ2.out.2.2.1.2.2.1.same (HZ2.out.2.2.1.2.2.2.2.same kdr (TT.false _)), HZ2.out.2.2.1.2.2.2.1.kep kdr (TT.false _), HZ2.out.2.2.1.2.2.2.2.kep kdr (TT.false _)⟩, HZ2.out.2.2.2.kep kdr id⟩
            clear kdr HZ2
            refine wp_region_noPanic ?_
            refine wp_region_held_drew (S := fun w' => w'.cell? ⟨xb, 5, none⟩ = some (.pointer (some ⟨tb, 0, none⟩)) ∧ w'.cell? ⟨vb, 0, none⟩ = some (.pointer (some ⟨y.p, 0, none⟩))) (by kernel_rfl) ⟨by rw [HZ3.out.1.1.cell]; rfl, by rw [HZ3.out.2.2.2.cell]; rfl⟩ (fun hHeld => ?_)
            generalize wB.drew = wC at *
            refine wpAnyH_take (i := 0) (v := .pointer (some ⟨xb, 0, none⟩)) rfl (by kernel_rfl) (by kernel_rfl) (by kernel_rfl) (fun _ _ _ h => h) (Or.inl ⟨by rfl, fun w' hSw => by kernel_rfl⟩) hHeld ?_
            try simp only [Act.put, List.getElem_toArray, List.getElem_cons_succ, List.getElem_cons_zero, List.setIfInBounds_toArray, List.set_cons_zero, List.set_cons_succ]
            refine wpAnyH_take (i := 1) (v := .pointer (some ⟨xb, 0, none⟩)) rfl (by kernel_rfl) (by kernel_rfl) (by kernel_rfl) (fun _ _ _ h => h) (Or.inl ⟨by rfl, fun w' hSw => by go_simp⟩) hHeld ?_
            try simp only [Act.put, List.getElem_toArray, List.getElem_cons_succ, List.getElem_cons_zero, List.setIfInBounds_toArray, List.set_cons_zero, List.set_cons_succ]
            refine wpAnyH_take (i := 2) (v := .pointer (some ⟨xb, 5, none⟩)) rfl (by kernel_rfl) (by kernel_rfl) (by kernel_rfl) (fun _ _ _ h => h) (Or.inl ⟨by rfl, fun w' hSw => by go_simp⟩) hHeld ?_
            try simp only [Act.put, List.getElem_toArray, List.getElem_cons_succ, List.getElem_cons_zero, List.setIfInBounds_toArray, List.set_cons_zero, List.set_cons_succ]
            refine wpAnyH_take (i := 3) (v := .pointer (some ⟨tb, 0, none⟩)) rfl (by kernel_rfl) (by kernel_rfl) (by kernel_rfl) (fun _ _ _ h => h) (Or.inl ⟨by rfl, fun w' hSw => by (have h := hSw.1; go_simp)⟩) hHeld ?_
            try simp only [Act.put, List.getElem_toArray, List.getElem_cons_succ, List.getElem_cons_zero, List.setIfInBounds_toArray, List.set_cons_zero, List.set_cons_succ]
            refine wpAnyH_take (i := 4) (v := .pointer (some ⟨y.p, 0, none⟩)) rfl (by kernel_rfl) (by kernel_rfl) (by kernel_rfl) (fun _ _ _ h => h) (Or.inl ⟨by rfl, fun w' hSw => by (have h := hSw.2; go_simp)⟩) hHeld ?_
            try simp only [Act.put, List.getElem_toArray, List.getElem_cons_succ, List.getElem_cons_zero, List.setIfInBounds_toArray, List.set_cons_zero, List.set_cons_succ]
            refine wpAnyH_ready (rs := [5]) (by kernel_rfl) (by simp) ?_
            refine AllReadyH.cons rfl (fun K hK => ?_) AllReadyH.nil
            go_simp
            refine Calls.mono (delete_any HZ3.out.1.2.1 (HZ3.out.1.2.1.rep.krs y HY.out.1) HY.out.1) ?_
            rintro e wD ⟨⟨v9, rfl⟩, H', T', l', hT', hm', hs', hk'⟩
            have HZ4 : Hid (TI wD xb tb H' T' l' F w ∧ RR wD rb (.slice fa fn fc) (.slice ta tn tc) r1 ∧ (RowB wD y.p 41 [(.slice ga gn gc), (.slice ua un uc)] ∧ Bs wD (.slice ga gn gc) y.k ∧ Bnd wD (.slice ua un uc) y.u ∧ By wD (.slice ga gn gc) ∧ By wD (.slice ua un uc)) ∧ RowB wD vb 46 [.pointer (some ⟨y.p, 0, none⟩)] ∧ ∀ z, z ∈ elems H' T' ↔ z ∈ elems H T ∧ z.k ≠ y.k) := by
              obtain ⟨hTI, hRR, ⟨k1, k2, k3, k4, k5⟩, hvr⟩ := HZ3.out
              have hne := hTI.ne
              have htt := hTI.tt
              have hrb : ¬ (rb ∈ foot H T ∨ rb = tb) := fun e => e.elim (hRR.1.not_foot hTI.2.1.rep (by decide) (by decide) (by decide)) (row_ne hRR.1 hTI.2.1.row (by decide))
              have hyp : ¬ (y.p ∈ foot H T ∨ y.p = tb) := fun e => e.elim (k1.not_foot hTI.2.1.rep (by decide) (by decide) (by decide)) (row_ne k1 hTI.2.1.row (by decide))
              refine ⟨⟨hTI.1.kep hk' (fun e => e.elim hne.2.1 hne.1), hT', ⟨hTI.2.2.1.1, fun b hb => ?_⟩, hTI.2.2.2.trans hk' (fun b hb hm => ?_)⟩, hRR.kep hk' htt hrb, ⟨k1.kep hk' hyp, k2.same (k4.same hk' htt), k3.same (k5.same hk' htt), k4.kep hk' htt, k5.kep hk' htt⟩, hvr.kep hk' (fun e => e.elim HVB.out.2.2.1 HVB.out.2.1), hm'⟩
              · rcases hs' b hb with h1 | h1
                · exact hTI.2.2.1.2 b h1
                · exact .inr (Nat.le_trans hTI.2.2.2.size h1)
              · rcases hm with h1 | h1
                · rcases hTI.2.2.1.2 b h1 with h2 | h2
                  · exact h2
                  · omega
                · rw [h1] at hb ⊢
                  rcases hTI.2.2.1.1 with h2 | h2
                  · exact h2
                  · omega
            have HSO : Hid ((elems H T).Pairwise (fun a b => a.k < b.k)) := (HZ3.out.1.2.1.inv.elems).1
            refine hK.out _ _ ⟨by rw [HZ4.out.1.1.cell]; rfl, by rw [HZ4.out.2.2.2.1.cell]; rfl⟩ (fun hHeld2 => ?_)
            clear hK hHeld HZ3 hT' hm' hs' hk'
            try simp only [Act.put, List.getElem_toArray, List.getElem_cons_succ, List.getElem_cons_zero, List.setIfInBounds_toArray, List.set_cons_zero, List.set_cons_succ]
            refine wpAnyH_done (by kernel_rfl) ?_ _
            refine NoPanic.normal ?_
            clear hHeld2
            go_upto_region 11 with fail
            have hyr : y.p ≠ rb := by have h3 : rb = w.heap.size := HRB.out; have := HY.out.2.2.2; have := HH.out.1; omega
            go_cut [] from 60 to 67 (fun wd => ∃ na nn nc, TI wd xb tb H' T' l' F w ∧ RR wd rb (.slice fa fn fc) (.slice na nn nc) (r1.1, (joinI y.iv r1).2) ∧ (RowB wd y.p 41 [(.slice ga gn gc), (.slice ua un uc)] ∧ Bs wd (.slice ga gn gc) y.k ∧ Bnd wd (.slice ua un uc) y.u ∧ By wd (.slice ga gn gc) ∧ By wd (.slice ua un uc)) ∧ RowB wd vb 46 [.pointer (some ⟨y.p, 0, none⟩)])
            case first =>
              by_cases hlt : ltB y.u r1.2 = true
              · have HLT : Hid (ltB y.iv.2 r1.2 = true) := hlt
                clear hlt
                refine wp_region_G (fun w' => w'.cell? ⟨vb, 0, none⟩ = some (.pointer (some ⟨y.p, 0, none⟩)) ∧ w'.cell? ⟨y.p, 1, none⟩ = some (.slice ua un uc) ∧ w'.cell? ⟨rb, 1, none⟩ = some (.slice ta tn tc)) (fun _ => True) [8] (by kernel_rfl) ?_
                have kdr := (Kep.refl (fun _ => False) wD).drew
                have HZ5 : Hid (TI wD.drew xb tb H' T' l' F w ∧ RR wD.drew rb (.slice fa fn fc) (.slice ta tn tc) r1 ∧ (RowB wD.drew y.p 41 [(.slice ga gn gc), (.slice ua un uc)] ∧ Bs wD.drew (.slice ga gn gc) y.k ∧ Bnd wD.drew (.slice ua un uc) y.u ∧ By wD.drew (.slice ga gn gc) ∧ By wD.drew (.slice ua un uc)) ∧ RowB wD.drew vb 46 [.pointer (some ⟨y.p, 0, none⟩)]) := ⟨HZ4.out.1.kep kdr (TT.false _) id id (fun _ _ => id) (fun _ _ h => h.elim), HZ4.out.2.1.kep kdr (TT.false _) id, ⟨HZ4.out.2.2.1.1.kep kdr id, HZ4.out.2.2.1.2.1.same (HZ4.out.2.2.1.2.2.2.1.same kdr (TT.false _)), HZ4.out.2.2.1.2.2.1.same (HZ4.out.2.2.1.2.2.2.2.same kdr (TT.false _)), HZ4.out.2.2.1.2.2.2.1.kep kdr (TT.false _), HZ4.out.2.2.1.2.2.2.2.kep kdr (TT.false _)⟩, HZ4.out.2.2.2.1.kep kdr id⟩
                clear kdr HZ4
                generalize wD.drew = wE at *
                have HA : Hid (wE.cell? ⟨vb, 0, none⟩ = some (.pointer (some ⟨y.p, 0, none⟩)) ∧ wE.cell? ⟨y.p, 1, none⟩ = some (.slice ua un uc) ∧ wE.cell? ⟨rb, 1, none⟩ = some (.slice ta tn tc)) := ⟨by rw [HZ5.out.2.2.2.cell]; rfl, by rw [HZ5.out.2.2.1.1.cell]; rfl, by rw [HZ5.out.2.1.1.cell]; rfl⟩
                refine wpAnyG_take (i := 0) (v := .pointer (some ⟨y.p, 0, none⟩)) rfl (by kernel_rfl) (by kernel_rfl) (by kernel_rfl) (by kernel_rfl) (fun _ _ _ h => h) HA.out trivial (Or.inl ⟨by rfl, fun w' hSw => by (have h := hSw.1.1; go_simp)⟩) ?_
                try simp only [Act.put, List.getElem_toArray, List.getElem_cons_succ, List.getElem_cons_zero, List.setIfInBounds_toArray, List.set_cons_zero, List.set_cons_succ]
                refine wpAnyG_takeB (i := 1) (v := .pointer (some ⟨y.p, 0, none⟩)) rfl (by kernel_rfl) (by kernel_rfl) (by kernel_rfl) (by kernel_rfl) (fun _ _ _ h => h) (fun _ => HA.out) trivial (Or.inl ⟨by rfl, fun w' hSw => by go_simp⟩) ?_
                try simp only [Act.put, List.getElem_toArray, List.getElem_cons_succ, List.getElem_cons_zero, List.setIfInBounds_toArray, List.set_cons_zero, List.set_cons_succ]
                refine wpAnyG_takeB (i := 2) (v := .pointer (some ⟨y.p, 1, none⟩)) rfl (by kernel_rfl) (by kernel_rfl) (by kernel_rfl) (by kernel_rfl) (fun _ _ _ h => h) (fun _ => HA.out) trivial (Or.inl ⟨by rfl, fun w' hSw => by go_simp⟩) ?_
                try simp only [Act.put, List.getElem_toArray, List.getElem_cons_succ, List.getElem_cons_zero, List.setIfInBounds_toArray, List.set_cons_zero, List.set_cons_succ]
                refine wpAnyG_take (i := 3) (v := .slice ua un uc) rfl (by kernel_rfl) (by kernel_rfl) (by kernel_rfl) (by kernel_rfl) (fun _ _ _ h => h) HA.out trivial (Or.inl ⟨by rfl, fun w' hSw => by (have h := hSw.1.2.1; go_simp)⟩) ?_
                try simp only [Act.put, List.getElem_toArray, List.getElem_cons_succ, List.getElem_cons_zero, List.setIfInBounds_toArray, List.set_cons_zero, List.set_cons_succ]
                refine wpAnyG_takeB (i := 4) (v := .pointer (some ⟨rb, 1, none⟩)) rfl (by kernel_rfl) (by kernel_rfl) (by kernel_rfl) (by kernel_rfl) (fun _ _ _ h => h) (fun _ => HA.out) trivial (Or.inl ⟨by rfl, fun w' hSw => by go_simp⟩) ?_
                try simp only [Act.put, List.getElem_toArray, List.getElem_cons_succ, List.getElem_cons_zero, List.setIfInBounds_toArray, List.set_cons_zero, List.set_cons_succ]
                refine wpAnyG_take (i := 5) (v := .slice ta tn tc) rfl (by kernel_rfl) (by kernel_rfl) (by kernel_rfl) (by kernel_rfl) (fun _ _ _ h => h) HA.out trivial (Or.inl ⟨by rfl, fun w' hSw => by (have h := hSw.1.2.2; go_simp)⟩) ?_
                try simp only [Act.put, List.getElem_toArray, List.getElem_cons_succ, List.getElem_cons_zero, List.setIfInBounds_toArray, List.set_cons_zero, List.set_cons_succ]
                refine wpAnyG_step (i := 6) (by kernel_rfl) rfl (fun K hK => ?_)
                go_simp
                refine Calls.mono (later_any HZ5.out.2.2.1.2.2.1 HZ5.out.2.1.2.2.1) ?_
                rintro e w' ⟨rfl, hw⟩
                obtain rfl := hw.symm
                clear hw
                rw [if_pos (show ltB y.u r1.2 = true from HLT.out)]
                refine hK.out _ _ trivial (fun _ => HA.out) ?_
                clear hK
                try simp only [Act.put, List.getElem_toArray, List.getElem_cons_succ, List.getElem_cons_zero, List.setIfInBounds_toArray, List.set_cons_zero, List.set_cons_succ]
                refine wpAnyG_takeB (i := 7) (v := .pointer (some ⟨rb, 1, none⟩)) rfl (by kernel_rfl) (by kernel_rfl) (by kernel_rfl) (by kernel_rfl) (fun _ _ _ h => h) (fun _ => HA.out) trivial (Or.inl ⟨by rfl, fun w' hSw => by go_simp⟩) ?_
                try simp only [Act.put, List.getElem_toArray, List.getElem_cons_succ, List.getElem_cons_zero, List.setIfInBounds_toArray, List.set_cons_zero, List.set_cons_succ]
                have c0 := HA.out.2.2
                have f0 := HZ5.out.2.1.1.frozen 1
                refine wpAnyG_step (i := 8) (by kernel_rfl) rfl (fun K hK => ?_)
                go_simp
                refine hK.out _ _ trivial (fun h => not_early (by kernel_rfl) h) ?_
                clear hK c0 f0 HA
                try simp only [Act.put, List.getElem_toArray, List.getElem_cons_succ, List.getElem_cons_zero, List.setIfInBounds_toArray, List.set_cons_zero, List.set_cons_succ]
                refine wpAnyG_done (by kernel_rfl) ?_ _
                refine NoPanic.normal ?_
                go_wp2_with fail
                go_meet
                case rel =>
                  obtain ⟨hTI, hRR, ⟨k1, k2, k3, k4, k5⟩, hvr⟩ := HZ5.out
                  have kr : Kep (fun k => k = rb) wE (wE.setCell ⟨rb, 1, none⟩ (.slice ta tn tc)) := kep_set _ _ _ _
                  have ttr : TT wE (fun k => k = rb) := TT.new hRR.1 (by have h3 : rb = w.heap.size := HRB.out; have := HH.out.1; omega) (by decide)
                  have hxr : xb ≠ rb := row_ne hTI.1 hRR.1 (by decide)
                  have htr : tb ≠ rb := row_ne hTI.2.1.row hRR.1 (by decide)
                  have hfr : rb ∉ foot H' T' := hRR.1.not_foot hTI.2.1.rep (by decide) (by decide) (by decide)
                  have hj : (joinI y.iv r1).2 = r1.2 := if_pos HLT.out
                  refine ⟨_, _, _, hTI.kep kr ttr hxr htr (fun b hb e => hfr (e ▸ hb)) (fun b hb e => by have h3 : rb = w.heap.size := HRB.out; have e2 : b = rb := e; omega), ⟨hRR.1.set (P := [(.slice fa fn fc)]) rfl rfl, hRR.2.1.same (hRR.2.2.2.1.same kr ttr), ?_, hRR.2.2.2.1.kep kr ttr, hRR.2.2.2.2.kep kr ttr⟩, ⟨k1.kep kr hyr, k2.same (k4.same kr ttr), k3.same (k5.same kr ttr), k4.kep kr ttr, k5.kep kr ttr⟩, hvr.kep kr HVB.out.2.2.2.1⟩
                  rw [hj]
                  exact hRR.2.2.1.same (hRR.2.2.2.2.same kr ttr)
              · have HLT : Hid (¬ ltB y.iv.2 r1.2 = true) := hlt
                clear hlt
                refine wp_region_G (fun w' => w'.cell? ⟨vb, 0, none⟩ = some (.pointer (some ⟨y.p, 0, none⟩)) ∧ w'.cell? ⟨y.p, 1, none⟩ = some (.slice ua un uc) ∧ w'.cell? ⟨rb, 1, none⟩ = some (.slice ta tn tc)) (fun _ => True) [8] (by kernel_rfl) ?_
                have kdr := (Kep.refl (fun _ => False) wD).drew
                have HZ5 : Hid (TI wD.drew xb tb H' T' l' F w ∧ RR wD.drew rb (.slice fa fn fc) (.slice ta tn tc) r1 ∧ (RowB wD.drew y.p 41 [(.slice ga gn gc), (.slice ua un uc)] ∧ Bs wD.drew (.slice ga gn gc) y.k ∧ Bnd wD.drew (.slice ua un uc) y.u ∧ By wD.drew (.slice ga gn gc) ∧ By wD.drew (.slice ua un uc)) ∧ RowB wD.drew vb 46 [.pointer (some ⟨y.p, 0, none⟩)]) := ⟨HZ4.out.1.kep kdr (TT.false _) id id (fun _ _ => id) (fun _ _ h => h.elim), HZ4.out.2.1.kep kdr (TT.false _) id, ⟨HZ4.out.2.2.1.1.kep kdr id, HZ4.out.2.2.1.2.1.same (HZ4.out.2.2.1.2.2.2.1.same kdr (TT.false _)), HZ4.out.2.2.1.2.2.1.same (HZ4.out.2.2.1.2.2.2.2.same kdr (TT.false _)), HZ4.out.2.2.1.2.2.2.1.kep kdr (TT.false _), HZ4.out.2.2.1.2.2.2.2.kep kdr (TT.false _)⟩, HZ4.out.2.2.2.1.kep kdr id⟩
                clear kdr HZ4
                generalize wD.drew = wE at *
                have HA : Hid (wE.cell? ⟨vb, 0, none⟩ = some (.pointer (some ⟨y.p, 0, none⟩)) ∧ wE.cell? ⟨y.p, 1, none⟩ = some (.slice ua un uc) ∧ wE.cell? ⟨rb, 1, none⟩ = some (.slice ta tn tc)) := ⟨by rw [HZ5.out.2.2.2.cell]; rfl, by rw [HZ5.out.2.2.1.1.cell]; rfl, by rw [HZ5.out.2.1.1.cell]; rfl⟩
                refine wpAnyG_take (i := 0) (v := .pointer (some ⟨y.p, 0, none⟩)) rfl (by kernel_rfl) (by kernel_rfl) (by kernel_rfl) (by kernel_rfl) (fun _ _ _ h => h) HA.out trivial (Or.inl ⟨by rfl, fun w' hSw => by (have h := hSw.1.1; go_simp)⟩) ?_
                try simp only [Act.put, List.getElem_toArray, List.getElem_cons_succ, List.getElem_cons_zero, List.setIfInBounds_toArray, List.set_cons_zero, List.set_cons_succ]
                refine wpAnyG_takeB (i := 1) (v := .pointer (some ⟨y.p, 0, none⟩)) rfl (by kernel_rfl) (by kernel_rfl) (by kernel_rfl) (by kernel_rfl) (fun _ _ _ h => h) (fun _ => HA.out) trivial (Or.inl ⟨by rfl, fun w' hSw => by go_simp⟩) ?_
                try simp only [Act.put, List.getElem_toArray, List.getElem_cons_succ, List.getElem_cons_zero, List.setIfInBounds_toArray, List.set_cons_zero, List.set_cons_succ]
                refine wpAnyG_takeB (i := 2) (v := .pointer (some ⟨y.p, 1, none⟩)) rfl (by kernel_rfl) (by kernel_rfl) (by kernel_rfl) (by kernel_rfl) (fun _ _ _ h => h) (fun _ => HA.out) trivial (Or.inl ⟨by rfl, fun w' hSw => by go_simp⟩) ?_
                try simp only [Act.put, List.getElem_toArray, List.getElem_cons_succ, List.getElem_cons_zero, List.setIfInBounds_toArray, List.set_cons_zero, List.set_cons_succ]
                refine wpAnyG_take (i := 3) (v := .slice ua un uc) rfl (by kernel_rfl) (by kernel_rfl) (by kernel_rfl) (by kernel_rfl) (fun _ _ _ h => h) HA.out trivial (Or.inl ⟨by rfl, fun w' hSw => by (have h := hSw.1.2.1; go_simp)⟩) ?_
                try simp only [Act.put, List.getElem_toArray, List.getElem_cons_succ, List.getElem_cons_zero, List.setIfInBounds_toArray, List.set_cons_zero, List.set_cons_succ]
                refine wpAnyG_takeB (i := 4) (v := .pointer (some ⟨rb, 1, none⟩)) rfl (by kernel_rfl) (by kernel_rfl) (by kernel_rfl) (by kernel_rfl) (fun _ _ _ h => h) (fun _ => HA.out) trivial (Or.inl ⟨by rfl, fun w' hSw => by go_simp⟩) ?_
                try simp only [Act.put, List.getElem_toArray, List.getElem_cons_succ, List.getElem_cons_zero, List.setIfInBounds_toArray, List.set_cons_zero, List.set_cons_succ]
                refine wpAnyG_take (i := 5) (v := .slice ta tn tc) rfl (by kernel_rfl) (by kernel_rfl) (by kernel_rfl) (by kernel_rfl) (fun _ _ _ h => h) HA.out trivial (Or.inl ⟨by rfl, fun w' hSw => by (have h := hSw.1.2.2; go_simp)⟩) ?_
                try simp only [Act.put, List.getElem_toArray, List.getElem_cons_succ, List.getElem_cons_zero, List.setIfInBounds_toArray, List.set_cons_zero, List.set_cons_succ]
                refine wpAnyG_step (i := 6) (by kernel_rfl) rfl (fun K hK => ?_)
                go_simp
                refine Calls.mono (later_any HZ5.out.2.2.1.2.2.1 HZ5.out.2.1.2.2.1) ?_
                rintro e w' ⟨rfl, hw⟩
                obtain rfl := hw.symm
                clear hw
                rw [if_neg (show ¬ ltB y.u r1.2 = true from HLT.out)]
                refine hK.out _ _ trivial (fun _ => HA.out) ?_
                clear hK
                try simp only [Act.put, List.getElem_toArray, List.getElem_cons_succ, List.getElem_cons_zero, List.setIfInBounds_toArray, List.set_cons_zero, List.set_cons_succ]
                refine wpAnyG_takeB (i := 7) (v := .pointer (some ⟨rb, 1, none⟩)) rfl (by kernel_rfl) (by kernel_rfl) (by kernel_rfl) (by kernel_rfl) (fun _ _ _ h => h) (fun _ => HA.out) trivial (Or.inl ⟨by rfl, fun w' hSw => by go_simp⟩) ?_
                try simp only [Act.put, List.getElem_toArray, List.getElem_cons_succ, List.getElem_cons_zero, List.setIfInBounds_toArray, List.set_cons_zero, List.set_cons_succ]
                have c0 := HA.out.2.2
                have f0 := HZ5.out.2.1.1.frozen 1
                refine wpAnyG_step (i := 8) (by kernel_rfl) rfl (fun K hK => ?_)
                go_simp
                refine hK.out _ _ trivial (fun h => not_early (by kernel_rfl) h) ?_
                clear hK c0 f0 HA
                try simp only [Act.put, List.getElem_toArray, List.getElem_cons_succ, List.getElem_cons_zero, List.setIfInBounds_toArray, List.set_cons_zero, List.set_cons_succ]
                refine wpAnyG_done (by kernel_rfl) ?_ _
                refine NoPanic.normal ?_
                go_wp2_with fail
                go_meet
                case rel =>
                  obtain ⟨hTI, hRR, ⟨k1, k2, k3, k4, k5⟩, hvr⟩ := HZ5.out
                  have kr : Kep (fun k => k = rb) wE (wE.setCell ⟨rb, 1, none⟩ (.slice ua un uc)) := kep_set _ _ _ _
                  have ttr : TT wE (fun k => k = rb) := TT.new hRR.1 (by have h3 : rb = w.heap.size := HRB.out; have := HH.out.1; omega) (by decide)
                  have hxr : xb ≠ rb := row_ne hTI.1 hRR.1 (by decide)
                  have htr : tb ≠ rb := row_ne hTI.2.1.row hRR.1 (by decide)
                  have hfr : rb ∉ foot H' T' := hRR.1.not_foot hTI.2.1.rep (by decide) (by decide) (by decide)
                  have hj : (joinI y.iv r1).2 = y.u := if_neg HLT.out
                  refine ⟨_, _, _, hTI.kep kr ttr hxr htr (fun b hb e => hfr (e ▸ hb)) (fun b hb e => by have h3 : rb = w.heap.size := HRB.out; have e2 : b = rb := e; omega), ⟨hRR.1.set (P := [(.slice fa fn fc)]) rfl rfl, hRR.2.1.same (hRR.2.2.2.1.same kr ttr), ?_, hRR.2.2.2.1.kep kr ttr, k5.kep kr ttr⟩, ⟨k1.kep kr hyr, k2.same (k4.same kr ttr), k3.same (k5.same kr ttr), k4.kep kr ttr, k5.kep kr ttr⟩, hvr.kep kr HVB.out.2.2.2.1⟩
                  rw [hj]
                  exact k3.same (k5.same kr ttr)
            case rest =>
              obtain ⟨na, nn, nc, hTI, hRR, hYP, hvr⟩ := hcut
              have HMEM : Hid (∀ z, z ∈ elems H' T' ↔ z ∈ elems H T ∧ z.k ≠ y.k) := HZ4.out.2.2.2.2
              have HZ5 : Hid (TI wc xb tb H' T' l' F w ∧ RR wc rb (.slice fa fn fc) (.slice na nn nc) (r1.1, (joinI y.iv r1).2) ∧ (RowB wc y.p 41 [(.slice ga gn gc), (.slice ua un uc)] ∧ Bs wc (.slice ga gn gc) y.k ∧ Bnd wc (.slice ua un uc) y.u ∧ By wc (.slice ga gn gc) ∧ By wc (.slice ua un uc)) ∧ RowB wc vb 46 [.pointer (some ⟨y.p, 0, none⟩)]) := ⟨hTI, hRR, hYP, hvr⟩
              have c1 := hvr.cell 0
              have c2 := hYP.1.cell 0
              have c3 := hRR.1.cell 0
              have f3 := hRR.1.frozen 0
              simp only [List.getElem?_cons_zero] at c1 c2 c3
              clear hTI hRR hYP hvr HZ4
              go_wp2
              go_quiet (first | (go_at_call 24; exact Calls.quiet_of_same (compare_any (HZ5.out.2.2.1.2.1.drewN _) (HZ5.out.2.1.2.1.drewN _))))
              have kd := (Kep.refl (fun _ => False) wc).drewN nq
              have HZ6 : Hid (TI (wc.drewN nq) xb tb H' T' l' F w ∧ RR (wc.drewN nq) rb (.slice fa fn fc) (.slice na nn nc) (r1.1, (joinI y.iv r1).2) ∧ (RowB (wc.drewN nq) y.p 41 [(.slice ga gn gc), (.slice ua un uc)] ∧ Bs (wc.drewN nq) (.slice ga gn gc) y.k ∧ Bnd (wc.drewN nq) (.slice ua un uc) y.u ∧ By (wc.drewN nq) (.slice ga gn gc) ∧ By (wc.drewN nq) (.slice ua un uc)) ∧ RowB (wc.drewN nq) vb 46 [.pointer (some ⟨y.p, 0, none⟩)]) := ⟨HZ5.out.1.kep kd (TT.false _) id id (fun _ _ => id) (fun _ _ h => h.elim), HZ5.out.2.1.kep kd (TT.false _) id, ⟨HZ5.out.2.2.1.1.kep kd id, HZ5.out.2.2.1.2.1.same (HZ5.out.2.2.1.2.2.2.1.same kd (TT.false _)), HZ5.out.2.2.1.2.2.1.same (HZ5.out.2.2.1.2.2.2.2.same kd (TT.false _)), HZ5.out.2.2.1.2.2.2.1.kep kd (TT.false _), HZ5.out.2.2.1.2.2.2.2.kep kd (TT.false _)⟩, HZ5.out.2.2.2.kep kd id⟩
              clear kd HZ5 c1 c2 c3 f3
              generalize wc.drewN nq = wF at *
              have c1 := HZ6.out.2.2.2.cell 0
              have c2 := HZ6.out.2.2.1.1.cell 0
              have c3 := HZ6.out.2.1.1.cell 0
              have f3 := HZ6.out.2.1.1.frozen 0
              simp only [List.getElem?_cons_zero] at c1 c2 c3
              have HFIN : Hid (∀ W fv', TI W xb tb H' T' l' F w → RR W rb fv' (.slice na nn nc) (joinI y.iv r1) → CloseInv w xb rb F (r :: D) (elems H' T').length W) := fun W fv' h1 h2 => ⟨tb, H', T', l', fv', (.slice na nn nc), joinI y.iv r1, h1, rfl, h2, HM.out.2.join HSO.out HY.out.1 HME.out HY.out.2.1 HMEM.out⟩
              have HLEN : Hid ((elems H' T').length < gk) := by
                have h1 : (elems H T).length = gk := HM.out.1
                have := del_len HSO.out (HZ6.out.1.2.1.inv.elems).1 HY.out.1 HMEM.out
                show (elems H' T').length < gk
                omega
              by_cases hcmp : cmpK y.k r1.1 < 0
              · have hj : (joinI y.iv r1).1 = y.k := if_pos (cmpK_neg.1 hcmp)
                have HJ : Hid ((joinI y.iv r1).1 = y.k) := hj
                clear hj
                go_wp2
                go_roundg (elems H' T').length
                case measure => exact HLEN.out
                case rel =>
                  obtain ⟨hTI, hRR, ⟨k1, k2, k3, k4, k5⟩, hvr⟩ := HZ6.out
                  have kr : Kep (fun k => k = rb) wF (wF.setCell ⟨rb, 0, none⟩ (.slice ga gn gc)) := kep_set _ _ _ _
                  have ttr : TT wF (fun k => k = rb) := TT.new hRR.1 (by have h3 : rb = w.heap.size := HRB.out; have := HH.out.1; omega) (by decide)
                  have hxr : xb ≠ rb := row_ne hTI.1 hRR.1 (by decide)
                  have htr : tb ≠ rb := row_ne hTI.2.1.row hRR.1 (by decide)
                  have hfr : rb ∉ foot H' T' := hRR.1.not_foot hTI.2.1.rep (by decide) (by decide) (by decide)
                  refine HFIN.out _ (.slice ga gn gc) (hTI.kep kr ttr hxr htr (fun b hb e => hfr (e ▸ hb)) (fun b hb e => by have h3 : rb = w.heap.size := HRB.out; have e2 : b = rb := e; omega)) ⟨hRR.1.set (P := []) rfl rfl, ?_, hRR.2.2.1.same (hRR.2.2.2.2.same kr ttr), k4.kep kr ttr, hRR.2.2.2.2.kep kr ttr⟩
                  rw [HJ.out]
                  exact k2.same (k4.same kr ttr)
              · have hj : (joinI y.iv r1).1 = r1.1 := if_neg (fun h => hcmp (cmpK_neg.2 h))
                have HJ : Hid ((joinI y.iv r1).1 = r1.1) := hj
                clear hj
                go_wp2
                go_roundg (elems H' T').length
                case measure => exact HLEN.out
                case rel =>
                  obtain ⟨hTI, hRR, _, hvr⟩ := HZ6.out
                  refine HFIN.out _ (.slice fa fn fc) hTI ⟨hRR.1, ?_, hRR.2.2.1, hRR.2.2.2.1, hRR.2.2.2.2⟩
                  rw [HJ.out]
                  exact hRR.2.1
        · have HZ : Hid (TI wc xb tb H T l F w ∧ RR wc rb f1 t1 r1 ∧ ∀ y ∈ elems H T, (∃ t, y.u = some t ∧ t < r1.1) ∨ (∃ t, r1.2 = some t ∧ t < y.k)) := ⟨hTI, hRR, HM.out.2.none hnone⟩
          have c0 := hvr.cell 0
          simp only [List.getElem?_cons_zero] at c0
          clear hTI hRR hnone hvr
          go_wp2
          go_quiet (fail)
          have kd : Kep (fun _ => False) wc (wc.drewN nq) := (Kep.refl _ _).drewN nq
          have HZ2 : Hid (TI (wc.drewN nq) xb tb H T l F w ∧ RR (wc.drewN nq) rb f1 t1 r1 ∧ ∀ y ∈ elems H T, (∃ t, y.u = some t ∧ t < r1.1) ∨ (∃ t, r1.2 = some t ∧ t < y.k)) := ⟨HZ.out.1.kep kd (TT.false _) id id (fun _ _ => id) (fun _ _ h => h.elim), HZ.out.2.1.kep kd (TT.false _) id, HZ.out.2.2⟩
          have x5 := HZ2.out.1.1.cell 5
          simp only [ixRow, List.getElem?_cons_zero, List.getElem?_cons_succ] at x5
          clear kd HZ c0
          generalize wc.drewN nq = wz at *
          go_wp2_with fail
          have hx : @KR ⟨wz.heap.size⟩ wz ⟨rb, r1.1, r1.2⟩ := ⟨_, _, HZ2.out.2.1.1, HZ2.out.2.1.2.1, HZ2.out.2.1.2.2.1, HZ2.out.2.1.2.2.2.1, HZ2.out.2.1.2.2.2.2, HZ2.out.2.1.1.lt⟩
          have hgr : @TreeR ⟨wz.heap.size⟩ wz tb H T l := TreeR.grow (a := Bd.B) (by rw [HH.out.1]; exact HZ2.out.1.2.2.2.size) HZ2.out.1.2.1
          refine (@set_any ⟨wz.heap.size⟩ wz tb H T ⟨rb, r1.1, r1.2⟩ l hgr hx (HM.out.2.sep.add (x := ⟨rb, r1.1, r1.2⟩) (F := elems H T ++ [⟨rb, r1.1, r1.2⟩]) HM.out.2.val (fun y => by simp) HZ2.out.2.2).2).mono ?_
          rintro e w9 ⟨⟨v9, rfl⟩, H', T', l', hT', hm', hs', hk'⟩
          have HQ : Hid (@TreeR ⟨wz.heap.size⟩ w9 tb H' T' l' ∧ (∀ y, y ∈ elems H' T' ↔ y ∈ elems H T ∨ y = (⟨rb, r1.1, r1.2⟩ : It)) ∧ (∀ b ∈ foot H' T', b ∈ foot H T ∨ wz.heap.size ≤ b) ∧ Kep (fun b => b ∈ foot H T ∨ b = tb) wz w9) := ⟨hT', hm', hs', hk'⟩
          clear hx hgr hT' hm' hs' hk'
          go_wp2
          go_end0
          obtain ⟨hT', hm', hs', hk'⟩ := HQ.out
          obtain ⟨hTI, hRR, hap⟩ := HZ2.out
          have hne := hTI.ne
          refine ⟨rfl, tb, H', T', l', hTI.1.kep hk' (fun e => e.elim hne.2.1 hne.1), TreeR.grow hk'.size hT', ⟨hTI.2.2.1.1, fun b hb => ?_⟩, hTI.2.2.2.trans hk' (fun b hb hm => ?_), HM.out.2.done (x := ⟨rb, r1.1, r1.2⟩) rfl hm' hap⟩
          · rcases hs' b hb with h1 | h1
            · exact hTI.2.2.1.2 b h1
            · exact .inr (Nat.le_trans hTI.2.2.2.size h1)
          · rcases hm with h1 | h1
            · rcases hTI.2.2.1.2 b h1 with h2 | h2
              · exact h2
              · omega
            · rw [h1] at hb ⊢
              rcases hTI.2.2.1.1 with h2 | h2
              · exact h2
              · omega
end Go.Proofs.Qxb6615764a
