/-
  The walks of ZZnewStretchIndex (9), ZZclose (10), ZZclosedDescending (11).
-/
import Derived.Test.Qxb6615764aClose2
import Derived.Test.Qxb6615764aVis
namespace Go.Proofs.Qxb6615764a
open Go.RowKit Go.Lib
set_option linter.unusedVariables false
set_option linter.unusedSimpArgs false
set_option linter.unusedSectionVars false

/-- ZZnewStretchIndex. -/
theorem zzNew_any (w : World) : Calls Try.prog 9 #[] w fun e w' => e = .returned (.pointer (some ⟨w.heap.size, 0, none⟩)) ∧ RowB w' w.heap.size 43 (ixRow (.pointer none) (.slice none 0 0)) ∧ Kep (fun _ => False) w w' := by
  go_enter Try.func9, Try.ntmps9
  go_wp2
  go_ret
  exact ⟨rfl, row_new w 43 (ixRow (.pointer none) (.slice none 0 0)), (Kep.refl _ _).alloc _⟩

/-- The index, the bound of its keyRanges the size of the heap. -/
def IxN (w : World) (xb : Nat) (E : List It) (F : Nat → Prop) : Prop := @Ix ⟨w.heap.size⟩ w xb E F
theorem Bs.slice {w : World} {v : Value} {k : Key} (h : Bs w v k) : ∃ a c, v = .slice a k.length c := by obtain ⟨a, c, e, _⟩ := h; exact ⟨a, c, e⟩
theorem Bnd.slice {w : World} {v : Value} {u : Option Key} (h : Bnd w v u) : ∃ a n c, v = .slice a n c := by
  rcases h.shape with ⟨_, e⟩ | ⟨_, a, n, c, _, e, _⟩
  · exact ⟨_, _, _, e⟩
  · exact ⟨_, _, _, e⟩
theorem IxN.sorted {w : World} {xb : Nat} {E : List It} {F : Nat → Prop} (h : IxN w xb E F) : E.Pairwise (fun a b => a.k < b.k) := by
  rcases h.2 with ⟨_, rfl⟩ | ⟨tb, H, T, l, _, hT, rfl, _⟩
  · exact List.Pairwise.nil
  · letI : Bd := ⟨w.heap.size⟩
    exact (Inv.elems hT.inv).1

/-- ZZclose. -/
theorem zzClose_any {w : World} {xb : Nat} {E : List It} {D : List Iv} {F : Nat → Prop} {fv tv : Value} {r : Iv} (hI : IxN w xb E F) (hG : Good E D) (hfv : Bs w fv r.1) (htv : Bnd w tv r.2) (hbf : By w fv) (hbt : By w tv) (hr : Valid r) :
    Calls Try.prog 10 #[.pointer (some ⟨xb, 0, none⟩), fv, tv] w fun e w' => e = .returned (.tuple #[]) ∧ ∃ E' F', IxN w' xb E' F' ∧ Good E' (r :: D) ∧ (∀ b, F' b → F b ∨ w.heap.size ≤ b) ∧ Kep F w w' := by
  obtain ⟨fa, fn, fc, rfl⟩ : ∃ a n c, fv = .slice a n c := by obtain ⟨a, c, e⟩ := hfv.slice; exact ⟨_, _, _, e⟩
  obtain ⟨ta, tn, tc, rfl⟩ := htv.slice
  have HC : Hid (Calls Try.prog 18 #[.pointer (some ⟨xb, 0, none⟩), .agg #[.slice fa fn fc, .slice ta tn tc]] w fun e w' => e = .returned (.tuple #[]) ∧ ∃ (tb H : Nat) (T : Tr H) (l : Int), RowB w' xb 43 (ixRow (.pointer (some ⟨tb, 0, none⟩)) (.slice none 0 0)) ∧ @TreeR ⟨w'.heap.size⟩ w' tb H T l ∧ ((F tb ∨ w.heap.size ≤ tb) ∧ ∀ b ∈ foot H T, F b ∨ w.heap.size ≤ b) ∧ Kep F w w' ∧ Good (elems H T) (r :: D)) := @close_core ⟨w.heap.size⟩ w xb E D F _ _ r rfl hI hG hfv htv hbf hbt hr rfl rfl
  have HX : Hid (F xb) := hI.1
  clear hI hG hfv htv hbf hbt hr
  go_enter Try.func10, Try.ntmps10
  go_wp2_with fail
  refine HC.out.mono ?_
  rintro e w' ⟨rfl, h⟩
  have HH : Hid (∃ (tb H : Nat) (T : Tr H) (l : Int), RowB w' xb 43 (ixRow (.pointer (some ⟨tb, 0, none⟩)) (.slice none 0 0)) ∧ @TreeR ⟨w'.heap.size⟩ w' tb H T l ∧ ((F tb ∨ w.heap.size ≤ tb) ∧ ∀ b ∈ foot H T, F b ∨ w.heap.size ≤ b) ∧ Kep F w w' ∧ Good (elems H T) (r :: D)) := h
  clear h
  go_wp2
  go_end0
  obtain ⟨tb, H, T, l, h1, h2, ⟨h3, h4⟩, h5, h6⟩ := HH.out
  exact ⟨rfl, elems H T, fun b => F b ∨ w.heap.size ≤ b, ⟨.inl HX.out, .inr ⟨tb, H, T, l, h1, h2, rfl, h3, h4⟩⟩, h6, fun b h => h, h5⟩

/-- A row of byte slices, each with its key. -/
def fromV (w : World) (y : It) : Value := (w.cell? ⟨y.p, 0, none⟩).getD (.slice none 0 0)
def toV (w : World) (y : It) : Value := (w.cell? ⟨y.p, 1, none⟩).getD (.slice none 0 0)
theorem kr_vals {B : Nat} {w : World} {y : It} (h : @KR ⟨B⟩ w y) : ∃ fa fc ua un uc, RowB w y.p 41 [.slice fa y.k.length fc, .slice ua un uc] ∧ fromV w y = .slice fa y.k.length fc ∧ toV w y = .slice ua un uc ∧ Bs w (fromV w y) y.k ∧ Bnd w (toV w y) y.u ∧ By w (fromV w y) ∧ By w (toV w y) := by
  obtain ⟨fv, tv, h1, h2, h3, h4, h5, _⟩ := h
  obtain ⟨fa, fc, hf⟩ := h2.slice
  obtain ⟨ua, un, uc, hu⟩ := h3.slice
  have e1 : fromV w y = fv := by unfold fromV; rw [h1.cell]; rfl
  have e2 : toV w y = tv := by unfold toV; rw [h1.cell]; rfl
  refine ⟨fa, fc, ua, un, uc, by rw [← hf, ← hu]; exact h1, by rw [e1, hf], by rw [e2, hu], by rw [e1]; exact h2, by rw [e2]; exact h3, by rw [e1]; exact h4, by rw [e2]; exact h5⟩

set_option maxHeartbeats 1000000 in
/-- ZZclosedDescending. -/
theorem zzDesc_any {w : World} {xb : Nat} {E : List It} {F : Nat → Prop} (hI : IxN w xb E F) (hE : E.length ≤ 1000000) :
    Calls Try.prog 11 #[.pointer (some ⟨xb, 0, none⟩)] w fun e w' => ∃ fs ts, e = .returned (.tuple #[fs, ts]) ∧ w'.ownsRow w.heap.size 28 1 fs E.length (E.reverse.map (fromV w)) ∧ w'.ownsRow w.heap.size 28 1 ts E.length (E.reverse.map (toV w)) ∧ Kep (fun b => w.heap.size ≤ b) w w' := by
  obtain ⟨_, hI⟩ := hI
  have k2 : ∀ o1 o2, Kep (fun _ => False) w ((w.alloc o1).alloc o2) := fun o1 o2 => ((Kep.refl _ _).alloc o1).alloc o2
  rcases hI with ⟨hx, rfl⟩ | ⟨tb, H, T, l, hx, hT, rfl, _⟩
  · have HX : Hid (RowB w xb 43 (ixRow (.pointer none) (.slice none 0 0)) ∧ ∀ o1 o2, Kep (fun _ => False) w ((w.alloc o1).alloc o2)) := ⟨hx, k2⟩
    have x5 : ((w.alloc (.cells #[.slice none 0 0] 31)).alloc (.cells #[.slice none 0 0] 31)).cell? ⟨xb, 5, none⟩ = some (.pointer none) := by rw [(hx.kep (k2 _ _) id).cell]; rfl
    clear hx k2 hE
    go_enter Try.func11, Try.ntmps11
    go_wp2
    go_quiet (fail)
    go_wp2
    go_ret2
    refine ⟨_, _, rfl, ⟨rfl, .inl ⟨rfl, rfl⟩⟩, ⟨rfl, .inl ⟨rfl, rfl⟩⟩, ?_⟩
    exact ((HX.out.2 _ _).drewN _).mono (fun _ _ h => h.elim)
  · have HT : Hid (@TreeR ⟨w.heap.size⟩ w tb H T l ∧ (elems H T).length ≤ 1000000 ∧ ∀ o1 o2, Kep (fun _ => False) w ((w.alloc o1).alloc o2)) := ⟨hT, hE, k2⟩
    have x5 : ((w.alloc (.cells #[.slice none 0 0] 31)).alloc (.cells #[.slice none 0 0] 31)).cell? ⟨xb, 5, none⟩ = some (.pointer (some ⟨tb, 0, none⟩)) := by rw [(hx.kep (k2 _ _) id).cell]; rfl
    clear hx k2 hE hT
    go_enter Try.func11, Try.ntmps11
    go_wp2_with fail
    have hJ0 : VisJ w w.heap.size (w.heap.size + 1) (fromV w) (toV w) [] ((w.alloc (.cells #[.slice none 0 0] 31)).alloc (.cells #[.slice none 0 0] 31)) := by
      refine ⟨(HT.out.2.2 _ _).mono (fun _ _ h => h.elim), .slice none 0 0, .slice none 0 0, (row_new w 31 [.slice none 0 0]).kep (Kep.alloc' _ _) id, ?_, ⟨rfl, .inl ⟨rfl, rfl⟩⟩, ⟨rfl, .inl ⟨rfl, rfl⟩⟩, fun g hg => by cases hg⟩
      have := row_new (w.alloc (.cells #[.slice none 0 0] 31)) 31 [.slice none 0 0]
      simpa using this
    have hT2 : @TreeR ⟨w.heap.size⟩ ((w.alloc (.cells #[.slice none 0 0] 31)).alloc (.cells #[.slice none 0 0] 31)) tb H T l := @TreeR.kep ⟨w.heap.size⟩ _ _ tb H T l _ HT.out.1 (HT.out.2.2 _ _) (@TT.false ⟨w.heap.size⟩ _) id (fun _ _ => id)
    letI : Bd := ⟨w.heap.size⟩
    have hd := @Descend_all ⟨w.heap.size⟩ _ tb H T l (.pointer (some ⟨w.heap.size, 0, none⟩)) (.pointer (some ⟨w.heap.size + 1, 0, none⟩)) (VisJ w w.heap.size (w.heap.size + 1) (fromV w) (toV w)) hT2 (fun vs y w' hj hy hlt => by
      obtain ⟨fa, fc, ua, un, uc, g1, g2, g3, _⟩ := kr_vals (@Rep.krs ⟨w.heap.size⟩ H w T HT.out.1.rep y hy)
      exact vis_any ⟨by omega, Nat.le_refl _, by omega⟩ hj g1 g2 g3 (by have := HT.out.2.1; omega)) (fun vs w' hj => @Rep.kep ⟨w.heap.size⟩ H w w' _ T HT.out.1.rep hj.1 (fun b hb hl => absurd hl (by omega)) (fun b hb hm => by have := @Rep.lt ⟨w.heap.size⟩ H w T HT.out.1.rep b hb; omega)) hJ0
    refine hd.mono ?_
    clear hd hJ0 hT2
    rintro e w2 ⟨rfl, hk, fs, ts, h1, h2, h3, h4, h5⟩
    have HV : Hid (Kep (fun b => w.heap.size ≤ b) w w2 ∧ RowB w2 w.heap.size 31 [fs] ∧ RowB w2 (w.heap.size + 1) 31 [ts] ∧ w2.ownsRow w.heap.size 28 1 fs (elems H T).length ((elems H T).reverse.map (fromV w)) ∧ w2.ownsRow w.heap.size 28 1 ts (elems H T).length ((elems H T).reverse.map (toV w))) := ⟨hk, h1, h2, by simpa using h3, by simpa using h4⟩
    have c1 := h1.cell 0
    have c2 := h2.cell 0
    simp only [List.getElem?_cons_zero] at c1 c2
    clear hk h1 h2 h3 h4 h5 x5
    go_wp2
    go_quiet (fail)
    go_wp2
    go_ret2
    have kd : ∀ n, Kep (fun _ => False) w2 (w2.drewN n) := fun n => (Kep.refl _ _).drewN n
    exact ⟨fs, ts, rfl, ownsRow_kep HV.out.2.2.2.1 (kd _) (fun _ _ => id), ownsRow_kep HV.out.2.2.2.2 (kd _) (fun _ _ => id), HV.out.1.drewN _⟩
end Go.Proofs.Qxb6615764a
