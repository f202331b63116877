/-
  What stays while the two laws run. No walk here, but addrsOf at every slice.
-/
import Derived.Test.Qxb6608884aDoorBoot2
import Derived.Test.Qxb6608884aDoorBytes
import Derived.Test.Qxb6608884aDoorEq
namespace Go.Proofs.Qxb6608884aDoor
open Go.RowKit
set_option linter.unusedVariables false

/-- The two variables of package netip that the road reads. -/
structure Glob (w : World) (z6 z4 : Option Addr) : Prop where
  c6 : w.cell? ⟨0, 0, none⟩ = some (.pointer z6)
  c4 : w.cell? ⟨1, 0, none⟩ = some (.pointer z4)
  size : 1 < w.heap.size
theorem Glob.below {w w' : World} {z6 z4 : Option Addr} (h : Glob w z6 z4) {B : Nat} (k : Below B w w') (hB : 2 ≤ B) : Glob w' z6 z4 :=
  ⟨(k.cell (p := ⟨0, 0, none⟩) (by simp; omega)).trans h.c6, (k.cell (p := ⟨1, 0, none⟩) (by simp; omega)).trans h.c4, Nat.lt_of_lt_of_le h.size k.size⟩

/-- A slice of addresses that came in. -/
def Src (w : World) (a : Option Addr) (n : Nat) (A : Nat → AddrD) : Prop := n = 0 ∨ ∃ b off, a = some ⟨b, off, none⟩ ∧ InRow w b off n A
theorem Src.below {w w' : World} {a : Option Addr} {n : Nat} {A : Nat → AddrD} (h : Src w a n A) (k : Below w.heap.size w w') : Src w' a n A := by
  rcases h with h | ⟨b, off, rfl, h⟩
  · exact .inl h
  · exact .inr ⟨b, off, rfl, h.below k h.1⟩

theorem ownsRow_base {w : World} {base base' : Nat} {e : TypeId} {size : Nat} {v : Value} {n : Nat} {xs : List Value} (h : w.ownsRow base e size v n xs) (hb : base' ≤ base) : w.ownsRow base' e size v n xs := by
  refine ⟨h.1, ?_⟩
  rcases h.2 with hn | ⟨g, cap, cur, rfl, hg, rest⟩
  · exact .inl hn
  · exact .inr ⟨g, cap, cur, rfl, Nat.le_trans hb hg, rest⟩

theorem addrs_any {w : World} {a : Option Addr} {n c : Nat} {A : Nat → AddrD} {z6 z4 : Option Addr} (hS : Src w a n A) (hn : n ≤ 4096) (hG : Glob w z6 z4) :
    Calls Tryd.prog 6 #[.slice a n c] w fun e w' => (∃ v, e = .returned v ∧ w'.ownsRow w.heap.size 42 4 v n (aps z6 z4 A n)) ∧ Below w.heap.size w w' := by
  rcases hS with rfl | ⟨b, off, rfl, h⟩
  · refine (addrs_none a c w).mono fun e w' ⟨he, hw⟩ => ?_
    subst hw
    exact ⟨⟨_, he, World.ownsRow_nil _ _ _ _⟩, Below.refl _ _⟩
  · exact addrs_one b off n c A z6 z4 w hn h hG.c6 hG.c4 hG.size

/-- The world w while a law runs that began in w0: what was there is as it was; the target lies in its box. -/
structure Base (w0 : World) (t : Nat → Int) (w : World) : Prop where
  bel : Below w0.heap.size w0 w
  tgt : w.heap[w0.heap.size]? = some (.cells (idA t) 22 (0, 0))
theorem Base.size {w0 w : World} {t : Nat → Int} (h : Base w0 t w) : w0.heap.size < w.heap.size := lt_of_some h.tgt
theorem Base.below {w0 w w' : World} {t : Nat → Int} (h : Base w0 t w) (k : Below w.heap.size w w') : Base w0 t w' :=
  ⟨h.bel.trans (k.mono (Nat.le_of_lt h.size)), by rw [k.block _ h.size]; exact h.tgt⟩
theorem Base.kept {w0 w w' : World} {t : Nat → Int} (h : Base w0 t w) {b : Nat} {v : Value} (k : KeptBut2 b v.ownBlock w w') (hL : LookAt w b v) {m : Nat} {ps : List Value} (ho : w.ownsRow 0 52 1 v m ps) (hb : w0.heap.size ≤ b) (hv : ∀ g, v.ownBlock = some g → w0.heap.size ≤ g) : Base w0 t w' := by
  obtain ⟨L, _, _, h3⟩ := hL
  refine ⟨h.bel.trans ⟨k.os, k.tape, k.output, k.size, fun i hi => k.block i (Nat.lt_trans hi h.size) (by omega) (fun e => by have := hv i e.symm; omega)⟩, ?_⟩
  rw [k.block _ h.size (ne_of_type h.tgt h3 (by decide)) (ne_own h.tgt ho (by decide))]
  exact h.tgt
/-- A row of addresses that the law made stays behind a bootstrap. -/
theorem row_kept {w w' : World} {b : Nat} {v sv : Value} (k : KeptBut2 b v.ownBlock w w') (hL : LookAt w b v) {m : Nat} {ps : List Value} (ho : w.ownsRow 0 52 1 v m ps) {base n : Nat} {xs : List Value} (h : w.ownsRow base 42 4 sv n xs) : w'.ownsRow base 42 4 sv n xs := by
  obtain ⟨L, _, _, h3⟩ := hL
  refine ownsRow_same h (fun g hg => ?_)
  rcases h.2 with ⟨rfl, _⟩ | ⟨g', cap, cur, rfl, _, hg', _⟩
  · simp [Value.ownBlock] at hg
  · simp only [Value.ownBlock, Option.some.injEq] at hg; subst hg
    exact k.block _ (lt_of_some hg') (ne_of_type hg' h3 (by decide)) (ne_own hg' ho (by decide))

theorem boot_start {w : World} {b : Nat} {D : Nat → AddrD} {z6 z4 : Option Addr} (h : LookAt w b (.slice none 0 0)) : Boot w b (.slice none 0 0) 0 D z6 z4 [] :=
  ⟨h, World.ownsRow_nil _ _ _ _, fun i hi => absurd hi (by omega)⟩

theorem aps_join (z6 z4 : Option Addr) (A B : Nat → AddrD) (n m : Nat) : aps z6 z4 (joinD n A B) (n + m) = aps z6 z4 A n ++ aps z6 z4 B m := by
  induction m with
  | zero =>
    simp only [Nat.add_zero]
    have : aps z6 z4 B 0 = [] := rfl
    rw [this, List.append_nil]
    have h : ∀ k, k ≤ n → aps z6 z4 (joinD n A B) k = aps z6 z4 A k := by
      intro k
      induction k with
      | zero => intro _; rfl
      | succ k ih => intro hk; rw [aps_succ, aps_succ, ih (by omega)]; simp [joinD, show k < n by omega]
    exact h n (Nat.le_refl _)
  | succ m ih =>
    rw [← Nat.add_assoc, aps_succ, aps_succ, ih, List.append_assoc]
    simp [joinD, show ¬ n + m < n by omega]
theorem Boot.congr {w : World} {b : Nat} {v : Value} {m : Nat} {D E : Nat → AddrD} {z6 z4 : Option Addr} {ps : List Value} (h : Boot w b v m D z6 z4 ps) (he : ∀ i, i < m → D i = E i) : Boot w b v m E z6 z4 ps :=
  ⟨h.look, h.own, fun i hi => by have := h.ent i hi; rwa [he i hi] at this⟩
theorem aps_one (z6 z4 : Option Addr) (D : Nat → AddrD) (n : Nat) : ∀ u ∈ aps z6 z4 D n, u.oneCell' = true := by
  induction n with
  | zero => intro u hu; cases hu
  | succ n ih =>
    intro u hu
    rw [aps_succ] at hu
    rcases List.mem_append.1 hu with h | h
    · exact ih u h
    · exact four_one _ _ _ _ u h
end Go.Proofs.Qxb6608884aDoor
