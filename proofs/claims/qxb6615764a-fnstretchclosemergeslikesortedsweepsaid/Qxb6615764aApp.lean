/-
  append within the capacity, on rows.
-/
import Derived.Test.Qxb6615764aSplit
namespace Go.Proofs.Qxb6615764a
open Go.RowKit Go.Lib
set_option linter.unusedVariables false

/-- append within the capacity: the spare cells take the new ones. -/
theorem append59 {w : World} {b a o n c m : Nat} {X R1 R2 A news A2 : List Value} (hB : RowB w b 46 (X ++ R1 ++ R2)) (hn : n = X.length) (hc : c = n + R1.length + R2.length) (hm : m = news.length) (hR : news.length = R1.length)
    (hA : RowB w a 46 (A ++ news ++ A2)) (ho : o = A.length) (h1 : ∀ u ∈ news, u.oneCell' = true) (ty : TypeId) (sc : Nat) :
    (Builtin.append_ #[59, 59] ty #[.slice (some ⟨b, 0, none⟩) n c, .slice (some ⟨a, o, none⟩) m sc]).run Try.prog w = .ok (.slice (some ⟨b, 0, none⟩) (n + m) c) (w.setCells b n news) ∧ RowB (w.setCells b n news) b 46 (X ++ news ++ R2) ∧ Kep (fun k => k = b) w (w.setCells b n news) := by
  obtain ⟨i0, hi0, hz0, hz1, hz2⟩ := info_parts Try.info46
  have hl : (X ++ R1 ++ R2).length = c := by simp; omega
  refine ⟨?_, hB.setMid (P := X) (Q := R1) (S := R2) rfl hn news hR, Kep.setCells (M := fun k => k = b) (fun _ => rfl) _ _ (Kep.refl _ _)⟩
  have := run_append_room_cells (P := Try.prog) w 59 ty 46 i0 Try.underlying59 hi0 b 0 n c ⟨a, o, none⟩ m sc news (by rw [hz1]; omega)
    (fun j u hj => by
      rw [Addr.add_lit, hA.cell, ho, List.append_assoc, List.getElem?_append_right (by omega), Nat.add_sub_cancel_left, List.getElem?_append_left (List.getElem?_eq_some_iff.1 hj).1]; exact hj) h1 (by omega)
    (fun j hj => by rw [hz1, hB.cell, List.getElem?_eq_getElem (by rw [hl]; omega)]; rfl) (fun j hj => hB.frozen _)
  rw [hz1, Nat.zero_add, Nat.mul_one] at this
  exact this

/-- append within the capacity: the spare cells take the new ones. -/
theorem append60 {w : World} {b a o n c m : Nat} {X R1 R2 A news A2 : List Value} (hB : RowB w b 55 (X ++ R1 ++ R2)) (hn : n = X.length) (hc : c = n + R1.length + R2.length) (hm : m = news.length) (hR : news.length = R1.length)
    (hA : RowB w a 55 (A ++ news ++ A2)) (ho : o = A.length) (h1 : ∀ u ∈ news, u.oneCell' = true) (ty : TypeId) (sc : Nat) :
    (Builtin.append_ #[60, 60] ty #[.slice (some ⟨b, 0, none⟩) n c, .slice (some ⟨a, o, none⟩) m sc]).run Try.prog w = .ok (.slice (some ⟨b, 0, none⟩) (n + m) c) (w.setCells b n news) ∧ RowB (w.setCells b n news) b 55 (X ++ news ++ R2) ∧ Kep (fun k => k = b) w (w.setCells b n news) := by
  obtain ⟨i0, hi0, hz0, hz1, hz2⟩ := info_parts Try.info55
  have hl : (X ++ R1 ++ R2).length = c := by simp; omega
  refine ⟨?_, hB.setMid (P := X) (Q := R1) (S := R2) rfl hn news hR, Kep.setCells (M := fun k => k = b) (fun _ => rfl) _ _ (Kep.refl _ _)⟩
  have := run_append_room_cells (P := Try.prog) w 60 ty 55 i0 Try.underlying60 hi0 b 0 n c ⟨a, o, none⟩ m sc news (by rw [hz1]; omega)
    (fun j u hj => by
      rw [Addr.add_lit, hA.cell, ho, List.append_assoc, List.getElem?_append_right (by omega), Nat.add_sub_cancel_left, List.getElem?_append_left (List.getElem?_eq_some_iff.1 hj).1]; exact hj) h1 (by omega)
    (fun j hj => by rw [hz1, hB.cell, List.getElem?_eq_getElem (by rw [hl]; omega)]; rfl) (fun j hj => hB.frozen _)
  rw [hz1, Nat.zero_add, Nat.mul_one] at this
  exact this
end Go.Proofs.Qxb6615764a
