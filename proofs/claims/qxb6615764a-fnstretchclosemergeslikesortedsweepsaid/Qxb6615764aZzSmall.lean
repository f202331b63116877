/-
  The walks of zzSame (13), zzSameBound (14), zzLater (21).
-/
import Derived.Test.Qxb6615764aZzCmp
namespace Go.Proofs.Qxb6615764a
open Go.RowKit
set_option linter.unusedVariables false
set_option linter.unusedSimpArgs false

theorem zzSame_any {w : World} {u v : Value} {a b : Key} (hu : Bs w u a) (hv : Bs w v b) (ha : a.length ≤ 2097152) (hb : b.length ≤ 2097152) :
    Calls Try.prog 13 #[u, v] w fun e w' => e = .returned (.bool (decide (a = b))) ∧ ∃ n, w' = w.drewN n := by
  have HU : Hid (Bs w u a ∧ Bs w v b ∧ a.length ≤ 2097152 ∧ b.length ≤ 2097152) := ⟨hu, hv, ha, hb⟩
  clear hu hv ha hb
  go_enter Try.func13, Try.ntmps13
  go_wp2_with fail
  refine (zzCmp_any HU.out.1 HU.out.2.1 HU.out.2.2.1 HU.out.2.2.2).mono ?_
  rintro e w' ⟨rfl, n, rfl⟩
  by_cases h : a = b
  · have hc : cmpK a b = 0 := cmpK_zero.2 h
    have HH : Hid (a = b) := h
    rw [hc]
    clear h hc
    go_wp2
    go_ret
    exact ⟨by simp [HH.out], _, rfl⟩
  · have hc : ¬ cmpK a b = 0 := fun e => h (cmpK_zero.1 e)
    have HH : Hid (¬ a = b) := h
    clear h
    go_wp2
    go_ret
    exact ⟨by simp [hc, HH.out], _, rfl⟩
def bdLen (u : Option Key) : Nat := match u with | none => 0 | some k => k.length
theorem zzSameBound_any {w : World} {u v : Value} {a b : Option Key} (hu : Bnd w u a) (hv : Bnd w v b) (ha : bdLen a ≤ 2097152) (hb : bdLen b ≤ 2097152) :
    Calls Try.prog 14 #[u, v] w fun e w' => e = .returned (.bool (decide (a = b))) ∧ ∃ n, w' = w.drewN n := by
  have nil : Bs w (.slice none 0 0) [] := ⟨none, 0, rfl, fun _ => rfl, fun h => absurd rfl h⟩
  rcases hu.shape with ⟨rfl, rfl⟩ | ⟨k1, a1, n1, c1, rfl, rfl, h1⟩ <;> rcases hv.shape with ⟨rfl, rfl⟩ | ⟨k2, a2, n2, c2, rfl, rfl, h2⟩
  · have HU : Hid (Bs w (.slice none 0 0) []) := nil
    clear nil hu hv ha hb
    go_enter Try.func14, Try.ntmps14
    go_wp2_with fail
    refine (zzCmp_any HU.out HU.out (by simp) (by simp)).mono ?_
    rintro e w' ⟨rfl, n, rfl⟩
    rw [cmpK_zero.2 rfl]
    go_wp2
    go_ret
    exact ⟨by simp, _, rfl⟩
  · clear nil hu hv ha hb h2
    go_enter Try.func14, Try.ntmps14
    go_wp2
    go_ret
    exact ⟨by simp, 0, rfl⟩
  · clear nil hu hv ha hb h1
    go_enter Try.func14, Try.ntmps14
    go_wp2
    go_ret
    exact ⟨by simp, 0, rfl⟩
  · have HU : Hid (Bs w (.slice (some a1) n1 c1) k1 ∧ Bs w (.slice (some a2) n2 c2) k2 ∧ k1.length ≤ 2097152 ∧ k2.length ≤ 2097152) := ⟨h1, h2, ha, hb⟩
    clear nil hu hv ha hb h1 h2
    go_enter Try.func14, Try.ntmps14
    go_wp2_with fail
    refine (zzCmp_any HU.out.1 HU.out.2.1 HU.out.2.2.1 HU.out.2.2.2).mono ?_
    rintro e w' ⟨rfl, n, rfl⟩
    by_cases h : k1 = k2
    · have hc : cmpK k1 k2 = 0 := cmpK_zero.2 h
      have HH : Hid (k1 = k2) := h
      rw [hc]
      clear h hc
      go_wp2
      go_ret
      exact ⟨by simp [HH.out], _, rfl⟩
    · have hc : ¬ cmpK k1 k2 = 0 := fun e => h (cmpK_zero.1 e)
      have HH : Hid (¬ k1 = k2) := h
      clear h
      go_wp2
      go_ret
      exact ⟨by simp [hc, HH.out], _, rfl⟩
theorem zzLater_any {w : World} {u v : Value} {a b : Option Key} (hu : Bnd w u a) (hv : Bnd w v b) (ha : bdLen a ≤ 2097152) (hb : bdLen b ≤ 2097152) :
    Calls Try.prog 21 #[u, v] w fun e w' => e = .returned (if ltB a b = true then v else u) ∧ ∃ n, w' = w.drewN n := by
  rcases hu.shape with ⟨rfl, rfl⟩ | ⟨k1, a1, n1, c1, rfl, rfl, h1⟩
  · have e : ltB none b = false := rfl
    rw [e]
    clear hu hv ha hb
    go_enter Try.func21, Try.ntmps21
    go_wp2
    go_ret
    exact ⟨by simp, 0, rfl⟩
  · rcases hv.shape with ⟨rfl, rfl⟩ | ⟨k2, a2, n2, c2, rfl, rfl, h2⟩
    · have e : ltB (some k1) none = true := rfl
      rw [e]
      clear hu hv ha hb h1
      go_enter Try.func21, Try.ntmps21
      go_wp2
      go_ret
      exact ⟨by simp, 0, rfl⟩
    · have HU : Hid (Bs w (.slice (some a1) n1 c1) k1 ∧ Bs w (.slice (some a2) n2 c2) k2 ∧ k1.length ≤ 2097152 ∧ k2.length ≤ 2097152) := ⟨h1, h2, ha, hb⟩
      clear hu hv ha hb h1 h2
      by_cases h : k1 < k2
      · have hc : cmpK k1 k2 < 0 := cmpK_neg.2 h
        have hc' : ¬ 0 ≤ cmpK k1 k2 := by omega
        have e : ltB (some k1) (some k2) = true := by simp [ltB, h]
        rw [e]
        clear h e
        go_enter Try.func21, Try.ntmps21
        go_wp2_with fail
        refine (zzCmp_any HU.out.1 HU.out.2.1 HU.out.2.2.1 HU.out.2.2.2).mono ?_
        rintro e w' ⟨rfl, n, rfl⟩
        go_wp2
        go_ret
        exact ⟨by simp, _, rfl⟩
      · have hc : 0 ≤ cmpK k1 k2 := cmpK_ge.2 (by grind)
        have e : ltB (some k1) (some k2) = false := by simp [ltB, h]
        rw [e]
        clear h e
        go_enter Try.func21, Try.ntmps21
        go_wp2_with fail
        refine (zzCmp_any HU.out.1 HU.out.2.1 HU.out.2.2.1 HU.out.2.2.2).mono ?_
        rintro e w' ⟨rfl, n, rfl⟩
        go_wp2
        go_ret
        exact ⟨by simp, _, rfl⟩
end Go.Proofs.Qxb6615764a
