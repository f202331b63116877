/-
  The walk of fill (36): a child that is full enough; the merges.
-/
import Derived.Test.Qxb6615764aMerge
namespace Go.Proofs.Qxb6615764a
open Go.RowKit Go.Lib
set_option linter.unusedVariables false
set_option linter.unusedSimpArgs false

/-- What 'size' answers of a node. -/
def SizeIs (w : World) (b n : Nat) : Prop := Calls Try.prog 42 #[.pointer (some ⟨b, 0, none⟩)] w fun e w' => e = .returned (.int .i64 (n : Int)) ∧ w' = w

set_option maxHeartbeats 4000000 in
set_option maxRecDepth 100000 in
theorem fill_none {w : World} {tv : Value} {nb ib cb i ns nk x nc : Nat} {S K : List Value} (hN : NodeR w nb ib cb ns nk S K) (hki : K[i]? = some (.pointer (some ⟨x, 0, none⟩))) (hik : (i : Int) < (nk : Int)) (hc : SizeIs w x nc) (hnc : (32 : Int) < (nc : Int)) :
    Calls Try.prog 36 #[tv, .pointer (some ⟨nb, 0, none⟩), .int .i64 (i : Int)] w fun e w' => e = .returned (.int .i64 (i : Int)) ∧ w' = w := by
  have n1 := hN.c1
  have k1 : w.cell? ⟨cb, i, none⟩ = some (.pointer (some ⟨x, 0, none⟩)) := by rw [hN.kid.cell]; exact hki
  have HC : Hid (SizeIs w x nc) := hc
  clear hc hN hki
  go_enter Try.func36, Try.ntmps36
  go_wp2_with fail
  refine HC.out.mono ?_
  rintro e w' ⟨rfl, hw⟩
  obtain rfl := hw.symm
  go_wp2
  go_ret
  exact ⟨rfl, rfl⟩

set_option maxHeartbeats 4000000 in
set_option maxRecDepth 100000 in
/-- The two small neighbours: child i goes into child j = i - 1. -/
theorem fill_mleft {w : World} {tv : Value} {nb ib cb i j ns nk x y nc nl : Nat} {S K : List Value} {PP : World → Prop} (hN : NodeR w nb ib cb ns nk S K) (hki : K[i]? = some (.pointer (some ⟨x, 0, none⟩))) (hkj : K[j]? = some (.pointer (some ⟨y, 0, none⟩))) (hik : (i : Int) < (nk : Int)) (hij : (i : Int) - 1 = (j : Int)) (h64 : (nk : Int) ≤ 64) (hc : SizeIs w x nc) (hnc : (nc : Int) ≤ 32) (hl : SizeIs w y nl) (hnl : (nl : Int) ≤ 32)
    (hno : (i : Int) + 1 < (nk : Int) → ∃ z nz : Nat, K[i + 1]? = some (.pointer (some ⟨z, 0, none⟩)) ∧ SizeIs w z nz ∧ (nz : Int) ≤ 32)
    (hm : Calls Try.prog 45 #[tv, .pointer (some ⟨nb, 0, none⟩), .int .i64 (j : Int)] w fun e w' => e = .returned (.tuple #[]) ∧ PP w') :
    Calls Try.prog 36 #[tv, .pointer (some ⟨nb, 0, none⟩), .int .i64 (i : Int)] w fun e w' => e = .returned (.int .i64 (j : Int)) ∧ PP w' := by
  have n1 := hN.c1
  have k1 : w.cell? ⟨cb, i, none⟩ = some (.pointer (some ⟨x, 0, none⟩)) := by rw [hN.kid.cell]; exact hki
  have k2 : w.cell? ⟨cb, j, none⟩ = some (.pointer (some ⟨y, 0, none⟩)) := by rw [hN.kid.cell]; exact hkj
  have hi0 : (0 : Int) < (i : Int) := by omega
  have hjk : (j : Int) < (nk : Int) := by omega
  have hi64 : (i : Int) ≤ 64 := by omega
  have hnc' : ¬ (32 : Int) < (nc : Int) := by omega
  have hnl' : ¬ (32 : Int) < (nl : Int) := by omega
  have HM : Hid (Calls Try.prog 45 #[tv, .pointer (some ⟨nb, 0, none⟩), .int .i64 (j : Int)] w fun e w' => e = .returned (.tuple #[]) ∧ PP w') := hm
  have HC : Hid (SizeIs w x nc ∧ SizeIs w y nl) := ⟨hc, hl⟩
  have HK : Hid ((i : Int) + 1 < (nk : Int) → ∃ z nz : Nat, w.cell? ⟨cb, i + 1, none⟩ = some (.pointer (some ⟨z, 0, none⟩)) ∧ SizeIs w z nz ∧ (nz : Int) ≤ 32) := fun h => by
    obtain ⟨z, nz, h1, h2, h3⟩ := hno h
    exact ⟨z, nz, by rw [hN.kid.cell]; exact h1, h2, h3⟩
  clear hc hl hm hno hN hki hkj
  go_enter Try.func36, Try.ntmps36
  go_wp2_with fail
  refine HC.out.1.mono ?_
  rintro e w' ⟨rfl, hw⟩
  obtain rfl := hw.symm
  go_wp2_with fail
  refine HC.out.2.mono ?_
  rintro e w' ⟨rfl, hw⟩
  obtain rfl := hw.symm
  by_cases h1 : (i : Int) + 1 < (nk : Int)
  · obtain ⟨z, nz, k3, hz, hnz⟩ := HK.out h1
    have hnz' : ¬ (32 : Int) < (nz : Int) := by omega
    have HZ : Hid (SizeIs w z nz) := hz
    clear hz HK
    go_wp2_with fail
    refine HZ.out.mono ?_
    rintro e w' ⟨rfl, hw⟩
    obtain rfl := hw.symm
    go_wp2_with fail
    refine HM.out.mono ?_
    rintro e w' ⟨rfl, hp⟩
    go_wp2
    go_ret
    exact ⟨rfl, hp⟩
  · clear HK
    go_wp2_with fail
    refine HM.out.mono ?_
    rintro e w' ⟨rfl, hp⟩
    go_wp2
    go_ret
    exact ⟨rfl, hp⟩

set_option maxHeartbeats 4000000 in
set_option maxRecDepth 100000 in
/-- The first child and its small neighbour: they merge. -/
theorem fill_mright {w : World} {tv : Value} {nb ib cb ns nk x z nc nz : Nat} {S K : List Value} {PP : World → Prop} (hN : NodeR w nb ib cb ns nk S K) (hki : K[0]? = some (.pointer (some ⟨x, 0, none⟩))) (hk1 : K[1]? = some (.pointer (some ⟨z, 0, none⟩))) (hik : (1 : Int) < (nk : Int)) (h64 : (nk : Int) ≤ 64) (hc : SizeIs w x nc) (hnc : (nc : Int) ≤ 32) (hz : SizeIs w z nz) (hnz : (nz : Int) ≤ 32)
    (hm : Calls Try.prog 45 #[tv, .pointer (some ⟨nb, 0, none⟩), .int .i64 0] w fun e w' => e = .returned (.tuple #[]) ∧ PP w') :
    Calls Try.prog 36 #[tv, .pointer (some ⟨nb, 0, none⟩), .int .i64 0] w fun e w' => e = .returned (.int .i64 0) ∧ PP w' := by
  have n1 := hN.c1
  have k1 : w.cell? ⟨cb, 0, none⟩ = some (.pointer (some ⟨x, 0, none⟩)) := by rw [hN.kid.cell]; exact hki
  have k2 : w.cell? ⟨cb, 1, none⟩ = some (.pointer (some ⟨z, 0, none⟩)) := by rw [hN.kid.cell]; exact hk1
  have hik0 : (0 : Int) < (nk : Int) := by omega
  have hnc' : ¬ (32 : Int) < (nc : Int) := by omega
  have hnz' : ¬ (32 : Int) < (nz : Int) := by omega
  have HM : Hid (Calls Try.prog 45 #[tv, .pointer (some ⟨nb, 0, none⟩), .int .i64 0] w fun e w' => e = .returned (.tuple #[]) ∧ PP w') := hm
  have HC : Hid (SizeIs w x nc ∧ SizeIs w z nz) := ⟨hc, hz⟩
  clear hc hz hm hN hki hk1
  go_enter Try.func36, Try.ntmps36
  go_wp2_with fail
  refine HC.out.1.mono ?_
  rintro e w' ⟨rfl, hw⟩
  obtain rfl := hw.symm
  go_wp2_with fail
  refine HC.out.2.mono ?_
  rintro e w' ⟨rfl, hw⟩
  obtain rfl := hw.symm
  go_wp2_with fail
  refine HM.out.mono ?_
  rintro e w' ⟨rfl, hp⟩
  go_wp2
  go_ret
  exact ⟨rfl, hp⟩
end Go.Proofs.Qxb6615764a
