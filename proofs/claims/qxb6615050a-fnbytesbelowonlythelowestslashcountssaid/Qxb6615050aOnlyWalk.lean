/-
  The walk of the law 'FnBytesBelowOnlyTheLowestSlashCounts' (3).
-/
import Derived.Test.Qxb6615050aLowWalks
import Derived.RowKit3
namespace Go.Proofs.Qxb6615050a
open Go.RowKit

theorem or_step (j M : Nat) (hj : j < 64) (hM : M = 2 ^ j - 1) : bits BinOp.or IntKind.u64 (M : Int) (IntKind.u64.wrap (2 ^ j)) = ((2 ^ (j + 1) - 1 : Nat) : Int) := by
  have h1 : 2 ^ j < 18446744073709551616 := Nat.pow_lt_pow_right (a := 2) (n := 64) (by decide) hj
  have h2 : M < 18446744073709551616 := by omega
  have e : IntKind.u64.wrap ((2 : Int) ^ j) = ((2 ^ j : Nat) : Int) := by
    rw [IntKind.wrap_u64, show ((2 : Int) ^ j) = ((2 ^ j : Nat) : Int) by simp]
    generalize 2 ^ j = z at h1 ⊢
    omega
  rw [e, bits_or_u64_nat _ _ h2 h1, hM, HalyBits.ones_succ]

theorem ones_any (k : Int) (m : Nat) (hm : 2 ^ k.toNat - 1 = m) (h1 : -7 ≤ k) (h2 : k ≤ 64) (w : World) :
    Calls Try.prog 11 #[.int .i64 k] w fun e w' => e = .returned (.int .u64 (m : Int)) ∧ w' = w := by
  have Hm : Hid (2 ^ k.toNat - 1 = m) := hm
  clear hm
  go_enter Try.func11, Try.ntmps11
  go_wp2
  go_loop [3, 4] (fun m i => ∃ j M : Nat, j ≤ k.toNat ∧ Hid (M = 2 ^ j - 1) ∧ m = .int .u64 (M : Int) ∧ i = .int .i64 j) (fun _ i => 64 - (intOf i).toNat)
  case atStart => exact ⟨0, 0, Nat.zero_le _, rfl, rfl, rfl⟩
  case round =>
    obtain ⟨j, M, hj, HM, rfl, rfl⟩ := hrel
    by_cases h : (j : Int) < k
    · have hj64 : (j : Int) < 64 := by omega
      have HO : Hid (bits BinOp.or IntKind.u64 (M : Int) (IntKind.u64.wrap (2 ^ j)) = ((2 ^ (j + 1) - 1 : Nat) : Int)) := or_step j M (by omega) HM.out
      go_wp2
      go_round
      case rel => exact ⟨j + 1, 2 ^ (j + 1) - 1, by omega, rfl, by rw [HO.out], by go_num⟩
      case measure => simp [intOf]; omega
    · go_wp2
      go_ret
      exact ⟨ret_int (by rw [HM.out, ← Hm.out, show j = k.toNat by omega]), rfl⟩

/-- ZZbytesBelow, its mask under a name. -/
theorem zzbelow_mask (p q s m : Nat) (hS : 2 ^ (p + 1) * q + 2 ^ p = s) (hm : 2 ^ (p - 7) - 1 = m) (hs : s < 18446744073709551616) (w : World) :
    Calls Try.prog 10 #[.int .u64 (s : Int)] w fun e w' => e = .returned (.int .u64 (m : Int)) ∧ w' = w := by
  subst hm; rw [← HalyBits.mask_any]; exact zzbelow_low p q s hS hs w

theorem wrap_shl (p t : Nat) (hp : p < 63) : IntKind.u64.wrap ((t : Int) * 2 ^ (p + 1)) = ((2 ^ (p + 1) * (t % 2 ^ (63 - p)) : Nat) : Int) := by
  rw [← HalyBits.shl_form p t hp, IntKind.wrap_u64, show ((t : Int) * 2 ^ (p + 1)) = ((t * 2 ^ (p + 1) : Nat) : Int) by simp]
  generalize t * 2 ^ (p + 1) = z
  omega

/-- The lowest set bit below 63: bits are set above it. -/
theorem only_low (p q s t : Nat) (hS : 2 ^ (p + 1) * q + 2 ^ p = s) (hp : p < 63) (h0 : 0 < s) (hs : s < 18446744073709551616) (w : World) :
    Calls Try.prog 3 #[.int .u64 (s : Int), .int .u64 (t : Int)] w fun e w' => e = .returned (.bool true) ∧ Grown w w' := by
  obtain ⟨m, hm⟩ : ∃ m, 2 ^ (p - 7) - 1 = m := ⟨_, rfl⟩
  obtain ⟨u, hu⟩ : ∃ u, u = 2 ^ (p + 1) * (q ||| t % 2 ^ (63 - p)) + 2 ^ p := ⟨_, rfl⟩
  have hU : bits BinOp.or IntKind.u64 (s : Int) (IntKind.u64.wrap ((t : Int) * 2 ^ (p + 1))) = (u : Int) := by
    rw [wrap_shl p t hp, bits_or_u64_nat _ _ hs (by rw [← HalyBits.shl_form p t hp]; exact Nat.mod_lt _ (by decide)), ← hS, HalyBits.or_above, hu]
  have hul : u < 18446744073709551616 := by
    rw [hu, ← HalyBits.or_above, hS, ← HalyBits.shl_form p t hp]
    exact Nat.or_lt_two_pow (n := 64) hs (Nat.mod_lt _ (by decide))
  have hA : bits BinOp.and IntKind.u64 (m : Int) (s : Int) = 0 := by
    rw [bits_and_u64_nat _ _ (by rw [← hm]; exact HalyBits.mask_lt (p - 7) (by omega)) hs, ← hm, ← hS, HalyBits.and_low p (p - 7) _ (by omega)]; rfl
  have HS : Hid (2 ^ (p + 1) * q + 2 ^ p = s) := hS
  have Hu : Hid (u = 2 ^ (p + 1) * (q ||| t % 2 ^ (63 - p)) + 2 ^ p) := hu
  have Hm : Hid (2 ^ (p - 7) - 1 = m) := hm
  clear hS hm hu
  go_enter Try.func3, Try.ntmps3
  go_wp2_with fail
  refine (low_any p q s HS.out (by omega) hs _).mono ?_
  rintro e w' ⟨rfl, rfl⟩
  go_wp2_with fail
  refine (zzbelow_mask p q s m HS.out Hm.out hs _).mono ?_
  rintro e w' ⟨rfl, rfl⟩
  go_wp2_with fail
  refine (zzbelow_mask p _ u m Hu.out.symm Hm.out hul _).mono ?_
  rintro e w' ⟨rfl, rfl⟩
  go_wp2_with fail
  refine (ones_any ((p : Int) - 7) m (by rw [show ((p : Int) - 7).toNat = p - 7 by omega]; exact Hm.out) (by omega) (by omega) _).mono ?_
  rintro e w' ⟨rfl, rfl⟩
  go_wp2_with fail
  go_ret
  exact ⟨rfl, Grown.refl _⟩

/-- The lowest set bit is the highest: nothing is set above it. -/
theorem only_top (p q s t : Nat) (hS : 2 ^ (p + 1) * q + 2 ^ p = s) (hp : p = 63) (h0 : 0 < s) (hs : s < 18446744073709551616) (w : World) :
    Calls Try.prog 3 #[.int .u64 (s : Int), .int .u64 (t : Int)] w fun e w' => e = .returned (.bool true) ∧ Grown w w' := by
  obtain ⟨m, hm⟩ : ∃ m, 2 ^ (p - 7) - 1 = m := ⟨_, rfl⟩
  have hU : bits BinOp.or IntKind.u64 (s : Int) 0 = (s : Int) := by
    rw [show (0 : Int) = ((0 : Nat) : Int) from rfl, bits_or_u64_nat _ _ hs (by decide)]; simp
  have hA : bits BinOp.and IntKind.u64 (m : Int) (s : Int) = 0 := by
    rw [bits_and_u64_nat _ _ (by rw [← hm]; exact HalyBits.mask_lt (p - 7) (by omega)) hs, ← hm, ← hS, HalyBits.and_low p (p - 7) _ (by omega)]; rfl
  have HS : Hid (2 ^ (p + 1) * q + 2 ^ p = s) := hS
  have Hm : Hid (2 ^ (p - 7) - 1 = m) := hm
  have hp1 : 63 ≤ p := by omega
  have hp2 : p ≤ 63 := by omega
  clear hS hm hp
  go_enter Try.func3, Try.ntmps3
  go_wp2_with fail
  refine (low_any p q s HS.out (by omega) hs _).mono ?_
  rintro e w' ⟨rfl, rfl⟩
  go_wp2_with fail
  refine (zzbelow_mask p q s m HS.out Hm.out hs _).mono ?_
  rintro e w' ⟨rfl, rfl⟩
  go_wp2_with fail
  refine (zzbelow_mask p q s m HS.out Hm.out hs _).mono ?_
  rintro e w' ⟨rfl, rfl⟩
  go_wp2_with fail
  refine (ones_any ((p : Int) - 7) m (by rw [show ((p : Int) - 7).toNat = p - 7 by omega]; exact Hm.out) (by omega) (by omega) _).mono ?_
  rintro e w' ⟨rfl, rfl⟩
  go_wp2_with fail
  go_ret
  exact ⟨rfl, Grown.refl _⟩

theorem only_zero (t : Nat) (w : World) :
    Calls Try.prog 3 #[.int .u64 0, .int .u64 (t : Int)] w fun e w' => e = .returned (.bool true) ∧ Grown w w' := by
  go_enter Try.func3, Try.ntmps3
  go_wp2_with fail
  go_ret
  exact ⟨rfl, Grown.refl _⟩

theorem only_any (s t : Nat) (hs : s < 18446744073709551616) (w : World) :
    Calls Try.prog 3 #[.int .u64 (s : Int), .int .u64 (t : Int)] w fun e w' => e = .returned (.bool true) ∧ Grown w w' := by
  by_cases h0 : s = 0
  · subst h0; exact only_zero t w
  · obtain ⟨p, q, e⟩ := HalyBits.low_form s (by omega)
    have hp : p < 64 := HalyBits.low_lt p q s e.symm hs
    by_cases h : p < 63
    · exact only_low p q s t e.symm h (by omega) hs w
    · exact only_top p q s t e.symm (by omega) (by omega) hs w
end Go.Proofs.Qxb6615050a
