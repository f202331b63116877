/-
  The walk of the law 'FnBytesBelowOneByteHigherAddsAByte' (4).
-/
import Derived.Test.Qxb6615050aLowWalks
import Derived.RowKit3
namespace Go.Proofs.Qxb6615050a
open Go.RowKit
theorem wrap_shl8 (p q s : Nat) (hS : 2 ^ (p + 1) * q + 2 ^ p = s) (hp : p ≤ 55) : IntKind.u64.wrap ((s : Int) * 256) = ((2 ^ (p + 8 + 1) * (q % 2 ^ (55 - p)) + 2 ^ (p + 8) : Nat) : Int) := by
  rw [← HalyBits.shl8_form p q hp, hS, IntKind.wrap_u64]; omega

/-- ZZbytesBelow, its mask under a name. -/
theorem zzbelow_named (p q s m : Nat) (hS : 2 ^ (p + 1) * q + 2 ^ p = s) (hm : (2 ^ (p + 1) - 1) / 256 = m) (hs : s < 18446744073709551616) (w : World) :
    Calls Try.prog 10 #[.int .u64 (s : Int)] w fun e w' => e = .returned (.int .u64 (m : Int)) ∧ w' = w := by
  subst hm; exact zzbelow_low p q s hS hs w

/-- The lowest set bit is at a place from 7 to 55. -/
theorem higher_mid (p q s : Nat) (hS : 2 ^ (p + 1) * q + 2 ^ p = s) (hp : 7 ≤ p) (hp' : p ≤ 55) (h0 : 0 < s) (hs : s < 18446744073709551616) (w : World) :
    Calls Try.prog 4 #[.int .u64 (s : Int)] w fun e w' => e = .returned (.bool true) ∧ Grown w w' := by
  have hW := wrap_shl8 p q s hS hp'
  obtain ⟨s2, hs2⟩ : ∃ s2, s2 = 2 ^ (p + 8 + 1) * (q % 2 ^ (55 - p)) + 2 ^ (p + 8) := ⟨_, rfl⟩
  rw [← hs2] at hW
  have hlt : s2 < 18446744073709551616 := by have := hW; rw [IntKind.wrap_u64] at this; omega
  obtain ⟨a, ha⟩ : ∃ a, a = 2 ^ (p - 7) - 1 := ⟨_, rfl⟩
  obtain ⟨b, hb⟩ : ∃ b, b = 2 ^ (p + 1) - 1 := ⟨_, rfl⟩
  have hu := HalyBits.mask_up p hp hp'
  rw [← ha, ← hb] at hu
  have hbl : b < 18446744073709551616 := by rw [hb]; exact HalyBits.mask_lt (p + 1) (by omega)
  have h1 : bits BinOp.or IntKind.u64 (IntKind.u64.wrap ((a : Int) * 256)) 255 = (b : Int) := by
    rw [IntKind.wrap_u64, show ((a : Int) * 256 % 18446744073709551616) = ((a * 256 : Nat) : Int) by omega, show (255 : Int) = ((255 : Nat) : Int) from rfl, bits_or_u64_nat _ _ hu.1 (by omega), hu.2]
  have h2 : bits BinOp.and IntKind.u64 (b : Int) (s2 : Int) = 0 := by
    rw [bits_and_u64_nat _ _ hbl hlt, hb, hs2, HalyBits.and_low (p + 8) (p + 1) _ (by omega)]; rfl
  have HS : Hid (2 ^ (p + 1) * q + 2 ^ p = s) := hS
  have HS2 : Hid (s2 = 2 ^ (p + 8 + 1) * (q % 2 ^ (55 - p)) + 2 ^ (p + 8)) := hs2
  have HA : Hid ((2 ^ (p + 1) - 1) / 256 = a) := by rw [ha]; exact HalyBits.mask_div p hp
  have HB : Hid ((2 ^ (p + 8 + 1) - 1) / 256 = b) := by rw [hb]; exact HalyBits.mask_div (p + 8) (by omega)
  clear hS hs2 ha hb hu
  go_enter Try.func4, Try.ntmps4
  go_wp2_with fail
  refine (low_any p q s HS.out (by omega) hs _).mono ?_
  rintro e w' ⟨rfl, rfl⟩
  go_wp2_with fail
  refine (zzbelow_named p q s a HS.out HA.out hs _).mono ?_
  rintro e w' ⟨rfl, rfl⟩
  go_wp2_with fail
  refine (zzbelow_named (p + 8) _ s2 b HS2.out.symm HB.out hlt _).mono ?_
  rintro e w' ⟨rfl, rfl⟩
  go_wp2_with fail
  go_ret
  exact ⟨rfl, Grown.refl _⟩

/-- The lowest set bit is elsewhere. -/
theorem higher_out (p q s : Nat) (hS : 2 ^ (p + 1) * q + 2 ^ p = s) (hp64 : p < 64) (hp : p < 7 ∨ 55 < p) (h0 : 0 < s) (hs : s < 18446744073709551616) (w : World) :
    Calls Try.prog 4 #[.int .u64 (s : Int)] w fun e w' => e = .returned (.bool true) ∧ Grown w w' := by
  have HS : Hid (2 ^ (p + 1) * q + 2 ^ p = s) := hS
  clear hS
  rcases hp with hp | hp
  all_goals
    go_enter Try.func4, Try.ntmps4
    go_wp2_with fail
    refine (low_any p q s HS.out (by omega) hs _).mono ?_
    rintro e w' ⟨rfl, rfl⟩
    go_wp2_with fail
    go_ret
    exact ⟨rfl, Grown.refl _⟩

theorem higher_zero (w : World) :
    Calls Try.prog 4 #[.int .u64 0] w fun e w' => e = .returned (.bool true) ∧ Grown w w' := by
  go_enter Try.func4, Try.ntmps4
  go_wp2_with fail
  go_ret
  exact ⟨rfl, Grown.refl _⟩

theorem higher_any (s : Nat) (hs : s < 18446744073709551616) (w : World) :
    Calls Try.prog 4 #[.int .u64 (s : Int)] w fun e w' => e = .returned (.bool true) ∧ Grown w w' := by
  by_cases h0 : s = 0
  · subst h0; exact higher_zero w
  · obtain ⟨p, q, e⟩ := HalyBits.low_form s (by omega)
    have hp : p < 64 := HalyBits.low_lt p q s e.symm hs
    by_cases h : 7 ≤ p ∧ p ≤ 55
    · exact higher_mid p q s e.symm h.1 h.2 (by omega) hs w
    · exact higher_out p q s e.symm hp (by omega) (by omega) hs w
end Go.Proofs.Qxb6615050a
