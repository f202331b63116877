/-
  The walks of zzLowestBit (9), bytesBelow (27), ZZbytesBelow (10).
-/
import Derived.Test.Qxb6615050aProg
import Derived.Test.Qxb6615050aBits
import Derived.WalkKit
import Derived.Laws.BitsAllLaws
import Derived.Laws.Shifts
namespace Go.Proofs.Qxb6615050a
open Go.RowKit

theorem ret_int {k : IntKind} {a b : Int} (h : a = b) : Ending.returned (.int k a) = .returned (.int k b) := by rw [h]

/-- The test of zzLowestBit's round at k, in the walk's spelling. -/
theorem bit_at (p q k s : Nat) (hS : 2 ^ (p + 1) * q + 2 ^ p = s) (hs : s < 18446744073709551616) (hk : k ≤ p) : (bits BinOp.and IntKind.u64 ((s : Int) / 2 ^ k) 1 == 1) = decide (k = p) := by
  have e : ((s : Int) / 2 ^ k) = ((s / 2 ^ k : Nat) : Int) := by simp
  have hl : s / 2 ^ k < 18446744073709551616 := Nat.lt_of_le_of_lt (Nat.div_le_self _ _) hs
  have e1 : bits BinOp.and IntKind.u64 ((s / 2 ^ k : Nat) : Int) ((1 : Nat) : Int) = ((s / 2 ^ k &&& 1 : Nat) : Int) := bits_and_u64_nat _ _ hl (by omega)
  rw [e, show (1 : Int) = ((1 : Nat) : Int) from rfl, e1, Nat.and_one_is_mod]
  have e2 : s / 2 ^ k = 2 ^ (p - k) * (2 * q + 1) := by
    apply Nat.div_eq_of_eq_mul_right (Nat.two_pow_pos _)
    rw [← Nat.mul_assoc, ← Nat.pow_add, show k + (p - k) = p by omega, ← hS, Nat.pow_succ, Nat.mul_add, Nat.mul_assoc]; omega
  rw [e2]
  by_cases h : k = p
  · subst h; simp
  · have : p - k = (p - k - 1) + 1 := by omega
    rw [this, Nat.pow_succ, Nat.mul_comm (2 ^ (p - k - 1)) 2, Nat.mul_assoc]
    simp [h]

/-- 'zzLowestBit': a word whose lowest set bit is at p. -/
theorem low_any (p q s : Nat) (hS : 2 ^ (p + 1) * q + 2 ^ p = s) (hp : p < 64) (hs : s < 18446744073709551616) (w : World) :
    Calls Try.prog 9 #[.int .u64 (s : Int)] w fun e w' => e = .returned (.int .i64 (p : Int)) ∧ w' = w := by
  have HS : Hid (2 ^ (p + 1) * q + 2 ^ p = s) := hS
  clear hS
  go_enter Try.func9, Try.ntmps9
  go_wp2
  go_loop [3] (fun i => ∃ k : Nat, k ≤ p ∧ i = .int .i64 k) (fun i => 64 - (intOf i).toNat)
  case atStart => exact ⟨0, Nat.zero_le _, rfl⟩
  case round =>
    obtain ⟨k, hk, rfl⟩ := hrel
    have hb := bit_at p q k s HS.out hs hk
    by_cases h : k = p
    · subst h
      simp only [decide_true] at hb
      go_wp2
      go_ret
      exact ⟨rfl, rfl⟩
    · simp only [h, decide_false] at hb
      go_wp2
      go_round
      case rel => exact ⟨k + 1, by omega, by go_num⟩
      case measure => simp [intOf]; omega

theorem xor_sub (s : Nat) (h0 : 0 < s) (hs : s < 18446744073709551616) : bits BinOp.xor IntKind.u64 (s : Int) ((s : Int) - 1) / 256 = (((s ^^^ (s - 1)) / 256 : Nat) : Int) := by
  rw [show ((s : Int) - 1) = ((s - 1 : Nat) : Int) by omega, bits_xor_u64_nat _ _ hs (by omega)]
  simp

/-- 'bytesBelow' at a word that is not 0. -/
theorem below_any (s : Nat) (h0 : 0 < s) (hs : s < 18446744073709551616) (w : World) :
    Calls Try.prog 27 #[.int .u64 (s : Int)] w fun e w' => e = .returned (.int .u64 (((s ^^^ (s - 1)) / 256 : Nat) : Int)) ∧ w' = w := by
  have hx : Hid (bits BinOp.xor IntKind.u64 (s : Int) ((s : Int) - 1) / 256 = (((s ^^^ (s - 1)) / 256 : Nat) : Int)) := xor_sub s h0 hs
  go_enter Try.func27, Try.ntmps27
  go_wp2
  go_ret
  exact ⟨ret_int hx.out, rfl⟩

/-- 'ZZbytesBelow'. -/
theorem zzbelow_any (s : Nat) (h0 : 0 < s) (hs : s < 18446744073709551616) (w : World) :
    Calls Try.prog 10 #[.int .u64 (s : Int)] w fun e w' => e = .returned (.int .u64 (((s ^^^ (s - 1)) / 256 : Nat) : Int)) ∧ w' = w := by
  go_enter Try.func10, Try.ntmps10
  go_wp2_with (go_at_call 27; refine (below_any s h0 hs _).mono ?_; rintro e w' ⟨rfl, rfl⟩)
  go_ret
  exact ⟨rfl, rfl⟩

/-- ZZbytesBelow at a word whose lowest set bit is at p. -/
theorem zzbelow_low (p q s : Nat) (hS : 2 ^ (p + 1) * q + 2 ^ p = s) (hs : s < 18446744073709551616) (w : World) :
    Calls Try.prog 10 #[.int .u64 (s : Int)] w fun e w' => e = .returned (.int .u64 (((2 ^ (p + 1) - 1) / 256 : Nat) : Int)) ∧ w' = w := by
  have h0 : 0 < s := by have := Nat.two_pow_pos p; omega
  have := zzbelow_any s h0 hs w
  rw [← hS] at this ⊢
  rw [HalyBits.xor_low] at this
  exact this
end Go.Proofs.Qxb6615050a
