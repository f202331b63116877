/-
  The walk of the law 'FnSettleForgetsStaleWays' (5).
-/
import Derived.Test.Qxb6615050aBuild
namespace Go.Proofs.Qxb6615050a
open Go.RowKit

set_option maxHeartbeats 400000 in
theorem forgets_in (x : Int) (rest param : Bool) (n : Nat) (hn : n ≤ 4096) (w : World) :
    Calls Try.prog 5 #[.int .u8 x, .bool rest, .bool param, .int .i64 (n : Int)] w fun e w' => e = .returned (.bool true) ∧ Below w.heap.size w w' := by
  have hn2 : (n : Int) ≤ 4096 := by omega
  go_enter Try.func5, Try.ntmps5
  go_wp2_with fail
  refine (build_any x rest param n hn w).mono ?_
  rintro e w1 ⟨rfl, ⟨p1, a1, c1, q1, hp1, hq1, hN1⟩, hB1, hs1⟩
  have HN1 : Hid (NodeAt w1 w.heap.size x p1 (.slice a1 n c1) q1) := hN1
  have HB1 : Hid (Below w.heap.size w w1) := hB1
  have HE1 : Hid (p1.isSome = param ∧ q1.isSome = rest) := ⟨hp1, hq1⟩
  clear hN1 hB1 hp1 hq1
  go_wp2_with fail
  refine (build_any _ rest param n hn w1).mono ?_
  rintro e w2 ⟨rfl, ⟨p2, a2, c2, q2, hp2, hq2, hN2⟩, hB2, hs2⟩
  have HN2 : Hid (NodeAt w2 w1.heap.size _ p2 (.slice a2 n c2) q2) := hN2
  have HB2 : Hid (Below w1.heap.size w1 w2) := hB2
  have HE2 : Hid (p2.isSome = param ∧ q2.isSome = rest) := ⟨hp2, hq2⟩
  clear hN2 hB2 hp2 hq2
  go_wp2_with fail
  refine (zzsettle_any (HN1.out.below HB2.out hs1) hn).mono ?_
  rintro e w3 ⟨rfl, hN3, hO3⟩
  rw [HE1.out.1, HE1.out.2] at hN3
  have HN3 : Hid (NodeAt w3 w.heap.size (wv rest param n) p1 (.slice a1 n c1) q1) := hN3
  have HO3 : Hid (Only w.heap.size w2 w3) := hO3
  clear hN3 hO3
  go_wp2_with fail
  refine (zzsettle_any (HN2.out.only HO3.out (by omega)) hn).mono ?_
  rintro e w4 ⟨rfl, hN4, hO4⟩
  rw [HE2.out.1, HE2.out.2] at hN4
  have HN4 : Hid (NodeAt w4 w1.heap.size (wv rest param n) p2 (.slice a2 n c2) q2) := hN4
  have HO4 : Hid (Only w1.heap.size w3 w4) := hO4
  clear hN4 hO4
  have HN3' : Hid (NodeAt w4 w.heap.size (wv rest param n) p1 (.slice a1 n c1) q1) := HN3.out.only HO4.out (by omega)
  go_wp2_with fail
  refine (ways_any HN3'.out).mono ?_
  rintro e w' ⟨rfl, rfl⟩
  go_wp2_with fail
  refine (ways_any HN4.out).mono ?_
  rintro e w' ⟨rfl, rfl⟩
  go_wp2_with fail
  refine (zzsettle_any HN3'.out hn).mono ?_
  rintro e w5 ⟨rfl, hN5, hO5⟩
  rw [HE1.out.1, HE1.out.2] at hN5
  have HN5 : Hid (NodeAt w5 w.heap.size (wv rest param n) p1 (.slice a1 n c1) q1) := hN5
  have HO5 : Hid (Only w.heap.size w' w5) := hO5
  clear hN5 hO5
  go_wp2_with fail
  refine (ways_any HN5.out).mono ?_
  rintro e w' ⟨rfl, rfl⟩
  go_wp2_with fail
  refine (zzWays_any rest param n hn _).mono ?_
  rintro e w' ⟨rfl, rfl⟩
  go_wp2_with fail
  go_ret
  refine ⟨rfl, ?_⟩
  have k1 := HB1.out.trans (HB2.out.mono (Nat.le_of_lt hs1))
  exact ((k1.trans (HO3.out.below (Nat.le_refl _))).trans (HO4.out.below (Nat.le_of_lt hs1))).trans (HO5.out.below (Nat.le_refl _))

theorem forgets_low (x : Int) (rest param : Bool) (n : Int) (hn : n < 0) (w : World) :
    Calls Try.prog 5 #[.int .u8 x, .bool rest, .bool param, .int .i64 n] w fun e w' => e = .returned (.bool true) ∧ Below w.heap.size w w' := by
  go_enter Try.func5, Try.ntmps5
  go_wp2_with fail
  go_ret
  exact ⟨rfl, Below.refl _ _⟩

theorem forgets_high (x : Int) (rest param : Bool) (n : Int) (hn : 4096 < n) (w : World) :
    Calls Try.prog 5 #[.int .u8 x, .bool rest, .bool param, .int .i64 n] w fun e w' => e = .returned (.bool true) ∧ Below w.heap.size w w' := by
  have hn0 : ¬ n < 0 := by omega
  go_enter Try.func5, Try.ntmps5
  go_wp2_with fail
  go_ret
  exact ⟨rfl, Below.refl _ _⟩

theorem forgets_any (x : Int) (rest param : Bool) (n : Int) (w : World) :
    Calls Try.prog 5 #[.int .u8 x, .bool rest, .bool param, .int .i64 n] w fun e w' => e = .returned (.bool true) ∧ Below w.heap.size w w' := by
  by_cases h1 : n < 0
  · exact forgets_low x rest param n h1 w
  · by_cases h2 : 4096 < n
    · exact forgets_high x rest param n h2 w
    · obtain ⟨k, rfl⟩ := Int.eq_ofNat_of_zero_le (show 0 ≤ n by omega)
      exact forgets_in x rest param k (by omega) w
end Go.Proofs.Qxb6615050a
