/-
  The walk of the law 'FnSettleScriptAgreesWithFreshNode' (6).
-/
import Derived.Test.Qxb6615050aBuild
namespace Go.Proofs.Qxb6615050a
open Go.RowKit
set_option linter.unusedVariables false

theorem zzbytes_any (x : Int) (a : Option Addr) (n c : Nat) (hn : n ≤ 1048576) (w : World) :
    Calls Try.prog 16 #[.int .u8 x, .slice a n c] w fun e w' => e = .returned (.bool true) ∧ w' = w := by
  have h1 : (n : Int) ≤ 1048576 := by omega
  go_enter Try.func16, Try.ntmps16
  go_wp2
  go_ret
  exact ⟨rfl, rfl⟩
theorem zzbytes_no (x : Int) (a : Option Addr) (n c : Nat) (hn : 1048576 < n) (w : World) :
    Calls Try.prog 16 #[.int .u8 x, .slice a n c] w fun e w' => e = .returned (.bool false) ∧ w' = w := by
  have h1 : 1048576 < (n : Int) := by omega
  go_enter Try.func16, Try.ntmps16
  go_wp2
  go_ret
  exact ⟨rfl, rfl⟩
theorem script_long (x : Int) (a : Option Addr) (n c : Nat) (hn : 1048576 < n) (w : World) :
    Calls Try.prog 6 #[.int .u8 x, .slice a n c] w fun e w' => e = .returned (.bool true) ∧ Below w.heap.size w w' := by
  go_enter Try.func6, Try.ntmps6
  go_wp2_with fail
  refine (zzbytes_no x a n c hn w).mono ?_
  rintro e w' ⟨rfl, rfl⟩
  go_wp2_with fail
  go_ret
  exact ⟨rfl, Below.refl _ _⟩
theorem script_mid (x : Int) (a : Option Addr) (n c : Nat) (hn : n ≤ 1048576) (hm : 4096 < n) (w : World) :
    Calls Try.prog 6 #[.int .u8 x, .slice a n c] w fun e w' => e = .returned (.bool true) ∧ Below w.heap.size w w' := by
  have h1 : 4096 < (n : Int) := by omega
  go_enter Try.func6, Try.ntmps6
  go_wp2_with fail
  refine (zzbytes_any x a n c hn w).mono ?_
  rintro e w' ⟨rfl, rfl⟩
  go_wp2_with fail
  go_ret
  exact ⟨rfl, Below.refl _ _⟩
theorem script_none (x : Int) (a : Option Addr) (c : Nat) (w : World) :
    Calls Try.prog 6 #[.int .u8 x, .slice a 0 c] w fun e w' => e = .returned (.bool true) ∧ Below w.heap.size w w' := by
  go_enter Try.func6, Try.ntmps6
  go_wp2_with fail
  refine (zzbytes_any x a 0 c (by omega) w).mono ?_
  rintro e w' ⟨rfl, rfl⟩
  go_wp2_with fail
  go_ret
  exact ⟨rfl, Below.refl _ _⟩

set_option maxHeartbeats 1000000 in
theorem script_main {w : World} (x : Int) (b0 off n c : Nat) (z : Nat → Int) (hc : ∀ i, i < n → w.cell? ⟨b0, off + i, none⟩ = some (.int .u8 (z i))) (hb0 : b0 < w.heap.size) (hn : n ≤ 4096) (h0 : 0 < n) :
    Calls Try.prog 6 #[.int .u8 x, .slice (some ⟨b0, off, none⟩) n c] w fun e w' => e = .returned (.bool true) ∧ Below w.heap.size w w' := by
  have h1 : (n : Int) ≤ 4096 := by omega
  have h2 : ((n : Int) == 0) = false := by rw [beq_eq_false_iff_ne]; omega
  obtain ⟨B, hB⟩ : ∃ B, w.heap.size = B := ⟨_, rfl⟩
  have HB : Hid (w.heap.size = B) := hB
  rw [hB] at hb0 ⊢
  clear hB
  have HC : Hid (∀ i, i < n → w.cell? ⟨b0, off + i, none⟩ = some (.int .u8 (z i))) := hc
  clear hc
  go_enter Try.func6, Try.ntmps6
  go_wp2_with fail
  refine (zzbytes_any x _ n c (by omega) w).mono ?_
  rintro e w' ⟨rfl, rfl⟩
  go_wp2_with fail
  refine (new_any x w').mono ?_
  rintro e w1 ⟨rfl, hN, hbel, hsz⟩
  rw [HB.out] at hN hbel hsz ⊢
  have HN : Hid (NodeAt w1 B x none (.slice none 0 0) none) := hN
  have HBel : Hid (Below B w' w1) := hbel
  clear hN hbel hsz
  go_wp2_with fail
  go_loopw [6, 7, 8, 9, 10] (fun l pa re ok i wr => ∃ (k lits : Nat) (pb rb : Bool) (y : Int) (p : Option Addr) (v : Value) (q : Option Addr) (xs : List Value), k ≤ n ∧ lits ≤ k ∧ l = .int .i64 (lits : Int) ∧ pa = .bool pb ∧ re = .bool rb ∧ ok = .bool true ∧ i = .int .i64 (k : Int) ∧ p.isSome = pb ∧ q.isSome = rb ∧ NodeAt wr B y p v q ∧ wr.ownsRow (B + 1) 29 1 v lits xs ∧ (0 < k → y = wv rb pb lits) ∧ Below B w' wr) (fun _ _ _ _ i _ => n - (intOf i).toNat)
  case atStart => exact ⟨0, 0, false, false, x, none, _, none, _, Nat.zero_le _, Nat.le_refl _, rfl, rfl, rfl, rfl, rfl, rfl, rfl, HN.out, World.ownsRow_nil _ _ _ _, fun h => absurd h (by omega), HBel.out⟩
  case round =>
    obtain ⟨k, lits, pb, rb, y, p, v, q, xs, hk, hl, rfl, rfl, rfl, rfl, rfl, hpb, hrb, hN1, hO1, hy, hB1⟩ := hrel
    have HN1 : Hid (NodeAt wr B y p v q) := hN1
    have HO1 : Hid (wr.ownsRow (B + 1) 29 1 v lits xs) := hO1
    have HB1 : Hid (Below B w' wr) := hB1
    have HE : Hid (p.isSome = pb ∧ q.isSome = rb) := ⟨hpb, hrb⟩
    have HY : Hid (0 < k → y = wv rb pb lits) := hy
    clear hN1 hO1 hB1 hpb hrb hy HN HBel
    by_cases hlt : k < n
    · have hcell : wr.cell? ⟨b0, off + k, none⟩ = some (.int .u8 (z k)) := (HB1.out.cell (p := ⟨b0, off + k, none⟩) hb0).trans (HC.out k hlt)
      generalize z k = zk at hcell
      by_cases e0 : zk = 0
      · have t0 : (zk == 0) = true := by simp [e0]
        clear e0
        go_wp2_with fail
        refine (addLiteral_any HN1.out HO1.out (by omega)).mono ?_
        rintro e w2 ⟨rfl, ⟨v2, xs2, hN2, hO2⟩, hB2⟩
        have HT : Hid (NodeAt w2 B y p v2 q ∧ w2.ownsRow (B + 1) 29 1 v2 (lits + 1) xs2 ∧ p.isSome = pb ∧ q.isSome = rb ∧ Below B w' w2) := ⟨hN2, hO2, HE.out.1, HE.out.2, HB1.out.trans hB2⟩
        clear hN2 hO2 hB2 HN1 HO1 HB1 HE HY
        obtain ⟨a2, c2, hv⟩ := owns_slice HT.out.2.1
        rw [hv] at HT
        clear hv
        go_wp2_with fail
        refine (zzsettle_any HT.out.1 (by omega)).mono ?_
        rintro e w3 ⟨rfl, hN3, hO3⟩
        rw [HT.out.2.2.1, HT.out.2.2.2.1] at hN3
        have HN3 : Hid (NodeAt w3 B (wv rb pb (lits + 1)) p (.slice a2 (lits + 1) c2) q) := hN3
        have HO3 : Hid (Only B w2 w3) := hO3
        clear hN3 hO3
        go_wp2_with fail
        refine (ways_any HN3.out).mono ?_
        rintro e w4 ⟨rfl, rfl⟩
        go_wp2_with fail
        rw [show ((lits : Int) + 1) = ((lits + 1 : Nat) : Int) by omega]
        refine (zzWays_any rb pb (lits + 1) (by omega) _).mono ?_
        rintro e w4 ⟨rfl, rfl⟩
        go_wp2_with fail
        go_roundw
        case rel => exact ⟨k + 1, lits + 1, pb, rb, _, p, _, q, xs2, by omega, by omega, by go_num, rfl, rfl, rfl, by go_num, HT.out.2.2.1, HT.out.2.2.2.1, HN3.out, ownsRow_only HT.out.2.1 HO3.out, fun _ => rfl, HT.out.2.2.2.2.trans (HO3.out.below (Nat.le_refl _))⟩
        case measure => simp [intOf]; omega
      have t0 : (zk == 0) = false := by simp [e0]
      clear e0
      by_cases e1 : zk = 1
      · have t1 : (zk == 1) = true := by simp [e1]
        clear e1
        go_wp2_with fail
        refine (setParam_any HN1.out).mono ?_
        rintro e w2 ⟨rfl, ⟨p2, hp2, hN2⟩, hO2, hB2⟩
        obtain ⟨v2, xs2, hvx⟩ : ∃ v2 xs2, v2 = v ∧ xs2 = xs := ⟨_, _, rfl, rfl⟩
        obtain ⟨rfl, rfl⟩ := hvx
        have HT : Hid (NodeAt w2 B y p2 v2 q ∧ w2.ownsRow (B + 1) 29 1 v2 (lits) xs2 ∧ p2.isSome = true ∧ q.isSome = rb ∧ Below B w' w2) := ⟨hN2, hO2 _ _ HO1.out, hp2, HE.out.2, HB1.out.trans hB2⟩
        clear hN2 hO2 hB2 hp2 HN1 HO1 HB1 HE HY
        obtain ⟨a2, c2, hv⟩ := owns_slice HT.out.2.1
        rw [hv] at HT
        clear hv
        go_wp2_with fail
        refine (zzsettle_any HT.out.1 (by omega)).mono ?_
        rintro e w3 ⟨rfl, hN3, hO3⟩
        rw [HT.out.2.2.1, HT.out.2.2.2.1] at hN3
        have HN3 : Hid (NodeAt w3 B (wv rb true (lits)) p2 (.slice a2 (lits) c2) q) := hN3
        have HO3 : Hid (Only B w2 w3) := hO3
        clear hN3 hO3
        go_wp2_with fail
        refine (ways_any HN3.out).mono ?_
        rintro e w4 ⟨rfl, rfl⟩
        go_wp2_with fail
        refine (zzWays_any rb true (lits) (by omega) _).mono ?_
        rintro e w4 ⟨rfl, rfl⟩
        go_wp2_with fail
        go_roundw
        case rel => exact ⟨k + 1, lits, true, rb, _, p2, _, q, xs2, by omega, by omega, by go_num, rfl, rfl, rfl, by go_num, HT.out.2.2.1, HT.out.2.2.2.1, HN3.out, ownsRow_only HT.out.2.1 HO3.out, fun _ => rfl, HT.out.2.2.2.2.trans (HO3.out.below (Nat.le_refl _))⟩
        case measure => simp [intOf]; omega
      have t1 : (zk == 1) = false := by simp [e1]
      clear e1
      by_cases e2 : zk = 2
      · have t2 : (zk == 2) = true := by simp [e2]
        clear e2
        go_wp2_with fail
        refine (setRest_any HN1.out).mono ?_
        rintro e w2 ⟨rfl, ⟨q2, hq2, hN2⟩, hO2, hB2⟩
        obtain ⟨v2, xs2, hvx⟩ : ∃ v2 xs2, v2 = v ∧ xs2 = xs := ⟨_, _, rfl, rfl⟩
        obtain ⟨rfl, rfl⟩ := hvx
        have HT : Hid (NodeAt w2 B y p v2 q2 ∧ w2.ownsRow (B + 1) 29 1 v2 (lits) xs2 ∧ p.isSome = pb ∧ q2.isSome = true ∧ Below B w' w2) := ⟨hN2, hO2 _ _ HO1.out, HE.out.1, hq2, HB1.out.trans hB2⟩
        clear hN2 hO2 hB2 hq2 HN1 HO1 HB1 HE HY
        obtain ⟨a2, c2, hv⟩ := owns_slice HT.out.2.1
        rw [hv] at HT
        clear hv
        go_wp2_with fail
        refine (zzsettle_any HT.out.1 (by omega)).mono ?_
        rintro e w3 ⟨rfl, hN3, hO3⟩
        rw [HT.out.2.2.1, HT.out.2.2.2.1] at hN3
        have HN3 : Hid (NodeAt w3 B (wv true pb (lits)) p (.slice a2 (lits) c2) q2) := hN3
        have HO3 : Hid (Only B w2 w3) := hO3
        clear hN3 hO3
        go_wp2_with fail
        refine (ways_any HN3.out).mono ?_
        rintro e w4 ⟨rfl, rfl⟩
        go_wp2_with fail
        refine (zzWays_any true pb (lits) (by omega) _).mono ?_
        rintro e w4 ⟨rfl, rfl⟩
        go_wp2_with fail
        go_roundw
        case rel => exact ⟨k + 1, lits, pb, true, _, p, _, q2, xs2, by omega, by omega, by go_num, rfl, rfl, rfl, by go_num, HT.out.2.2.1, HT.out.2.2.2.1, HN3.out, ownsRow_only HT.out.2.1 HO3.out, fun _ => rfl, HT.out.2.2.2.2.trans (HO3.out.below (Nat.le_refl _))⟩
        case measure => simp [intOf]; omega
      · have t2 : (zk == 2) = false := by simp [e2]
        clear e2
        obtain ⟨v2, xs2, hvx⟩ : ∃ v2 xs2, v2 = v ∧ xs2 = xs := ⟨_, _, rfl, rfl⟩
        obtain ⟨rfl, rfl⟩ := hvx
        have HT : Hid (NodeAt wr B y p v2 q ∧ wr.ownsRow (B + 1) 29 1 v2 (lits) xs2 ∧ p.isSome = pb ∧ q.isSome = rb ∧ Below B w' wr) := ⟨HN1.out, HO1.out, HE.out.1, HE.out.2, HB1.out⟩
        clear HN1 HO1 HB1 HE HY
        obtain ⟨a2, c2, hv⟩ := owns_slice HT.out.2.1
        rw [hv] at HT
        clear hv
        go_wp2_with fail
        refine (zzsettle_any HT.out.1 (by omega)).mono ?_
        rintro e w3 ⟨rfl, hN3, hO3⟩
        rw [HT.out.2.2.1, HT.out.2.2.2.1] at hN3
        have HN3 : Hid (NodeAt w3 B (wv rb pb (lits)) p (.slice a2 (lits) c2) q) := hN3
        have HO3 : Hid (Only B wr w3) := hO3
        clear hN3 hO3
        go_wp2_with fail
        refine (ways_any HN3.out).mono ?_
        rintro e w4 ⟨rfl, rfl⟩
        go_wp2_with fail
        refine (zzWays_any rb pb (lits) (by omega) _).mono ?_
        rintro e w4 ⟨rfl, rfl⟩
        go_wp2_with fail
        go_roundw
        case rel => exact ⟨k + 1, lits, pb, rb, _, p, _, q, xs2, by omega, by omega, by go_num, rfl, rfl, rfl, by go_num, HT.out.2.2.1, HT.out.2.2.2.1, HN3.out, ownsRow_only HT.out.2.1 HO3.out, fun _ => rfl, HT.out.2.2.2.2.trans (HO3.out.below (Nat.le_refl _))⟩
        case measure => simp [intOf]; omega
    · have hkn : k = n := by omega
      have hy : y = wv rb pb lits := HY.out (by omega)
      obtain ⟨a1, c1, hv⟩ := owns_slice HO1.out
      rw [hv, hy] at HN1
      clear HO1 hv hy HY
      go_wp2_with fail
      refine (build_any _ rb pb lits (by omega) wr).mono ?_
      rintro e w2 ⟨rfl, ⟨p2, a2, c2, q2, hp2, hq2, hN2⟩, hB2, hs2⟩
      have HN2 : Hid (NodeAt w2 wr.heap.size _ p2 (.slice a2 lits c2) q2) := hN2
      have HB2 : Hid (Below wr.heap.size wr w2) := hB2
      have HE2 : Hid (p2.isSome = pb ∧ q2.isSome = rb) := ⟨hp2, hq2⟩
      have hlt' : B < wr.heap.size := HN1.out.lt
      have HN1' : Hid (NodeAt w2 B (wv rb pb lits) p (.slice a1 lits c1) q) := HN1.out.below hB2 hlt'
      clear hN2 hB2 hp2 hq2 HN1
      go_wp2_with fail
      refine (zzsettle_any HN2.out (by omega)).mono ?_
      rintro e w3 ⟨rfl, hN3, hO3⟩
      rw [HE2.out.1, HE2.out.2] at hN3
      have HN3 : Hid (NodeAt w3 wr.heap.size (wv rb pb lits) p2 (.slice a2 lits c2) q2) := hN3
      have HO3 : Hid (Only wr.heap.size w2 w3) := hO3
      clear hN3 hO3
      have HN4 : Hid (NodeAt w3 B (wv rb pb lits) p (.slice a1 lits c1) q) := HN1'.out.only HO3.out (by omega)
      go_wp2_with fail
      refine (ways_any HN3.out).mono ?_
      rintro e w4 ⟨rfl, rfl⟩
      go_wp2_with fail
      refine (ways_any HN4.out).mono ?_
      rintro e w4 ⟨rfl, rfl⟩
      go_wp2_with fail
      go_ret
      exact ⟨rfl, (HB1.out.trans (HB2.out.mono (Nat.le_of_lt hlt'))).trans (HO3.out.below (Nat.le_of_lt hlt'))⟩
end Go.Proofs.Qxb6615050a
