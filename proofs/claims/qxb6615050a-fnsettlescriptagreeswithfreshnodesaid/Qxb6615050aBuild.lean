/-
  The contract of zzBuild (12).
-/
import Derived.Test.Qxb6615050aSettle2
namespace Go.Proofs.Qxb6615050a
open Go.RowKit

theorem owns_slice {w : World} {base : Nat} {e : TypeId} {size : Nat} {v : Value} {n : Nat} {xs : List Value} (h : w.ownsRow base e size v n xs) : ∃ a c, v = .slice a n c := by
  rcases h.2 with ⟨rfl, rfl⟩ | ⟨g, cap, cur, rfl, _⟩
  · exact ⟨_, _, rfl⟩
  · exact ⟨_, _, rfl⟩

set_option maxHeartbeats 400000 in
theorem build_any (x : Int) (rest param : Bool) (n : Nat) (hn : n ≤ 4096) (w : World) :
    Calls Try.prog 12 #[.int .u8 x, .bool rest, .bool param, .int .i64 (n : Int)] w fun e w' => e = .returned (.pointer (some ⟨w.heap.size, 0, none⟩)) ∧ (∃ p a c q, p.isSome = param ∧ q.isSome = rest ∧ NodeAt w' w.heap.size x p (.slice a n c) q) ∧ Below w.heap.size w w' ∧ w.heap.size < w'.heap.size := by
  obtain ⟨B, hB⟩ : ∃ B, w.heap.size = B := ⟨_, rfl⟩
  have HB : Hid (w.heap.size = B) := hB
  rw [hB]
  clear hB
  go_enter Try.func12, Try.ntmps12
  go_wp2_with fail
  refine (new_any x w).mono ?_
  rintro e w1 ⟨rfl, hN, hbel, hsz⟩
  rw [HB.out] at hN hbel hsz ⊢
  have HN : Hid (NodeAt w1 B x none (.slice none 0 0) none) := hN
  have HBel : Hid (Below B w w1) := hbel
  clear hN hbel hsz
  go_wp2_with fail
  go_loopw [10] (fun i wr => ∃ k v xs, k ≤ n ∧ i = .int .i64 ((k : Nat) : Int) ∧ NodeAt wr B x none v none ∧ wr.ownsRow (B + 1) 29 1 v k xs ∧ Below B w wr) (fun i _ => n - (intOf i).toNat)
  case atStart => exact ⟨0, _, _, Nat.zero_le _, rfl, HN.out, World.ownsRow_nil _ _ _ _, HBel.out⟩
  case round =>
    obtain ⟨k, v, xs, hk, rfl, hN1, hO1, hB1⟩ := hrel
    have HN1 : Hid (NodeAt wr B x none v none) := hN1
    have HO1 : Hid (wr.ownsRow (B + 1) 29 1 v k xs) := hO1
    have HB1 : Hid (Below B w wr) := hB1
    clear hN1 hO1 hB1 HN HBel
    by_cases hlt : k < n
    · go_wp2_with fail
      refine (addLiteral_any HN1.out HO1.out (by omega)).mono ?_
      rintro e w2 ⟨rfl, ⟨v', xs', hN2, hO2⟩, hB2⟩
      have HR : Hid (NodeAt w2 B x none v' none ∧ w2.ownsRow (B + 1) 29 1 v' (k + 1) xs' ∧ Below B wr w2) := ⟨hN2, hO2, hB2⟩
      clear hN2 hO2 hB2
      go_wp2_with fail
      go_roundw
      case rel => exact ⟨k + 1, v', xs', by omega, by go_num, HR.out.1, HR.out.2.1, HB1.out.trans HR.out.2.2⟩
      case measure => simp [intOf]; omega
    · obtain ⟨a, c, hv⟩ := owns_slice HO1.out
      have hkn : k = n := by omega
      rw [hv, hkn] at HN1
      clear HO1 hv
      cases param
      · cases rest
        · go_wp2_with fail
          go_ret
          exact ⟨rfl, ⟨_, _, _, _, rfl, rfl, HN1.out⟩, HB1.out, HN1.out.lt⟩
        · go_wp2_with fail
          refine (setRest_any HN1.out).mono ?_
          rintro e w3 ⟨rfl, ⟨q', hq', hN3⟩, _, hB3⟩
          have HR : Hid (NodeAt w3 B x none (.slice a n c) q' ∧ Below B wr w3 ∧ q'.isSome = true) := ⟨hN3, hB3, hq'⟩
          clear hN3 hB3 hq'
          go_wp2_with fail
          go_ret
          exact ⟨rfl, ⟨_, _, _, _, rfl, HR.out.2.2, HR.out.1⟩, HB1.out.trans HR.out.2.1, HR.out.1.lt⟩
      · go_wp2_with fail
        refine (setParam_any HN1.out).mono ?_
        rintro e w2 ⟨rfl, ⟨p', hp', hN2⟩, _, hB2⟩
        have HP : Hid (NodeAt w2 B x p' (.slice a n c) none ∧ Below B wr w2 ∧ p'.isSome = true) := ⟨hN2, hB2, hp'⟩
        clear hN2 hB2 hp'
        cases rest
        · go_wp2_with fail
          go_ret
          exact ⟨rfl, ⟨_, _, _, _, HP.out.2.2, rfl, HP.out.1⟩, HB1.out.trans HP.out.2.1, HP.out.1.lt⟩
        · go_wp2_with fail
          refine (setRest_any HP.out.1).mono ?_
          rintro e w3 ⟨rfl, ⟨q', hq', hN3⟩, _, hB3⟩
          have HR : Hid (NodeAt w3 B x p' (.slice a n c) q' ∧ Below B w2 w3 ∧ q'.isSome = true) := ⟨hN3, hB3, hq'⟩
          clear hN3 hB3 hq'
          go_wp2_with fail
          go_ret
          exact ⟨rfl, ⟨_, _, _, _, HP.out.2.2, HR.out.2.2, HR.out.1⟩, (HB1.out.trans HP.out.2.1).trans HR.out.2.1, HR.out.1.lt⟩
end Go.Proofs.Qxb6615050a
