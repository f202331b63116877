/-
  The walks of zzCmp (16), zzSame (13), zzSameBound (14), zzLater (21).
-/
import Derived.Test.Qxb6615764aRow
namespace Go.Proofs.Qxb6615764a
open Go.RowKit
set_option linter.unusedVariables false
set_option linter.unusedSimpArgs false

theorem cmpK_app (A B : Key) : ∀ P : Key, cmpK (P ++ A) (P ++ B) = cmpK A B
  | [] => rfl
  | x :: P => by
    have := cmpK_app A B P
    unfold cmpK at this ⊢
    simp only [List.cons_append]
    rw [Lib.compareBytes]
    simp [this]
theorem cmpK_lt_head {x y : UInt8} (A B : Key) (h : x.toNat < y.toNat) : cmpK (x :: A) (y :: B) = -1 := by
  have : x < y := by simpa [UInt8.lt_iff_toNat_lt] using h
  unfold cmpK; rw [Lib.compareBytes]; simp [this]
theorem cmpK_gt_head {x y : UInt8} (A B : Key) (h : y.toNat < x.toNat) : cmpK (x :: A) (y :: B) = 1 := by
  have h1 : y < x := by simpa [UInt8.lt_iff_toNat_lt] using h
  have h2 : ¬ x < y := by simp [UInt8.lt_iff_toNat_lt]; omega
  unfold cmpK; rw [Lib.compareBytes]; simp [h1, h2]

theorem ex_drew3 {w : World} {k m n : Nat} : ∃ q, ((w.drewN k).drewN m).drewN n = w.drewN q := ⟨k + (m + n), by rw [World.drewN_drewN, World.drewN_drewN]⟩
theorem ex_drew {w : World} {k m : Nat} : ∃ n, (w.drewN k).drewN m = w.drewN n := ⟨k + m, World.drewN_drewN _ _ _⟩
/-- How far two keys agree. -/
theorem agree_split {a b : Key} {i : Nat} (h : a.take i = b.take i) (ha : i < a.length) (hb : i < b.length) : ∃ P x A y B, a = P ++ x :: A ∧ b = P ++ y :: B ∧ P.length = i ∧ a[i]? = some x ∧ b[i]? = some y :=
  ⟨a.take i, a[i], a.drop (i + 1), b[i], b.drop (i + 1), by rw [List.getElem_cons_drop, List.take_append_drop], by rw [h, List.getElem_cons_drop, List.take_append_drop], by simp; omega, by simp [ha], by simp [hb]⟩

set_option maxHeartbeats 4000000 in
set_option maxRecDepth 100000 in
theorem zzCmp_any {w : World} {u v : Value} {a b : Key} (hu : Bs w u a) (hv : Bs w v b) (ha : a.length ≤ 2097152) (hb : b.length ≤ 2097152) :
    Calls Try.prog 16 #[u, v] w fun e w' => e = .returned (.int .i64 (cmpK a b)) ∧ ∃ n, w' = w.drewN n := by
  obtain ⟨ua, uc, rfl, hu1, hu2⟩ := hu
  obtain ⟨va, vc, rfl, hv1, hv2⟩ := hv
  obtain ⟨la, hla⟩ : ∃ la, la = a.length := ⟨_, rfl⟩
  obtain ⟨lb, hlb⟩ : ∃ lb, lb = b.length := ⟨_, rfl⟩
  rw [← hla] at ha ⊢
  rw [← hlb] at hb ⊢
  have haI : (la : Int) ≤ 2097152 := by omega
  have hbI : (lb : Int) ≤ 2097152 := by omega
  have HU : Hid ((a ≠ [] → ∃ b o, ua = some ⟨b, o, none⟩ ∧ ∀ j x, a[j]? = some x → w.cell? ⟨b, o + j, none⟩ = some (.int .u8 x.toNat)) ∧ (b ≠ [] → ∃ b' o, va = some ⟨b', o, none⟩ ∧ ∀ j x, b[j]? = some x → w.cell? ⟨b', o + j, none⟩ = some (.int .u8 x.toNat)) ∧ la = a.length ∧ lb = b.length) := ⟨hu2, hv2, hla, hlb⟩
  clear hu1 hu2 hv1 hv2 hla hlb ha hb
  -- the loop, whatever the shorter length is called
  have fin : ∀ (n : Nat), n ≤ la → n ≤ lb → (n = la ∨ n = lb) → n = min la lb := fun n h1 h2 h3 => by omega
  by_cases hlt : lb < la
  · have hltI : (lb : Int) < (la : Int) := by omega
    go_enter Try.func16, Try.ntmps16
    go_wp2
    go_loopw [6] (fun q wr => (∃ i : Nat, i ≤ lb ∧ a.take i = b.take i ∧ q = .int .i64 (i : Int)) ∧ ∃ k, wr = w.drewN k) (fun q _ => lb - (intOf q).toNat)
    case atStart => exact ⟨⟨0, Nat.zero_le _, rfl, rfl⟩, 0, rfl⟩
    case round =>
      obtain ⟨⟨i, hi, htake, rfl⟩, k, rfl⟩ := hrel
      by_cases hil : i < lb
      · have hilI : (i : Int) < (lb : Int) := by omega
        have hilI2 : (i : Int) < (la : Int) := by omega
        obtain ⟨P, x, A, y, B, h1, h2, h3, h4, h5⟩ := agree_split htake (by have := HU.out.2.2; omega) (by have := HU.out.2.2; omega)
        obtain ⟨b1, o1, hua, hc1⟩ := HU.out.1 (by intro e; rw [e] at h4; simp at h4)
        obtain ⟨b2, o2, hva, hc2⟩ := HU.out.2.1 (by intro e; rw [e] at h5; simp at h5)
        subst hua hva
        have g1 := hc1 i x h4
        have g2 := hc2 i y h5
        have HP : Hid (a = P ++ x :: A ∧ b = P ++ y :: B ∧ P.length = i) := ⟨h1, h2, h3⟩
        have HT : Hid (a.take i = b.take i ∧ (a[i]? = some x ∧ b[i]? = some y)) := ⟨htake, h4, h5⟩
        clear h1 h2 h3 h4 h5 hc1 hc2 htake HU
        by_cases hxy : x.toNat < y.toNat
        · have hxyI : (x.toNat : Int) < (y.toNat : Int) := by omega
          go_wp2
          go_quiet (fail)
          go_wp2
          go_ret
          refine ⟨?_, by first | exact ⟨_, rfl⟩ | exact ex_drew | exact ex_drew3⟩
          rw [HP.out.1, HP.out.2.1, cmpK_app, cmpK_lt_head _ _ hxy]; rfl
        · have hxyI : ¬ (x.toNat : Int) < (y.toNat : Int) := by omega
          by_cases hyx : y.toNat < x.toNat
          · have hyxI : (y.toNat : Int) < (x.toNat : Int) := by omega
            go_wp2
            go_quiet (fail)
            go_wp2
            go_quiet (fail)
            go_wp2
            go_ret
            refine ⟨?_, by first | exact ⟨_, rfl⟩ | exact ex_drew | exact ex_drew3⟩
            rw [HP.out.1, HP.out.2.1, cmpK_app, cmpK_gt_head _ _ hyx]; rfl
          · have hyxI : ¬ (y.toNat : Int) < (x.toNat : Int) := by omega
            have hxye : x = y := UInt8.toNat_inj.1 (by omega)
            have HXY : Hid (x = y) := hxye
            clear hxye
            go_wp2
            go_quiet (fail)
            go_wp2
            go_quiet (fail)
            go_wp2
            go_roundw
            case rel =>
              refine ⟨⟨i + 1, by omega, ?_, by go_num⟩, by first | exact ⟨_, rfl⟩ | exact ex_drew | exact ex_drew3⟩
              rw [List.take_add_one, List.take_add_one, HT.out.1, HT.out.2.1, HT.out.2.2, HXY.out]
            case measure => simp [intOf]; omega
      · have hie : i = lb := by omega
        have hnn : ¬ (la : Int) < (lb : Int) := by omega
        have HT : Hid (a.take i = b.take i ∧ i = lb ∧ la = a.length ∧ lb = b.length ∧ lb < la) := ⟨htake, hie, HU.out.2.2.1, HU.out.2.2.2, hlt⟩
        clear htake HU hie
        go_wp2
        go_ret
        refine ⟨?_, _, rfl⟩
        obtain ⟨g1, g2, g3, g4, g5⟩ := HT.out
        have e : b.take i = b := List.take_of_length_le (by omega)
        have e2 : a = b ++ a.drop i := by rw [← e, ← g1]; exact (List.take_append_drop i a).symm
        obtain ⟨x, A, hxA⟩ : ∃ x A, a.drop i = x :: A := by
          cases hd : a.drop i with
          | nil => have := congrArg List.length hd; simp at this; omega
          | cons x A => exact ⟨x, A, rfl⟩
        have : cmpK a b = 1 := by
          have h5 := cmpK_app (x :: A) [] b
          rw [← hxA, ← e2, List.append_nil] at h5
          rw [h5, hxA]
          rfl
        rw [this]; rfl
  · have hltI : ¬ (lb : Int) < (la : Int) := by omega
    go_enter Try.func16, Try.ntmps16
    go_wp2
    go_loopw [6] (fun q wr => (∃ i : Nat, i ≤ la ∧ a.take i = b.take i ∧ q = .int .i64 (i : Int)) ∧ ∃ k, wr = w.drewN k) (fun q _ => la - (intOf q).toNat)
    case atStart => exact ⟨⟨0, Nat.zero_le _, rfl, rfl⟩, 0, rfl⟩
    case round =>
      obtain ⟨⟨i, hi, htake, rfl⟩, k, rfl⟩ := hrel
      by_cases hil : i < la
      · have hilI : (i : Int) < (la : Int) := by omega
        have hilI2 : (i : Int) < (lb : Int) := by omega
        obtain ⟨P, x, A, y, B, h1, h2, h3, h4, h5⟩ := agree_split htake (by have := HU.out.2.2; omega) (by have := HU.out.2.2; omega)
        obtain ⟨b1, o1, hua, hc1⟩ := HU.out.1 (by intro e; rw [e] at h4; simp at h4)
        obtain ⟨b2, o2, hva, hc2⟩ := HU.out.2.1 (by intro e; rw [e] at h5; simp at h5)
        subst hua hva
        have g1 := hc1 i x h4
        have g2 := hc2 i y h5
        have HP : Hid (a = P ++ x :: A ∧ b = P ++ y :: B ∧ P.length = i) := ⟨h1, h2, h3⟩
        have HT : Hid (a.take i = b.take i ∧ (a[i]? = some x ∧ b[i]? = some y)) := ⟨htake, h4, h5⟩
        clear h1 h2 h3 h4 h5 hc1 hc2 htake HU
        by_cases hxy : x.toNat < y.toNat
        · have hxyI : (x.toNat : Int) < (y.toNat : Int) := by omega
          go_wp2
          go_quiet (fail)
          go_wp2
          go_ret
          refine ⟨?_, by first | exact ⟨_, rfl⟩ | exact ex_drew | exact ex_drew3⟩
          rw [HP.out.1, HP.out.2.1, cmpK_app, cmpK_lt_head _ _ hxy]; rfl
        · have hxyI : ¬ (x.toNat : Int) < (y.toNat : Int) := by omega
          by_cases hyx : y.toNat < x.toNat
          · have hyxI : (y.toNat : Int) < (x.toNat : Int) := by omega
            go_wp2
            go_quiet (fail)
            go_wp2
            go_quiet (fail)
            go_wp2
            go_ret
            refine ⟨?_, by first | exact ⟨_, rfl⟩ | exact ex_drew | exact ex_drew3⟩
            rw [HP.out.1, HP.out.2.1, cmpK_app, cmpK_gt_head _ _ hyx]; rfl
          · have hyxI : ¬ (y.toNat : Int) < (x.toNat : Int) := by omega
            have hxye : x = y := UInt8.toNat_inj.1 (by omega)
            have HXY : Hid (x = y) := hxye
            clear hxye
            go_wp2
            go_quiet (fail)
            go_wp2
            go_quiet (fail)
            go_wp2
            go_roundw
            case rel =>
              refine ⟨⟨i + 1, by omega, ?_, by go_num⟩, by first | exact ⟨_, rfl⟩ | exact ex_drew | exact ex_drew3⟩
              rw [List.take_add_one, List.take_add_one, HT.out.1, HT.out.2.1, HT.out.2.2, HXY.out]
            case measure => simp [intOf]; omega
      · have hie : i = la := by omega
        have HT : Hid (a.take i = b.take i ∧ i = la ∧ la = a.length ∧ lb = b.length) := ⟨htake, hie, HU.out.2.2.1, HU.out.2.2.2⟩
        clear htake HU hie
        by_cases hll : la < lb
        · have hllI : (la : Int) < (lb : Int) := by omega
          go_wp2
          go_ret
          refine ⟨?_, _, rfl⟩
          obtain ⟨g1, g2, g3, g4⟩ := HT.out
          have e : a.take i = a := List.take_of_length_le (by omega)
          have e2 : b = a ++ b.drop i := by rw [← e, g1]; exact (List.take_append_drop i b).symm
          obtain ⟨x, B, hxB⟩ : ∃ x B, b.drop i = x :: B := by
            cases hd : b.drop i with
            | nil => have := congrArg List.length hd; simp at this; omega
            | cons x B => exact ⟨x, B, rfl⟩
          have : cmpK a b = -1 := by
            have h5 := cmpK_app [] (x :: B) a
            rw [← hxB, ← e2, List.append_nil] at h5
            rw [h5, hxB]
            rfl
          rw [this]; rfl
        · have hllI : ¬ (la : Int) < (lb : Int) := by omega
          go_wp2
          go_ret
          refine ⟨?_, _, rfl⟩
          obtain ⟨g1, g2, g3, g4⟩ := HT.out
          have e : a.take i = a := List.take_of_length_le (by omega)
          have e2 : b.take i = b := List.take_of_length_le (by omega)
          have : a = b := by rw [← e, g1, e2]
          rw [this, cmpK_zero.2 rfl]; rfl
end Go.Proofs.Qxb6615764a
