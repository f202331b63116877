/-
  The walks of the two laws' bounds on total length (5, 12): they answer some bool.
-/
import Derived.Test.Qxb6608884aDoorNew
namespace Go.Proofs.Qxb6608884aDoor
open Go.RowKit
set_option linter.unusedVariables false
/-- It returns a bool. -/
def SomeBool (e : Ending) : Prop := ∃ r : Bool, e = .returned (.bool r)

set_option maxRecDepth 100000 in
set_option maxHeartbeats 1000000 in
theorem bytes5_any (t : Nat → Int) (k : Int) (a b : Option Addr) (n c m d : Nat) (w : World) :
    Calls Tryd.prog 5 #[.agg (idA t), .int .i64 k, .slice a n c, .slice b m d] w fun e w' => SomeBool e ∧ Below w.heap.size w w' := by
  by_cases h1 : 1048576 < (n : Int)
  · go_enter Tryd.func5, Tryd.ntmps5
    go_wp2
    go_ret
    exact ⟨⟨_, rfl⟩, (Below.refl _ _).alloc (Nat.le_refl _) _⟩
  have h1' : (n : Int) ≤ 1048576 := by omega
  clear h1
  go_enter Tryd.func5, Tryd.ntmps5
  go_wp2
  go_loop [9, 10] (fun z i => ∃ (x : Nat) (y : Int), x ≤ n ∧ 0 ≤ y ∧ y ≤ 1048576 ∧ z = .int .i64 y ∧ i = .int .i64 (x : Int)) (fun _ i => n - (intOf i).toNat)
  case atStart => exact ⟨0, n, Nat.zero_le _, by omega, by omega, rfl, rfl⟩
  case round =>
    obtain ⟨x, y, hx, hy0, hy, rfl, rfl⟩ := hrel
    by_cases hlt : x < n
    · by_cases hy2 : y + 16 ≤ 1048576
      · go_wp2
        go_round
        case rel => exact ⟨x + 1, y + 16, by omega, by omega, by omega, by go_num, by go_num⟩
        case measure => simp [intOf]; omega
      · have hy3 : 1048576 < y + 16 := by omega
        clear hy2
        go_wp2
        go_ret
        exact ⟨⟨_, rfl⟩, (Below.refl _ _).alloc (Nat.le_refl _) _⟩
    · by_cases h2 : 1048576 < (m : Int)
      · go_wp2
        go_ret
        exact ⟨⟨_, rfl⟩, (Below.refl _ _).alloc (Nat.le_refl _) _⟩
      have h2' : (m : Int) ≤ 1048576 := by omega
      by_cases h3 : 1048576 < y + (m : Int)
      · go_wp2
        go_ret
        exact ⟨⟨_, rfl⟩, (Below.refl _ _).alloc (Nat.le_refl _) _⟩
      have h3' : y + (m : Int) ≤ 1048576 := by omega
      clear h2 h3
      go_wp2
      go_loop [9, 11] (fun z i => ∃ (p : Nat) (q : Int), p ≤ m ∧ 0 ≤ q ∧ q ≤ 1048576 ∧ z = .int .i64 q ∧ i = .int .i64 (p : Int)) (fun _ i => m - (intOf i).toNat)
      case atStart => exact ⟨0, y + m, Nat.zero_le _, by omega, by omega, by go_num, rfl⟩
      case round =>
        obtain ⟨p, q, hp, hq0, hq, rfl, rfl⟩ := hrel
        by_cases hlt2 : p < m
        · by_cases hq2 : q + 16 ≤ 1048576
          · go_wp2
            go_round
            case rel => exact ⟨p + 1, q + 16, by omega, by omega, by omega, by go_num, by go_num⟩
            case measure => simp [intOf]; omega
          · have hq3 : 1048576 < q + 16 := by omega
            clear hq2
            go_wp2
            go_ret
            exact ⟨⟨_, rfl⟩, (Below.refl _ _).alloc (Nat.le_refl _) _⟩
        · go_wp2
          go_ret
          exact ⟨⟨_, rfl⟩, (Below.refl _ _).alloc (Nat.le_refl _) _⟩

set_option maxRecDepth 100000 in
set_option maxHeartbeats 1000000 in
theorem bytes12_any (t : Nat → Int) (k : Int) (a b : Option Addr) (n c m d : Nat) (w : World) :
    Calls Tryd.prog 12 #[.agg (idA t), .int .i64 k, .slice a n c, .slice b m d] w fun e w' => SomeBool e ∧ Below w.heap.size w w' := by
  by_cases h1 : 1048576 < (n : Int)
  · go_enter Tryd.func12, Tryd.ntmps12
    go_wp2
    go_ret
    exact ⟨⟨_, rfl⟩, (Below.refl _ _).alloc (Nat.le_refl _) _⟩
  have h1' : (n : Int) ≤ 1048576 := by omega
  clear h1
  go_enter Tryd.func12, Tryd.ntmps12
  go_wp2
  go_loop [9, 10] (fun z i => ∃ (x : Nat) (y : Int), x ≤ n ∧ 0 ≤ y ∧ y ≤ 1048576 ∧ z = .int .i64 y ∧ i = .int .i64 (x : Int)) (fun _ i => n - (intOf i).toNat)
  case atStart => exact ⟨0, n, Nat.zero_le _, by omega, by omega, rfl, rfl⟩
  case round =>
    obtain ⟨x, y, hx, hy0, hy, rfl, rfl⟩ := hrel
    by_cases hlt : x < n
    · by_cases hy2 : y + 16 ≤ 1048576
      · go_wp2
        go_round
        case rel => exact ⟨x + 1, y + 16, by omega, by omega, by omega, by go_num, by go_num⟩
        case measure => simp [intOf]; omega
      · have hy3 : 1048576 < y + 16 := by omega
        clear hy2
        go_wp2
        go_ret
        exact ⟨⟨_, rfl⟩, (Below.refl _ _).alloc (Nat.le_refl _) _⟩
    · by_cases h2 : 1048576 < (m : Int)
      · go_wp2
        go_ret
        exact ⟨⟨_, rfl⟩, (Below.refl _ _).alloc (Nat.le_refl _) _⟩
      have h2' : (m : Int) ≤ 1048576 := by omega
      by_cases h3 : 1048576 < y + (m : Int)
      · go_wp2
        go_ret
        exact ⟨⟨_, rfl⟩, (Below.refl _ _).alloc (Nat.le_refl _) _⟩
      have h3' : y + (m : Int) ≤ 1048576 := by omega
      clear h2 h3
      go_wp2
      go_loop [9, 11] (fun z i => ∃ (p : Nat) (q : Int), p ≤ m ∧ 0 ≤ q ∧ q ≤ 1048576 ∧ z = .int .i64 q ∧ i = .int .i64 (p : Int)) (fun _ i => m - (intOf i).toNat)
      case atStart => exact ⟨0, y + m, Nat.zero_le _, by omega, by omega, by go_num, rfl⟩
      case round =>
        obtain ⟨p, q, hp, hq0, hq, rfl, rfl⟩ := hrel
        by_cases hlt2 : p < m
        · by_cases hq2 : q + 16 ≤ 1048576
          · go_wp2
            go_round
            case rel => exact ⟨p + 1, q + 16, by omega, by omega, by omega, by go_num, by go_num⟩
            case measure => simp [intOf]; omega
          · have hq3 : 1048576 < q + 16 := by omega
            clear hq2
            go_wp2
            go_ret
            exact ⟨⟨_, rfl⟩, (Below.refl _ _).alloc (Nat.le_refl _) _⟩
        · go_wp2
          go_ret
          exact ⟨⟨_, rfl⟩, (Below.refl _ _).alloc (Nat.le_refl _) _⟩
end Go.Proofs.Qxb6608884aDoor
