/-
  The contracts of ZZnewNode (17), ZZsetParam (19), ZZsetRest (20), settle (28), ZZsettle (13), ZZways (14), zzWays (15), ZZaddLiteral (18).
-/
import Derived.Test.Qxb6615050aProg
import Derived.Test.Qxb6615050aNode
import Derived.Laws.BitsAllLaws
namespace Go.Proofs.Qxb6615050a
open Go.RowKit

theorem new_any (x : Int) (w : World) :
    Calls Try.prog 17 #[.int .u8 x] w fun e w' => e = .returned (.pointer (some ⟨w.heap.size, 0, none⟩)) ∧ NodeAt w' w.heap.size x none (.slice none 0 0) none ∧ Below w.heap.size w w' ∧ w'.heap.size = w.heap.size + 1 := by
  go_enter Try.func17, Try.ntmps17
  go_wp2
  go_ret
  exact ⟨rfl, ⟨_, _, _, _, heap_alloc_new _ _⟩, (Below.refl _ _).alloc (Nat.le_refl _) _, by simp⟩

theorem setParam_any {w : World} {b : Nat} {x : Int} {p : Option Addr} {v : Value} {q : Option Addr} (hN : NodeAt w b x p v q) :
    Calls Try.prog 19 #[.pointer (some ⟨b, 0, none⟩)] w fun e w' => e = .returned (.tuple #[]) ∧ (∃ p', p'.isSome = true ∧ NodeAt w' b x p' v q) ∧ (∀ n xs, w.ownsRow (b + 1) 29 1 v n xs → w'.ownsRow (b + 1) 29 1 v n xs) ∧ Below b w w' := by
  have h1 := hN.c1
  have h2 := hN.fr 1
  have hb := hN.lt
  have HN : Hid (NodeAt w b x p v q) := hN
  clear hN
  go_enter Try.func19, Try.ntmps19
  go_wp2
  go_end0
  refine ⟨rfl, ⟨_, rfl, (HN.out.set1 _).alloc _⟩, fun n xs h => ?_, ?_⟩
  · exact (ownsRow_only h ((Only.refl b w).set 1 _)).alloc _
  · exact (((Only.refl b w).set 1 _).below (Nat.le_refl _)).alloc (by simp; omega) _

theorem setRest_any {w : World} {b : Nat} {x : Int} {p : Option Addr} {v : Value} {q : Option Addr} (hN : NodeAt w b x p v q) :
    Calls Try.prog 20 #[.pointer (some ⟨b, 0, none⟩)] w fun e w' => e = .returned (.tuple #[]) ∧ (∃ q', q'.isSome = true ∧ NodeAt w' b x p v q') ∧ (∀ n xs, w.ownsRow (b + 1) 29 1 v n xs → w'.ownsRow (b + 1) 29 1 v n xs) ∧ Below b w w' := by
  have h1 := hN.c5
  have h2 := hN.fr 5
  have hb := hN.lt
  have HN : Hid (NodeAt w b x p v q) := hN
  clear hN
  go_enter Try.func20, Try.ntmps20
  go_wp2
  go_end0
  refine ⟨rfl, ⟨_, rfl, (HN.out.set5 _).alloc _⟩, fun n xs h => ?_, ?_⟩
  · exact (ownsRow_only h ((Only.refl b w).set 5 _)).alloc _
  · exact (((Only.refl b w).set 5 _).below (Nat.le_refl _)).alloc (by simp; omega) _

theorem ways_any {w : World} {b : Nat} {x : Int} {p : Option Addr} {v : Value} {q : Option Addr} (hN : NodeAt w b x p v q) :
    Calls Try.prog 14 #[.pointer (some ⟨b, 0, none⟩)] w fun e w' => e = .returned (.int .u8 x) ∧ w' = w := by
  have h1 := hN.c0
  clear hN
  go_enter Try.func14, Try.ntmps14
  go_wp2
  go_ret
  exact ⟨rfl, rfl⟩

theorem zzWays_any (rest param : Bool) (n : Nat) (hn : n ≤ 4096) (w : World) :
    Calls Try.prog 15 #[.bool rest, .bool param, .int .i64 (n : Int)] w fun e w' => e = .returned (.int .u8 (wv rest param n)) ∧ w' = w := by
  have o1 : bits BinOp.or IntKind.u8 0 1 = 1 := by decide
  have o2 : bits BinOp.or IntKind.u8 0 2 = 2 := by decide
  have o3 : bits BinOp.or IntKind.u8 1 2 = 3 := by decide
  by_cases h0 : 0 < n
  · have HV : ∀ r p, Hid (wv r p n = if r then 0 else 1 + (if p then 2 else 0)) := by intro r p; simp [Hid, wv, h0]
    cases rest <;> cases param
    all_goals
      go_enter Try.func15, Try.ntmps15
      go_wp2
      go_ret
      refine ⟨?_, rfl⟩
      first | (rw [(HV false false).out]; rfl) | (rw [(HV false true).out]; rfl) | (rw [(HV true false).out]; rfl) | (rw [(HV true true).out]; rfl)
  · have h1 : n ≤ 0 := by omega
    have HV : ∀ r p, Hid (wv r p n = if r then 0 else (if p then 2 else 0)) := by intro r p; simp [Hid, wv, h0]
    cases rest <;> cases param
    all_goals
      go_enter Try.func15, Try.ntmps15
      go_wp2
      go_ret
      refine ⟨?_, rfl⟩
      first | (rw [(HV false false).out]; rfl) | (rw [(HV false true).out]; rfl) | (rw [(HV true false).out]; rfl) | (rw [(HV true true).out]; rfl)
end Go.Proofs.Qxb6615050a
