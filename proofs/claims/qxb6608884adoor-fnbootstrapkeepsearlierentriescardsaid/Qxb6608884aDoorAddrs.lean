/-
  The walk of addrsOf (6).
-/
import Derived.Test.Qxb6608884aDoorAddr3
import Derived.Deep.MidRow
namespace Go.Proofs.Qxb6608884aDoor
open Go.RowKit
set_option linter.unusedVariables false
theorem Tryd.info42 : (Tryd.prog.info? 42).map (fun i => (i.zero, i.size, i.bytes)) = some (some (.agg #[.int .u64 0, .int .u64 0, .pointer none, .int .u16 0]), 4, 32) := by kernel_rfl
theorem Tryd.size46 : (Tryd.prog.info? 46).map (·.size) = some 18 := by kernel_rfl

/-- What addrsOf makes of the first k addresses: their cells. -/
def aps (z6 z4 : Option Addr) (D : Nat → AddrD) (k : Nat) : List Value := (List.range k).flatMap fun i => ((D i).ap z6 z4).toList
theorem aps_succ (z6 z4 : Option Addr) (D : Nat → AddrD) (k : Nat) : aps z6 z4 D (k + 1) = aps z6 z4 D k ++ [.int .u64 (D k).hi, .int .u64 (D k).lo, .pointer ((D k).z z6 z4), .int .u16 (D k).port] := by
  simp [aps, List.range_succ, List.flatMap_append, AddrD.ap]

theorem addrOf_flat (d : AddrD) (z6 z4 : Option Addr) (w : World) (hz6 : w.cell? ⟨0, 0, none⟩ = some (.pointer z6)) (hz4 : w.cell? ⟨1, 0, none⟩ = some (.pointer z4)) (hs : 1 < w.heap.size) :
    Calls Tryd.prog 10 #[.agg d.cells] w fun e w' => e = .returned (.agg #[.int .u64 d.hi, .int .u64 d.lo, .pointer (d.z z6 z4), .int .u16 d.port]) ∧ Below w.heap.size w w' := addrOf_any d z6 z4 w hz6 hz4 hs

/-- The addresses that came in. -/
def InRow (w : World) (b off n : Nat) (D : Nat → AddrD) : Prop := b < w.heap.size ∧ ∀ i, i < n → w.rangeAt b (off + i * 18) (D i).cells.toList

theorem rangeAt_below {w w' : World} {B b o : Nat} {cs : List Value} (h : w.rangeAt b o cs) (k : Below B w w') (hb : b < B) : w'.rangeAt b o cs := fun j v hv => (k.cell (p := ⟨b, o + j, none⟩) hb).trans (h j v hv)
theorem InRow.below {w w' : World} {B b off n : Nat} {D : Nat → AddrD} (h : InRow w b off n D) (k : Below B w w') (hb : b < B) : InRow w' b off n D :=
  ⟨Nat.lt_of_lt_of_le h.1 k.size, fun i hi => rangeAt_below (h.2 i hi) k hb⟩

theorem ownsRow_below {w w' : World} {base : Nat} {e : TypeId} {size : Nat} {v : Value} {n : Nat} {xs : List Value} (h : w.ownsRow base e size v n xs) (k : Below w.heap.size w w') : w'.ownsRow base e size v n xs :=
  h.kept (row := none) ⟨k.os, k.tape, k.output, k.size, fun q hq _ => k.block q hq⟩ (by cases v <;> simp [Value.ownBlock]; split <;> simp)

theorem four_new (w1 : World) (a b c d : Value) (t : TypeId) : ∀ j u, [a, b, c, d][j]? = some u → (w1.alloc (.cells #[a, b, c, d] t)).cell? ((⟨w1.heap.size, 0, none⟩ : Addr).add j) = some u := by
  intro j u hj
  rw [Addr.add_mid, Nat.zero_add, World.cell?_alloc_at _ _ _ _ rfl]
  rw [← hj]
  simp
theorem four_one (h l : Int) (z : Option Addr) (p : Int) : ∀ u ∈ [Value.int .u64 h, .int .u64 l, .pointer z, .int .u16 p], u.oneCell' = true := by
  intro u hu; simp at hu; rcases hu with rfl | rfl | rfl | rfl <;> rfl

set_option maxHeartbeats 400000 in
theorem addrs_one (b off n c : Nat) (D : Nat → AddrD) (z6 z4 : Option Addr) (w : World) (hn : n ≤ 4096) (hR : InRow w b off n D)
    (hz6 : w.cell? ⟨0, 0, none⟩ = some (.pointer z6)) (hz4 : w.cell? ⟨1, 0, none⟩ = some (.pointer z4)) (hs : 1 < w.heap.size) :
    Calls Tryd.prog 6 #[.slice (some ⟨b, off, none⟩) n c] w fun e w' => (∃ v, e = .returned v ∧ w'.ownsRow w.heap.size 42 4 v n (aps z6 z4 D n)) ∧ Below w.heap.size w w' := by
  obtain ⟨i0, hi, hz0, hz1, hz2⟩ := info_parts Tryd.info42
  have HI : Hid (Tryd.prog.info? 42 = some i0 ∧ i0.zero = some (.agg #[.int .u64 0, .int .u64 0, .pointer none, .int .u16 0]) ∧ i0.size = 4 ∧ i0.bytes = 32) := ⟨hi, hz0, hz1, hz2⟩
  clear hi hz0 hz1 hz2
  obtain ⟨B, hB⟩ : ∃ B, w.heap.size = B := ⟨_, rfl⟩
  have HB : Hid (w.heap.size = B) := hB
  have hb : b < B := by rw [← hB]; exact hR.1
  rw [hB] at hs ⊢
  clear hB
  have HR : Hid (InRow w b off n D) := hR
  have HZ : Hid (w.cell? ⟨0, 0, none⟩ = some (.pointer z6) ∧ w.cell? ⟨1, 0, none⟩ = some (.pointer z4)) := ⟨hz6, hz4⟩
  clear hR hz6 hz4
  go_enter Tryd.func6, Tryd.ntmps6
  go_wp2
  go_loopw [3, 4] (fun v i wr => ∃ k : Nat, k ≤ n ∧ i = .int .i64 (k : Int) ∧ wr.ownsRow B 42 4 v k (aps z6 z4 D k) ∧ Below B w wr) (fun _ i _ => n - (intOf i).toNat)
  case atStart => exact ⟨0, Nat.zero_le _, rfl, World.ownsRow_nil _ _ _ _, Below.refl _ _⟩
  case round =>
    obtain ⟨k, hk, rfl, hO, hBel⟩ := hrel
    have HO : Hid (wr.ownsRow B 42 4 u3 k (aps z6 z4 D k)) := hO
    have HBel : Hid (Below B w wr) := hBel
    clear hO hBel
    by_cases hlt : k < n
    · have hBs : B ≤ wr.heap.size := by have := HBel.out.size; rw [HB.out] at this; exact this
      go_wp2_with (refine wpList_load_mid rfl 46 (.tmp 14) rfl b (off + k * 18) rfl (D k).cells.toList _ (rangeAt_below (HR.out.2 k hlt) HBel.out hb) Tryd.underlying46 rfl Tryd.size46 ?_)
      refine (addrOf_flat (D k) z6 z4 wr ((HBel.out.cell (p := ⟨0, 0, none⟩) (by simp <;> omega)).trans HZ.out.1) ((HBel.out.cell (p := ⟨1, 0, none⟩) (by simp <;> omega)).trans HZ.out.2) (by omega)).mono ?_
      rintro e w1 ⟨rfl, hb1⟩
      have HO1 : Hid (w1.ownsRow B 42 4 u3 k (aps z6 z4 D k)) := ownsRow_below HO.out hb1
      have HB1 : Hid (Below B w w1) := HBel.out.trans (hb1.mono hBs)
      have hs1 : B ≤ w1.heap.size := Nat.le_trans hBs hb1.size
      clear hb1 HO HBel
      go_wp2_with (at_builtin; refine wpList_append_own _ rfl (.tmp 11) (.tmp 17) 25 rfl B 42 i0 (.agg #[.int .u64 0, .int .u64 0, .pointer none, .int .u16 0]) 4 32 Tryd.underlying25 HI.out.1 HI.out.2.1 HI.out.2.2.1 HI.out.2.2.2 rfl (by decide) _ _ _ rfl (HO1.out.alloc _) ⟨w1.heap.size, 0, none⟩ 1 1 [.int .u64 (D k).hi, .int .u64 (D k).lo, .pointer ((D k).z z6 z4), .int .u16 (D k).port] rfl rfl ?c1 ?c2 ?c3 ?c4 ?c5 ?_)
      case c1 => exact four_new _ _ _ _ _ _
      case c2 => exact four_one _ _ _ _
      case c3 => unfold maxLen; omega
      case c4 => omega
      case c5 => simp; omega
      intro v' w2 ho2 hg2 _
      have HO2 : Hid (w2.ownsRow B 42 4 v' (k + 1) (aps z6 z4 D (k + 1))) := by rw [aps_succ]; exact ho2
      have HB2 : Hid (Below B w w2) := (HB1.out.alloc hs1 _).grown hg2 (by simp <;> omega) (fun q hq => (HO1.out.lt q hq).1)
      clear ho2 hg2 HO1 HB1
      go_wp2
      go_roundw
      case rel => exact ⟨k + 1, by omega, by go_num, HO2.out, HB2.out⟩
      case measure => simp [intOf]; omega
    · go_wp2
      go_ret
      have hkn : k = n := by omega
      subst hkn
      exact ⟨⟨_, rfl, HO.out⟩, HBel.out⟩

/-- A slice of addresses that came in: nil or empty, or a row. -/
theorem addrs_none (a : Option Addr) (c : Nat) (w : World) :
    Calls Tryd.prog 6 #[.slice a 0 c] w fun e w' => e = .returned (.slice none 0 0) ∧ w' = w := by
  go_enter Tryd.func6, Tryd.ntmps6
  go_wp2
  refine wp_loop_rounds 1 ?_
  rw [rounds_succ]
  go_wp2
  go_ret
  exact ⟨rfl, rfl⟩
end Go.Proofs.Qxb6608884aDoor
