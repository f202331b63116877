/-
  From the row's reading of a []Stretch to what the walks ask.
-/
import Derived.Test.Qxb6615764aArgs
import Derived.ProofKit
import Derived.OpenShut
import Derived.Deep.SlicePairs
namespace Go.Proofs.Qxb6615764a
open Go.ChangeShapes Go.WideShapes Go.RowKit Go.Deep
set_option linter.unusedVariables false
theorem Try.cells30 : Try.prog.cellsOf 30 = 2 := by kernel_rfl
theorem Try.cells28 : Try.prog.cellsOf 28 = 1 := by kernel_rfl
theorem Try.cells5 : Try.prog.cellsOf 5 = 1 := by kernel_rfl

section
variable {H : Type} {enc : TypeId × Value → H} {w : World} {held : Bool}

def toKey (zs : List Int) : Key := zs.map (fun z => UInt8.ofNat z.toNat)
theorem key_byte {z : Int} (h : (Lit.int .u8 z).wf = true) : ((UInt8.ofNat z.toNat).toNat : Int) = z := by
  have h' : (decide (IntKind.u8.min ≤ z) && decide (z ≤ IntKind.u8.max)) = true := h
  rw [Bool.and_eq_true, decide_eq_true_eq, decide_eq_true_eq] at h'
  have e1 : IntKind.u8.min = 0 := by decide
  have e2 : IntKind.u8.max = 255 := by decide
  rw [e1, e2] at h'
  rw [UInt8.toNat_ofNat']
  omega

/-- A []byte. -/
theorem open_bytes {fuel : Nat} {v : Value} {x : DataW H × List MemPlace} (h : DataW.trod enc Try.prog w 0 (fun _ => true) held fuel 28 [v] = some x) : v = .slice none 0 0 ∨ ∃ k ad n c, v = .slice (some ad) n c ∧ Bs w v k := by
  rcases open_ints Try.underlying28 Try.underlying5 Try.cells5 h with ⟨hcs, _⟩ | ⟨a, len, cap, zs, hcs, _, hl, hm, hz, _, hcell, hwf⟩
  · left; simpa using hcs
  · right
    obtain rfl : v = .slice (some a) len cap := by simpa using hcs
    simp only [if_true] at hz
    refine ⟨toKey (zs.take len), a, len, cap, rfl, some a, cap, ?_, (fun e => nomatch e), fun hne => ?_⟩
    · have : (toKey (zs.take len)).length = len := by simp [toKey]; omega
      rw [this]
    · have hp : 0 < zs.length := by
        rcases Nat.eq_zero_or_pos zs.length with h0 | h0
        · exact absurd (by rw [List.length_eq_zero_iff.1 h0]; simp [toKey]) hne
        · exact h0
      obtain ⟨b, off, rfl, hc⟩ := ints_at hcell hp
      refine ⟨b, off, rfl, fun j y hy => ?_⟩
      unfold toKey at hy
      rw [List.getElem?_map] at hy
      cases hq : (zs.take len)[j]? with
      | none => rw [hq] at hy; cases hy
      | some z =>
        rw [hq] at hy
        injection hy with hy
        have hjl : j < zs.length := by
          have := (List.getElem?_eq_some_iff.1 hq).1
          simp at this; omega
        have hz2 : zs[j]? = some z := by
          rw [List.getElem?_take] at hq
          split at hq
          · exact hq
          · cases hq
        have hg : zs.getD j 0 = z := by simp [List.getD, hz2]
        rw [hc j hjl, hg, ← hy, key_byte (hwf z (List.mem_of_getElem? hz2))]

/-- A []Stretch. -/
theorem open_sts {a : Option Addr} {n c : Nat} {d : DataW H} {p : List MemPlace} (h : DataW.Trod enc Try.prog w 0 (fun _ => true) held 22 (.slice a n c) d p) : ∃ L, Sts w (.slice a n c) L := by
  obtain ⟨fuel, hf⟩ := h
  rcases open_slice_pairs Try.underlying22 Try.underlying30 Try.cells30 rfl rfl Try.cells28 Try.cells28 hf with ⟨hcs, _⟩ | ⟨ad, len, cap, m, q, V0, V1, D0, D1, P0, P1, hcs, _, hlc, hcm, hm, _, hel⟩
  · simp [Value.cells] at hcs
    obtain ⟨rfl, rfl, rfl⟩ := hcs
    exact ⟨[], none, 0, rfl, fun _ => ⟨rfl, rfl⟩, fun h => absurd rfl h⟩
  · simp [Value.cells] at hcs
    obtain ⟨rfl, rfl, rfl⟩ := hcs
    simp only [if_true] at hm
    subst hm
    have key : ∀ i, i < n → ∃ r : Iv, Bs w (V0 i) r.1 ∧ Bnd w (V1 i) r.2 := by
      intro i hi
      obtain ⟨_, _, h0, h1⟩ := hel i (by omega)
      have k0 : ∃ k, Bs w (V0 i) k := by
        rcases open_bytes h0 with e | ⟨k, _, _, _, _, hb⟩
        · exact ⟨[], none, 0, e, fun _ => rfl, fun h => absurd rfl h⟩
        · exact ⟨k, hb⟩
      have k1 : ∃ u, Bnd w (V1 i) u := by
        rcases open_bytes h1 with e | ⟨k, ad', n', c', e, hb⟩
        · exact ⟨none, e⟩
        · exact ⟨some k, hb, ad', n', c', e⟩
      obtain ⟨k, hk⟩ := k0
      obtain ⟨u, hu⟩ := k1
      exact ⟨(k, u), hk, hu⟩
    obtain ⟨f, hfk⟩ := choose_lt (α := Iv) key
    refine ⟨(List.range n).map f, some ad, m, by simp, (fun e => nomatch e), fun hne => ?_⟩
    have hn0 : 0 < n := by
      rcases Nat.eq_zero_or_pos n with h0 | h0
      · subst h0; exact absurd rfl hne
      · exact h0
    obtain ⟨b, off, spot⟩ := ad
    have hsp : spot = none := by
      have := (hel 0 (by omega)).1
      simpa [Addr.add] using World.cell?_spot this
    subst hsp
    refine ⟨b, off, rfl, fun j r hr => ?_⟩
    rw [List.getElem?_map] at hr
    cases hq : (List.range n)[j]? with
    | none => rw [hq] at hr; cases hr
    | some j' =>
      rw [hq] at hr
      injection hr with hr
      obtain ⟨hjl, hjj⟩ := List.getElem?_eq_some_iff.1 hq
      simp at hjl hjj
      subst hjj
      subst hr
      obtain ⟨c0, c1, _, _⟩ := hel j (by omega)
      rw [Addr.add_lit] at c0 c1
      exact ⟨V0 j, V1 j, c0, by rw [Nat.add_assoc]; exact c1, hfk j hjl⟩
end
end Go.Proofs.Qxb6615764a
