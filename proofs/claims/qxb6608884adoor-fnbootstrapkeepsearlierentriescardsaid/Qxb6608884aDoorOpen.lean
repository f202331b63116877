/-
  From the row's readings to what the walks ask: the target's twenty bytes, the slices of addresses, the two listed variables.
-/
import Derived.Test.Qxb6608884aDoorCtx
import Derived.ProofKit
import Derived.OpenShut
import Derived.Deep.Slices
import Derived.Deep.Strs
namespace Go.Proofs.Qxb6608884aDoor
open Go.ChangeShapes Go.WideShapes Go.RowKit Go.Deep
set_option linter.unusedVariables false
set_option linter.constructorNameAsVariable false
theorem Tryd.cells5 : Tryd.prog.cellsOf 5 = 1 := by kernel_rfl
theorem Tryd.cells22 : Tryd.prog.cellsOf 22 = 20 := by kernel_rfl
theorem Tryd.cells44 : Tryd.prog.cellsOf 44 = 16 := by kernel_rfl
theorem Tryd.cells46 : Tryd.prog.cellsOf 46 = 18 := by kernel_rfl
theorem Tryd.cells4 : Tryd.prog.cellsOf 4 = 1 := by kernel_rfl
theorem Tryd.cells40 : Tryd.prog.cellsOf 40 = 1 := by kernel_rfl

theorem at_of_take {cs : List Value} {i : Nat} {v : Value} (h : (cs.drop i).take 1 = [v]) : cs[i]? = some v := by
  have h1 : ((cs.drop i).take 1)[0]? = some v := by rw [h]; rfl
  simpa using h1

section
variable {H : Type} {enc : TypeId × Value → H} {w : World} {base : Nat} {spare : Nat → Bool} {held : Bool}

/-- Bytes out of an array's reading. -/
theorem bytes_of {t : TypeId} {n fuel : Nat} {cs : List Value} {x : DataW H × List MemPlace} (ht : Tryd.prog.underlying t = some (.array n 5)) (hc : Tryd.prog.cellsOf t = n) (h : DataW.trod enc Tryd.prog w base spare held fuel t cs = some x) :
    cs.length = n ∧ ∃ f : Nat → Int, ∀ i, i < n → cs[i]? = some (.int .u8 (f i)) := by
  obtain ⟨xs, m, _, _, hl, hxl, hel⟩ := DataW.trod_array ht h
  rw [hc] at hl
  have key : ∀ i, i < n → ∃ z : Int, cs[i]? = some (.int .u8 z) := by
    intro i hi
    have he := hel i hi
    rw [Tryd.cells5, Nat.mul_one] at he
    rw [List.getElem?_eq_getElem (by omega)] at he
    obtain ⟨z, hz, _⟩ := DataW.trod_int Tryd.underlying5 he
    exact ⟨z, at_of_take hz⟩
  refine ⟨hl, fun i => if h : i < n then Classical.choose (key i h) else 0, fun i hi => ?_⟩
  simp only [hi, dite_true]
  exact Classical.choose_spec (key i hi)

theorem idA_at (t : Nat → Int) : ∀ i, i < 20 → (idA t).toList[i]? = some (.int .u8 (t i)) := by
  intro i hi
  match i, hi with
  | 0, _ => rfl
  | 1, _ => rfl
  | 2, _ => rfl
  | 3, _ => rfl
  | 4, _ => rfl
  | 5, _ => rfl
  | 6, _ => rfl
  | 7, _ => rfl
  | 8, _ => rfl
  | 9, _ => rfl
  | 10, _ => rfl
  | 11, _ => rfl
  | 12, _ => rfl
  | 13, _ => rfl
  | 14, _ => rfl
  | 15, _ => rfl
  | 16, _ => rfl
  | 17, _ => rfl
  | 18, _ => rfl
  | 19, _ => rfl
  | i + 20, hi => exact absurd hi (by omega)

/-- The target. -/
theorem open_id {r : Reach} {b0 : Nat} {v : Value} {d : DataW H} {p : List MemPlace} (hv : Value.okWide Tryd.prog w r b0 22 v) (h : DataW.Trod enc Tryd.prog w base spare held 22 v d p) : ∃ t, v = .agg (idA t) := by
  simp only [Value.okWide, Tryd.underlying22] at hv
  obtain ⟨cs, rfl, hsz, _⟩ := hv
  obtain ⟨fuel, hf⟩ := h
  obtain ⟨hl, f, hb⟩ := bytes_of Tryd.underlying22 Tryd.cells22 hf
  refine ⟨f, ?_⟩
  congr 1
  have hl' : cs.toList.length = 20 := by simpa [Value.cells] using hl
  have : cs.toList = (idA f).toList := by
    apply List.ext_getElem?
    intro i
    by_cases hi : i < 20
    · have := hb i hi
      simp only [Value.cells] at this
      rw [this, idA_at f i hi]
    · rw [List.getElem?_eq_none (by omega), List.getElem?_eq_none (show (idA f).toList.length ≤ i by show 20 ≤ i; omega)]
  exact Array.toList_inj.1 this

theorem cells_at (d : AddrD) : (∀ i, i < 16 → d.cells.toList[i]? = some (.int .u8 (d.ip i))) ∧ d.cells.toList[16]? = some (.bool d.v6) ∧ d.cells.toList[17]? = some (.int .u16 d.port) := by
  refine ⟨fun i hi => ?_, rfl, rfl⟩
  match i, hi with
  | 0, _ => rfl
  | 1, _ => rfl
  | 2, _ => rfl
  | 3, _ => rfl
  | 4, _ => rfl
  | 5, _ => rfl
  | 6, _ => rfl
  | 7, _ => rfl
  | 8, _ => rfl
  | 9, _ => rfl
  | 10, _ => rfl
  | 11, _ => rfl
  | 12, _ => rfl
  | 13, _ => rfl
  | 14, _ => rfl
  | 15, _ => rfl
  | i + 16, hi => exact absurd hi (by omega)

/-- One address. -/
theorem addr_of {fuel : Nat} {cs : List Value} {x : DataW H × List MemPlace} (h : DataW.trod enc Tryd.prog w base spare held fuel 46 cs = some x) : ∃ d : AddrD, cs = d.cells.toList := by
  obtain ⟨y0, y1, y2, n, _, hl, h0, h1, h2⟩ := trod_struct3 Tryd.underlying46 h
  rw [Tryd.cells46] at hl
  simp only [Tryd.cells44, Tryd.cells4, Tryd.cells40, List.drop_zero] at h0 h1 h2
  obtain ⟨hl0, f, hb⟩ := bytes_of Tryd.underlying44 Tryd.cells44 h0
  obtain ⟨v6, hv6, _⟩ := DataW.trod_bool Tryd.underlying4 h1
  obtain ⟨port, hport, _⟩ := DataW.trod_int Tryd.underlying40 h2
  refine ⟨⟨f, v6, port⟩, ?_⟩
  have c := cells_at ⟨f, v6, port⟩
  apply List.ext_getElem?
  intro i
  by_cases hi : i < 16
  · rw [c.1 i hi, ← hb i hi, List.getElem?_take, if_pos hi]
  · by_cases h16 : i = 16
    · subst h16; rw [c.2.1]; exact at_of_take hv6
    · by_cases h17 : i = 17
      · subst h17; rw [c.2.2]; exact at_of_take hport
      · rw [List.getElem?_eq_none (by omega), List.getElem?_eq_none (show ((⟨f, v6, port⟩ : AddrD).cells.toList).length ≤ i by show 18 ≤ i; omega)]

/-- A slice of addresses. -/
theorem open_addrs {a : Option Addr} {n c : Nat} {d : DataW H} {p : List MemPlace} (h : DataW.Trod enc Tryd.prog w 0 (fun _ => true) held 23 (.slice a n c) d p) : ∃ A, Src w a n A := by
  obtain ⟨fuel, hf⟩ := h
  rcases open_slice Tryd.underlying23 hf with ⟨hcs, _⟩ | ⟨ad, len, cap, m, q, D, Pl, hcs, _, hlc, hcm, hm, _, hel⟩
  · simp [Value.cells] at hcs
    exact ⟨fun _ => ⟨fun _ => 0, false, 0⟩, .inl hcs.2.1⟩
  · simp [Value.cells] at hcs
    obtain ⟨rfl, rfl, rfl⟩ := hcs
    by_cases h0 : n = 0
    · exact ⟨fun _ => ⟨fun _ => 0, false, 0⟩, .inl h0⟩
    simp only [if_true] at hm
    subst hm
    have key : ∀ i, i < n → ∃ A : AddrD, ∀ j, j < 18 → w.cell? (ad.add (i * 18 + j)) = A.cells.toList[j]? := by
      intro i hi
      obtain ⟨cs', hc', ht'⟩ := hel i (by omega)
      rw [Tryd.cells46] at hc'
      obtain ⟨A, rfl⟩ := addr_of ht'
      obtain ⟨_, hlen, hcell⟩ := World.cells?_some hc'
      refine ⟨A, fun j hj => ?_⟩
      have := hcell j hj
      rwa [Addr.add_add] at this
    have h00 := (Classical.choose_spec (key 0 (by omega))) 0 (by omega)
    have hsp : ad.spot = none := by
      rw [(cells_at (Classical.choose (key 0 (by omega)))).1 0 (by omega)] at h00
      simpa [Addr.add] using World.cell?_spot h00
    obtain ⟨b, off, spot⟩ := ad
    simp only at hsp
    subst hsp
    have hb : b < w.heap.size := by
      rw [(cells_at (Classical.choose (key 0 (by omega)))).1 0 (by omega)] at h00
      simpa [Addr.add] using World.block_lt_of_cell? w _ h00
    refine ⟨fun i => if h : i < n then Classical.choose (key i h) else ⟨fun _ => 0, false, 0⟩, .inr ⟨b, off, rfl, hb, fun i hi j v hv => ?_⟩⟩
    simp only [hi, dite_true] at hv
    have hj : j < 18 := by
      rcases Nat.lt_or_ge j 18 with h | h
      · exact h
      · rw [List.getElem?_eq_none (show (AddrD.cells _).toList.length ≤ j by show 18 ≤ j; exact h)] at hv; cases hv
    have := Classical.choose_spec (key i hi) j hj
    rw [Addr.add_mid, ← Nat.add_assoc] at this
    rw [this, hv]
end
end Go.Proofs.Qxb6608884aDoor
