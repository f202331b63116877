/-
  The walks of zzClone (17), zzCloneStretches (8).
-/
import Derived.Test.Qxb6615764aArgs
import Derived.Test.Qxb6615764aZz2
namespace Go.Proofs.Qxb6615764a
open Go.RowKit
set_option linter.unusedVariables false
set_option linter.unusedSimpArgs false
set_option linter.unusedSectionVars false

theorem Try.info5 : (Try.prog.info? 5).map (fun i => (i.zero, i.size, i.bytes)) = some (some (.int .u8 0), 1, 1) := by kernel_rfl
theorem make28 (w : World) (n : Nat) (hn : n ≤ 2097152) : (Instr.makeSlice 28 (.int .i64 (n : Int)) (.int .i64 (n : Int))).run Try.prog w = .ok (.slice (some ⟨w.heap.size, 0, none⟩) n n) (w.alloc (.cells (madeCells #[.int .u8 0] n) 5)) := by
  obtain ⟨i0, hi, hz0, hz1, hz2⟩ := info_parts Try.info5
  have := run_makeSlice (P := Try.prog) w 28 5 i0 (.int .u8 0) Try.underlying28 hi hz0 .i64 .i64 n n (by omega) (by omega) (by rw [hz1]; omega) (by rw [hz2]; omega) (by omega)
  rw [hz1, Int.toNat_natCast, Nat.mul_one] at this
  exact this
def byteV (x : UInt8) : Value := .int .u8 x.toNat
def zeros (n : Nat) : List Value := List.replicate n (.int .u8 0)
theorem madeU8 (n : Nat) : (madeCells #[.int .u8 0] n).toList = zeros n := by
  apply List.ext_getElem?
  intro i
  by_cases h : i < n <;> simp [zeros, madeCells, h, Nat.mod_one]

set_option maxHeartbeats 4000000 in
set_option maxRecDepth 100000 in
theorem zzClone_some {w : World} {ad : Addr} {c : Nat} {k : Key} (hv : Bs w (.slice (some ad) k.length c) k) (hk : k.length ≤ 1048576) :
    Calls Try.prog 17 #[.slice (some ad) k.length c] w fun e w' => e = .returned (.slice (some ⟨w.heap.size, 0, none⟩) k.length k.length) ∧ RowB w' w.heap.size 5 (k.map byteV) ∧ Kep (fun _ => False) w w' := by
  obtain ⟨n, hn⟩ : ∃ n, n = k.length := ⟨_, rfl⟩
  have hmk := make28 w n (by omega)
  have hnI : (n : Int) ≤ 1048576 := by omega
  have HK : Hid (Bs w (.slice (some ad) n c) k ∧ n = k.length) := ⟨by rw [hn]; exact hv, hn⟩
  rw [← hn]
  have HR : Hid (RowB (w.alloc (.cells (madeCells #[.int .u8 0] n) 5)) w.heap.size 5 (zeros n) ∧ Kep (fun _ => False) w (w.alloc (.cells (madeCells #[.int .u8 0] n) 5))) := ⟨by have := row_newA w 5 (madeCells #[.int .u8 0] n); rwa [madeU8] at this, (Kep.refl _ _).alloc _⟩
  obtain ⟨nb, hnb⟩ : ∃ nb, nb = w.heap.size := ⟨_, rfl⟩
  rw [← hnb] at hmk HR ⊢
  have HN : Hid (nb = w.heap.size) := hnb
  clear hv hk hn hnb
  go_enter Try.func17, Try.ntmps17
  go_wp2
  generalize w.alloc (.cells (madeCells #[.int .u8 0] n) 5) = w1 at *
  go_loopw [4] (fun q wr => ∃ i : Nat, i ≤ n ∧ q = .int .i64 (i : Int) ∧ RowB wr nb 5 ((k.take i).map byteV ++ zeros (n - i)) ∧ Kep (fun b => b = nb) w1 wr) (fun q _ => n - (intOf q).toNat)
  case atStart => exact ⟨0, Nat.zero_le _, rfl, by simpa using HR.out.1, Kep.refl _ _⟩
  case round =>
    obtain ⟨i, hi, rfl, hrow, hkp⟩ := hrel
    by_cases hin : i < n
    · have hinI : (i : Int) < (n : Int) := by omega
      have hik : i < k.length := by have := HK.out.2; omega
      obtain ⟨x, hx⟩ : ∃ x, k[i]? = some x := ⟨k[i], by simp [hik]⟩
      have hb : ∃ b o, ad = ⟨b, o, none⟩ ∧ wr.cell? ⟨b, o + i, none⟩ = some (.int .u8 x.toNat) := by
        obtain ⟨a, c', e, _, hc⟩ := HK.out.1
        injection e with e1 e2 e3
        obtain ⟨b, o, e4, hcell⟩ := hc (by intro e; rw [e] at hik; simp at hik)
        rw [← e1] at e4
        injection e4 with e4
        refine ⟨b, o, e4, ?_⟩
        have h1 := hcell i x hx
        have hlt : b < w.heap.size := World.block_lt_of_cell? w _ h1
        have h2 := HR.out.2.cell (p := ⟨b, o + i, none⟩) hlt id
        have h3 := hkp.cell (p := ⟨b, o + i, none⟩) (Nat.lt_of_lt_of_le hlt HR.out.2.size) (fun e => by have := HN.out; have e2 : b = nb := e; omega)
        rw [h3, h2]; exact h1
      obtain ⟨b, o, rfl, hcell⟩ := hb
      have hc2 : wr.cell? ⟨nb, i, none⟩ = some (.int .u8 0) := by
        rw [hrow.cell, List.getElem?_append_right (by simp; omega), List.length_map, List.length_take, Nat.min_eq_left (by omega), Nat.sub_self]
        unfold zeros
        rw [List.getElem?_replicate, if_pos (by omega)]
      have f2 := hrow.frozen i
      have HX : Hid (k[i]? = some x ∧ RowB wr nb 5 ((k.take i).map byteV ++ zeros (n - i)) ∧ Kep (fun b => b = nb) w1 wr ∧ i < k.length) := ⟨hx, hrow, hkp, hik⟩
      clear hx hrow hkp hik hmk
      go_wp2
      go_roundw
      case rel =>
        refine ⟨i + 1, by omega, by go_num, ?_, HX.out.2.2.1.trans (kep_set _ _ _ _) (fun _ _ h => h)⟩
        have e : zeros (n - i) = .int .u8 0 :: zeros (n - (i + 1)) := by
          unfold zeros; rw [show n - i = (n - (i + 1)) + 1 by omega, List.replicate_succ]
        have := HX.out.2.1
        rw [e] at this
        have h2 := this.set (P := (k.take i).map byteV) (q := .int .u8 0) (S := zeros (n - (i + 1))) (o := i) (v := .int .u8 x.toNat) rfl (by have := HX.out.2.2.2; simp; omega)
        have e3 : (k.take (i + 1)).map byteV ++ zeros (n - (i + 1)) = (k.take i).map byteV ++ .int .u8 x.toNat :: zeros (n - (i + 1)) := by
          rw [List.take_add_one, HX.out.1]; simp [byteV]
        rw [e3]; exact h2
      case measure => simp [intOf]; omega
    · have hie : i = n := by omega
      have HX : Hid (RowB wr nb 5 (k.map byteV) ∧ Kep (fun b => b = nb) w1 wr) := by
        refine ⟨?_, hkp⟩
        have := HK.out.2
        rw [hie, List.take_of_length_le (by omega)] at hrow
        simpa [zeros] using hrow
      have hinI : ¬ (i : Int) < (n : Int) := by omega
      clear hrow hkp hmk
      go_wp2
      go_ret
      exact ⟨rfl, HX.out.1, HR.out.2.trans HX.out.2 (fun b hb e => by have := HN.out; have e2 : b = nb := e; omega)⟩



-- two
theorem Bs.keepN {w w' : World} {v : Value} {k : Key} (h : Bs w v k) (kp : Kep (fun _ => False) w w') : Bs w' v k := by
  by_cases hk : k = []
  · subst hk
    obtain ⟨x, c, rfl, hn, _⟩ := h
    exact ⟨x, c, rfl, hn, fun h => absurd rfl h⟩
  · exact h.same fun i hi => kp.block i (h.lt hk i hi) id
theorem Bnd.keepN {w w' : World} {v : Value} {u : Option Key} (h : Bnd w v u) (kp : Kep (fun _ => False) w w') : Bnd w' v u := by
  cases u with
  | none => exact h
  | some k => exact ⟨h.1.keepN kp, h.2⟩
theorem Bnd.kepN {w w' : World} {v : Value} {u : Option Key} (h : Bnd w v u) (kp : Kep (fun _ => False) w.drew w') : Bnd w' v u := (h.drewN 1).keepN kp
theorem bs_row {w : World} {b : Nat} {k : Key} (h : RowB w b 5 (k.map byteV)) : Bs w (.slice (some ⟨b, 0, none⟩) k.length k.length) k ∧ By w (.slice (some ⟨b, 0, none⟩) k.length k.length) := by
  have hb : Bs w (.slice (some ⟨b, 0, none⟩) k.length k.length) k := by
    refine ⟨some ⟨b, 0, none⟩, k.length, rfl, (fun e => nomatch e), fun _ => ⟨b, 0, rfl, fun j x hx => ?_⟩⟩
    rw [Nat.zero_add, h.cell, List.getElem?_map, hx]; rfl
  refine ⟨hb, fun b' hb' => ?_⟩
  simp [blockOf] at hb'; subst hb'; exact ⟨_, h⟩
theorem zzClone_none {w : World} {n c : Nat} : Calls Try.prog 17 #[.slice none n c] w fun e w' => e = .returned (.slice none 0 0) ∧ w' = w := by
  go_enter Try.func17, Try.ntmps17
  go_wp2
  go_ret
  exact ⟨rfl, rfl⟩
theorem zzClone_from {w : World} {v : Value} {k : Key} (hv : Bs w v k) (hk : k.length ≤ 1048576) : Calls Try.prog 17 #[v] w fun e w' => (∃ a n c, e = .returned (.slice a n c)) ∧ (∀ v', e = .returned v' → Bs w' v' k ∧ By w' v') ∧ Kep (fun _ => False) w w' := by
  obtain ⟨a, c, e, hn, hc⟩ := hv
  cases a with
  | none =>
    have hk0 : k = [] := by
      by_cases h : k = []
      · exact h
      · obtain ⟨b, o, e, _⟩ := hc h; cases e
    subst e
    refine zzClone_none.mono ?_
    rintro e w' ⟨rfl, rfl⟩
    refine ⟨⟨_, _, _, rfl⟩, fun v' hv' => ?_, Kep.refl _ _⟩
    injection hv' with hv'
    subst hv'
    subst hk0
    exact ⟨⟨none, 0, rfl, fun _ => rfl, fun h => absurd rfl h⟩, fun b hb => by cases hb⟩
  | some ad =>
    subst e
    refine (zzClone_some ⟨_, _, rfl, hn, hc⟩ hk).mono ?_
    rintro e w' ⟨rfl, h1, h2⟩
    refine ⟨⟨_, _, _, rfl⟩, fun v' hv' => ?_, h2⟩
    injection hv' with hv'
    subst hv'
    exact bs_row h1
theorem zzClone_to {w : World} {v : Value} {u : Option Key} (hv : Bnd w v u) (hk : bdLen u ≤ 1048576) : Calls Try.prog 17 #[v] w fun e w' => (∃ a n c, e = .returned (.slice a n c)) ∧ (∀ v', e = .returned v' → Bnd w' v' u ∧ By w' v') ∧ Kep (fun _ => False) w w' := by
  cases u with
  | none =>
    have hv' : v = .slice none 0 0 := hv
    subst hv'
    refine zzClone_none.mono ?_
    rintro e w' ⟨rfl, rfl⟩
    refine ⟨⟨_, _, _, rfl⟩, fun v' hv' => ?_, Kep.refl _ _⟩
    injection hv' with hv'
    subst hv'
    exact ⟨rfl, fun b hb => by cases hb⟩
  | some k =>
    obtain ⟨h1, a, n, c, rfl⟩ := hv
    have h1' := h1
    obtain ⟨a', c', e, _⟩ := h1'
    injection e with e1 e2 e3
    subst e2
    refine (zzClone_some h1 hk).mono ?_
    rintro e w' ⟨rfl, h2, h3⟩
    refine ⟨⟨_, _, _, rfl⟩, fun v' hv' => ?_, h3⟩
    injection hv' with hv'
    subst hv'
    exact ⟨⟨(bs_row h2).1, _, _, _, rfl⟩, (bs_row h2).2⟩
end Go.Proofs.Qxb6615764a
