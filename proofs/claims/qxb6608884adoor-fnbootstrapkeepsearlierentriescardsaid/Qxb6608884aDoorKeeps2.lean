/-
  The walk of the law 'FnBootstrapKeepsEarlierEntries' (4): the law's work.
-/
import Derived.Test.Qxb6608884aDoorKeeps
namespace Go.Proofs.Qxb6608884aDoor
open Go.RowKit
set_option linter.unusedVariables false
set_option linter.unusedSimpArgs false

theorem boot_one {w : World} {b : Nat} {v : Value} {m : Nat} {D : Nat → AddrD} {z6 z4 : Option Addr} {ps : List Value} (h : Boot w b v m D z6 z4 ps) : ∀ u ∈ ps, u.oneCell' = true := by
  intro u hu
  obtain ⟨i, hi, rfl⟩ := List.mem_iff_getElem.1 hu
  obtain ⟨e, h1, _⟩ := h.ent i (by have := h.len; omega)
  rw [List.getElem?_eq_getElem hi] at h1
  injection h1 with h1
  rw [h1]; rfl
theorem boot_slice {w : World} {b : Nat} {v : Value} {m : Nat} {D : Nat → AddrD} {z6 z4 : Option Addr} {ps : List Value} (h : Boot w b v m D z6 z4 ps) : ∃ a c, v = .slice a m c := by
  rcases h.own.2 with ⟨rfl, rfl⟩ | ⟨g, cap, cur, rfl, _⟩
  · exact ⟨_, _, rfl⟩
  · exact ⟨_, _, rfl⟩

theorem eq52n (x : Addr) (w : World) : (Op.equalIn 10000 52 (.pointer (some x)) (.pointer none)).run Tryd.prog w = .ok false w := by kernel_rfl
theorem eq52s (d : Nat) (e : Nat) (w : World) : (Op.equalIn (d + 1) 52 (.pointer (some ⟨e, 0, none⟩)) (.pointer (some ⟨e, 0, none⟩))).run Tryd.prog w = .ok true w := by
  have h : (sizeOf 68).run Tryd.prog w = .ok 54 w := by kernel_rfl
  simp [Op.equalIn, run_underlying Tryd.underlying52, h, run_sameAddr_same]
theorem neq52s (e : Nat) (w : World) : (binOp .neq 52 (.pointer (some ⟨e, 0, none⟩)) (.pointer (some ⟨e, 0, none⟩))).run Tryd.prog w = .ok (.bool false) w := by
  simp only [binOp]
  simp [Op.equal, Op.maxDepth, eq52s 9999]
theorem guard52 : Tryd.prog.eqGuardType Tryd.prog.depth 52 = false := by kernel_rfl

set_option maxRecDepth 100000 in
set_option maxHeartbeats 2000000 in
theorem keeps_in (t : Nat → Int) (k : Int) (a b : Option Addr) (n c m d : Nat) (w : World) (A B : Nat → AddrD) (z6 z4 : Option Addr) (hn : n ≤ 4096) (hm : m ≤ 4096) (hk1 : 1 ≤ k) (hk2 : k ≤ 20) (hA : Src w a n A) (hB : Src w b m B) (hG : Glob w z6 z4) :
    Calls Tryd.prog 4 #[.agg (idA t), .int .i64 k, .slice a n c, .slice b m d] w fun e w' => e = .returned (.bool true) ∧ Below w.heap.size w w' := by
  obtain ⟨i0, hi, hz0, hz1, hz2⟩ := info_parts Tryd.info52
  have HI : Hid (Tryd.prog.info? 52 = some i0 ∧ i0.zero = some (.pointer none) ∧ i0.size = 1 ∧ i0.bytes = 8) := ⟨hi, hz0, hz1, hz2⟩
  clear hi hz0 hz1 hz2
  have hn' : (n : Int) ≤ 4096 := by omega
  have hm' : (m : Int) ≤ 4096 := by omega
  have HX : Hid (Src w a n A ∧ Src w b m B ∧ Glob w z6 z4) := ⟨hA, hB, hG⟩
  have hg2 := hG.size
  clear hA hB hG
  have HG : Hid ((w.alloc (.cells (idA t) 22)).heap[w.heap.size]? = some (.cells (idA t) 22 (0, 0))) := heap_alloc_new _ _
  go_enter Tryd.func4, Tryd.ntmps4
  go_wp2_with (refine wpList_load_row rfl 22 (.tmp 4) rfl w.heap.size rfl 22 (idA t) (0, 0) _ HG.out Tryd.underlying22 rfl Tryd.size22 ?_)
  refine (bytes12_any t k a b n c m d _).mono ?_
  rintro e w1 ⟨⟨r, rfl⟩, hb⟩
  have HB1 : Hid (Base w t w1) := Base.below ⟨(Below.refl _ _).alloc (Nat.le_refl _) _, HG.out⟩ hb
  clear hb HG
  cases r
  · go_wp2_with fail
    go_ret
    exact ⟨rfl, HB1.out.bel⟩
  have src : ∀ W, Base w t W → Src W a n A ∧ Src W b m B ∧ Glob W z6 z4 := fun W h => ⟨HX.out.1.below h.bel, HX.out.2.1.below h.bel, HX.out.2.2.below h.bel (by omega)⟩
  have SRC : Hid (∀ W, Base w t W → Src W a n A ∧ Src W b m B ∧ Glob W z6 z4) := src
  clear src HX
  -- l
  go_wp2_with (refine wpList_load_row rfl 22 (.tmp 4) rfl w.heap.size rfl 22 (idA t) (0, 0) _ HB1.out.tgt Tryd.underlying22 rfl Tryd.size22 ?_)
  refine (zznew_any t k w1).mono ?_
  rintro e w2 ⟨⟨b1, rfl, hb1, hL2⟩, hb⟩
  have HB2 : Hid (Base w t w2) := HB1.out.below hb
  have hb1' : w.heap.size ≤ b1 := by have := HB1.out.size; omega
  have HL2 : Hid (LookAt w2 b1 (.slice none 0 0)) := hL2
  clear hb hL2 HB1 hb1
  -- addrsOf(a)
  go_wp2_with fail
  refine (addrs_any (SRC.out w2 HB2.out).1 hn (SRC.out w2 HB2.out).2.2).mono ?_
  rintro e w3 ⟨⟨va, rfl, hva⟩, hb⟩
  have HB3 : Hid (Base w t w3) := HB2.out.below hb
  have HL3 : Hid (LookAt w3 b1 (.slice none 0 0)) := HL2.out.same (hb.block _ HL2.out.lt)
  have HVA : Hid (w3.ownsRow 0 42 4 va n (aps z6 z4 A n)) := ownsRow_base hva (Nat.zero_le _)
  clear hb hva HB2 HL2
  -- bootstrap
  go_wp2_with fail
  refine (zzboot_any (D := A) (boot_start HL3.out) HVA.out (by omega) (by omega)).mono ?_
  rintro e w4 ⟨rfl, hbt⟩
  obtain ⟨⟨v4, ps4, hp4, hB4, hv4⟩, hK4⟩ := booted_first hbt
  have HB4 : Hid (Base w t w4) := HB3.out.kept (v := .slice none 0 0) hK4 HL3.out (World.ownsRow_nil _ _ _ _) hb1' (fun g hg => by simp [Value.ownBlock] at hg)
  have HBo4 : Hid (Boot w4 b1 v4 n A z6 z4 ps4 ∧ ∀ g, v4.ownBlock = some g → w.heap.size ≤ g) := ⟨hB4, fun g hg => by have := hv4 g hg; have := HB3.out.size; omega⟩
  clear hbt hB4 hv4 hK4 hp4 HL3 HVA HB3
  -- first
  go_wp2_with fail
  refine (bootEntries_any HBo4.out.1).mono ?_
  rintro e w' ⟨rfl, hw⟩
  subst hw
  obtain ⟨a4, c4, hv4⟩ := boot_slice HBo4.out.1
  subst hv4
  go_wp2_with (at_builtin; refine wpList_append_copy rfl (.tmp 44) (.tmp 45) rfl i0 HI.out.1 HI.out.2.1 HI.out.2.2.1 HI.out.2.2.2 a4 n c4 ps4 rfl rfl HBo4.out.1.own (boot_one HBo4.out.1) (by omega) ?_)
  intro v5 w5 hC5 hg5
  have hb5 : Below w'.heap.size w' w5 := (Below.refl _ _).grown hg5 (Nat.le_refl _) (fun g hg => by cases hg)
  have HB5 : Hid (Base w t w5) := HB4.out.below hb5
  have HBo5 : Hid (Boot w5 b1 (.slice a4 n c4) n A z6 z4 ps4 ∧ ∀ g, (Value.slice a4 n c4).ownBlock = some g → w.heap.size ≤ g ∧ g < w'.heap.size) := ⟨HBo4.out.1.below hb5, fun g hg => ⟨HBo4.out.2 g hg, (HBo4.out.1.own.lt g hg).2⟩⟩
  have HC5 : Hid (Copy w5 w'.heap.size v5 n ps4 ∧ b1 < w'.heap.size) := ⟨hC5, HBo4.out.1.look.lt⟩
  clear hb5 hC5 hg5 HB4 HBo4
  -- addrsOf(b)
  go_wp2_with fail
  refine (addrs_any (SRC.out w5 HB5.out).2.1 hm (SRC.out w5 HB5.out).2.2).mono ?_
  rintro e w6 ⟨⟨vb, rfl, hvb⟩, hb⟩
  have HB6 : Hid (Base w t w6) := HB5.out.below hb
  have HBo6 : Hid (Boot w6 b1 (.slice a4 n c4) n A z6 z4 ps4 ∧ ∀ g, (Value.slice a4 n c4).ownBlock = some g → w.heap.size ≤ g ∧ g < w'.heap.size) := ⟨HBo5.out.1.below hb, HBo5.out.2⟩
  have HC6 : Hid (Copy w6 w'.heap.size v5 n ps4 ∧ b1 < w'.heap.size) := ⟨⟨HC5.out.1.1, fun h => ownsRow_below (HC5.out.1.2 h) hb⟩, HC5.out.2⟩
  have HVB : Hid (w6.ownsRow 0 42 4 vb m (aps z6 z4 B m)) := ownsRow_base hvb (Nat.zero_le _)
  clear hb hvb HB5 HBo5 HC5
  -- bootstrap
  go_wp2_with fail
  refine (zzboot_any (E := B) HBo6.out.1 HVB.out (by omega) (by omega)).mono ?_
  rintro e w7 ⟨rfl, ⟨v7, qs7, hq7, hB7, hv7⟩, hK7⟩
  have HB7 : Hid (Base w t w7) := HB6.out.kept hK7 HBo6.out.1.look HBo6.out.1.own hb1' (fun g hg => (HBo6.out.2 g hg).1)
  have HC7 : Hid (Copy w7 w'.heap.size v5 n ps4) := ⟨HC6.out.1.1, fun h => ownsRow_same (HC6.out.1.2 h) (fun g hg => hK7.block g ((HC6.out.1.2 h).lt g hg).2 (by have := ((HC6.out.1.2 h).lt g hg).1; have := HC6.out.2; omega) (fun e => by have := ((HC6.out.1.2 h).lt g hg).1; have := (HBo6.out.2 g e.symm).2; omega))⟩
  have HBo7 : Hid (Boot w7 b1 v7 (n + m) (joinD n A B) z6 z4 (ps4 ++ qs7)) := hB7
  have HP7 : Hid (ps4.length = n) := HBo6.out.1.len
  clear hq7 hB7 hv7 hK7 HB6 HBo6 HC6 HVB
  -- all
  go_wp2_with fail
  refine (bootEntries_any HBo7.out).mono ?_
  rintro e w'' ⟨rfl, hw⟩
  subst hw
  obtain ⟨a7, c7, hv7⟩ := boot_slice HBo7.out
  subst hv7
  obtain ⟨a5, c5, hv5⟩ := HC7.out.1
  subst hv5
  go_wp2_with fail
  go_loopw [12] (fun i wr => ∃ q : Nat, q ≤ n ∧ i = .int .i64 (q : Int) ∧ Below w''.heap.size w'' wr) (fun i _ => n - (intOf i).toNat)
  case atStart => exact ⟨0, Nat.zero_le _, rfl, Below.refl _ _⟩
  case round =>
    obtain ⟨q, hq, rfl, hbel⟩ := hrel
    have HR : Hid (Base w t wr ∧ Boot wr b1 (.slice a7 (n + m) c7) (n + m) (joinD n A B) z6 z4 (ps4 ++ qs7) ∧ Copy wr w'.heap.size (.slice a5 n c5) n ps4 ∧ Below w''.heap.size w'' wr) := ⟨HB7.out.below hbel, HBo7.out.below hbel, ⟨HC7.out.1, fun h => ownsRow_below (HC7.out.2 h) hbel⟩, hbel⟩
    clear hbel
    by_cases hlt : q < n
    · have hlt' : (q : Int) < (n : Int) := by omega
      have hltm : (q : Int) < (n : Int) + (m : Int) := by omega
      obtain ⟨e, hp, he⟩ := HR.out.2.1.ent q (by omega)
      obtain ⟨g7, hg7, hc7⟩ : ∃ g7, a7 = some ⟨g7, 0, none⟩ ∧ wr.cell? ⟨g7, q, none⟩ = some (.pointer (some ⟨e, 0, none⟩)) := by
        rcases HR.out.2.1.own.2 with ⟨h, h'⟩ | ⟨g, cap, cur, h, _⟩
        · omega
        · injection h with h1 h2 h3
          subst h1
          exact ⟨g, rfl, by rw [HR.out.2.1.own.cellAt q (by omega)]; exact hp⟩
      subst hg7
      obtain ⟨g5, hg5, hc5⟩ : ∃ g5, a5 = some ⟨g5, 0, none⟩ ∧ wr.cell? ⟨g5, q, none⟩ = some (.pointer (some ⟨e, 0, none⟩)) := by
        have ho := HR.out.2.2.1.2 (by omega)
        rcases ho.2 with ⟨h, h'⟩ | ⟨g, cap, cur, h, _⟩
        · omega
        · injection h with h1 h2 h3
          subst h1
          exact ⟨g, rfl, by rw [ho.cellAt q (by omega)]; rwa [List.getElem?_append_left (by have := HP7.out; omega)] at hp⟩
      subst hg5
      rcases (SRC.out wr HR.out.1).1 with h0 | ⟨ba, off, ha, hin⟩
      · omega
      subst ha
      have HIN : Hid (InRow wr ba off n A) := hin
      have hd : joinD n A B q = A q := by simp [joinD, hlt]
      clear hin hp he
      have q1 := eq52n ⟨e, 0, none⟩
      have q2 := neq52s e
      have g52 := guard52
      go_upto_region 20 with fail
      refine wp_region_noPanic ?_
      refine wp_region_held_drew (S := fun w' => w'.cell? ⟨g7, q, none⟩ = some (.pointer (some ⟨e, 0, none⟩)) ∧ w'.cell? ⟨g5, q, none⟩ = some (.pointer (some ⟨e, 0, none⟩))) (by kernel_rfl) ⟨hc7, hc5⟩ (fun hHeld => ?_)
      refine wpAnyH_take (i := 0) (v := .slice (some ⟨g7, 0, none⟩) (n + m) c7) rfl (by kernel_rfl) (by kernel_rfl) (by kernel_rfl) (fun _ _ _ h => h) (Or.inl ⟨by rfl, fun w' hSw => by kernel_rfl⟩) hHeld ?_
      try simp only [Act.put, List.getElem_toArray, List.getElem_cons_succ, List.getElem_cons_zero, List.setIfInBounds_toArray, List.set_cons_zero, List.set_cons_succ]
      refine wpAnyH_take (i := 1) (v := .int .i64 (q : Int)) rfl (by kernel_rfl) (by kernel_rfl) (by kernel_rfl) (fun _ _ _ h => h) (Or.inl ⟨by rfl, fun w' hSw => by kernel_rfl⟩) hHeld ?_
      try simp only [Act.put, List.getElem_toArray, List.getElem_cons_succ, List.getElem_cons_zero, List.setIfInBounds_toArray, List.set_cons_zero, List.set_cons_succ]
      refine wpAnyH_take (i := 2) (v := .pointer (some ⟨g7, q, none⟩)) rfl (by kernel_rfl) (by kernel_rfl) (by kernel_rfl) (fun _ _ _ h => h) (Or.inl ⟨by rfl, fun w' hSw => by go_simp⟩) hHeld ?_
      try simp only [Act.put, List.getElem_toArray, List.getElem_cons_succ, List.getElem_cons_zero, List.setIfInBounds_toArray, List.set_cons_zero, List.set_cons_succ]
      refine wpAnyH_take (i := 3) (v := .pointer (some ⟨e, 0, none⟩)) rfl (by kernel_rfl) (by kernel_rfl) (by kernel_rfl) (fun _ _ _ h => h) (Or.inl ⟨by rfl, fun w' hSw => by (have h := hSw.1; go_simp)⟩) hHeld ?_
      try simp only [Act.put, List.getElem_toArray, List.getElem_cons_succ, List.getElem_cons_zero, List.setIfInBounds_toArray, List.set_cons_zero, List.set_cons_succ]
      refine wpAnyH_take (i := 4) (v := .bool false) rfl (by kernel_rfl) (by kernel_rfl) (by kernel_rfl) (fun _ _ _ h => h) (Or.inl ⟨by rfl, fun w' hSw => by go_simp⟩) hHeld ?_
      try simp only [Act.put, List.getElem_toArray, List.getElem_cons_succ, List.getElem_cons_zero, List.setIfInBounds_toArray, List.set_cons_zero, List.set_cons_succ]
      refine wpAnyH_take (i := 5) (v := .bool false) rfl (by kernel_rfl) (by kernel_rfl) (by kernel_rfl) (fun _ _ _ h => h) (Or.inl ⟨by rfl, fun w' hSw => by kernel_rfl⟩) hHeld ?_
      try simp only [Act.put, List.getElem_toArray, List.getElem_cons_succ, List.getElem_cons_zero, List.setIfInBounds_toArray, List.set_cons_zero, List.set_cons_succ]
      refine wpAnyH_take (i := 6) (v := .slice (some ⟨g7, 0, none⟩) (n + m) c7) rfl (by kernel_rfl) (by kernel_rfl) (by kernel_rfl) (fun _ _ _ h => h) (Or.inl ⟨by rfl, fun w' hSw => by kernel_rfl⟩) hHeld ?_
      try simp only [Act.put, List.getElem_toArray, List.getElem_cons_succ, List.getElem_cons_zero, List.setIfInBounds_toArray, List.set_cons_zero, List.set_cons_succ]
      refine wpAnyH_take (i := 7) (v := .int .i64 (q : Int)) rfl (by kernel_rfl) (by kernel_rfl) (by kernel_rfl) (fun _ _ _ h => h) (Or.inl ⟨by rfl, fun w' hSw => by kernel_rfl⟩) hHeld ?_
      try simp only [Act.put, List.getElem_toArray, List.getElem_cons_succ, List.getElem_cons_zero, List.setIfInBounds_toArray, List.set_cons_zero, List.set_cons_succ]
      refine wpAnyH_take (i := 8) (v := .pointer (some ⟨g7, q, none⟩)) rfl (by kernel_rfl) (by kernel_rfl) (by kernel_rfl) (fun _ _ _ h => h) (Or.inl ⟨by rfl, fun w' hSw => by go_simp⟩) hHeld ?_
      try simp only [Act.put, List.getElem_toArray, List.getElem_cons_succ, List.getElem_cons_zero, List.setIfInBounds_toArray, List.set_cons_zero, List.set_cons_succ]
      refine wpAnyH_take (i := 9) (v := .pointer (some ⟨e, 0, none⟩)) rfl (by kernel_rfl) (by kernel_rfl) (by kernel_rfl) (fun _ _ _ h => h) (Or.inl ⟨by rfl, fun w' hSw => by (have h := hSw.1; go_simp)⟩) hHeld ?_
      try simp only [Act.put, List.getElem_toArray, List.getElem_cons_succ, List.getElem_cons_zero, List.setIfInBounds_toArray, List.set_cons_zero, List.set_cons_succ]
      refine wpAnyH_take (i := 10) (v := .slice (some ⟨g5, 0, none⟩) n c5) rfl (by kernel_rfl) (by kernel_rfl) (by kernel_rfl) (fun _ _ _ h => h) (Or.inl ⟨by rfl, fun w' hSw => by kernel_rfl⟩) hHeld ?_
      try simp only [Act.put, List.getElem_toArray, List.getElem_cons_succ, List.getElem_cons_zero, List.setIfInBounds_toArray, List.set_cons_zero, List.set_cons_succ]
      refine wpAnyH_take (i := 11) (v := .int .i64 (q : Int)) rfl (by kernel_rfl) (by kernel_rfl) (by kernel_rfl) (fun _ _ _ h => h) (Or.inl ⟨by rfl, fun w' hSw => by kernel_rfl⟩) hHeld ?_
      try simp only [Act.put, List.getElem_toArray, List.getElem_cons_succ, List.getElem_cons_zero, List.setIfInBounds_toArray, List.set_cons_zero, List.set_cons_succ]
      refine wpAnyH_take (i := 12) (v := .pointer (some ⟨g5, q, none⟩)) rfl (by kernel_rfl) (by kernel_rfl) (by kernel_rfl) (fun _ _ _ h => h) (Or.inl ⟨by rfl, fun w' hSw => by go_simp⟩) hHeld ?_
      try simp only [Act.put, List.getElem_toArray, List.getElem_cons_succ, List.getElem_cons_zero, List.setIfInBounds_toArray, List.set_cons_zero, List.set_cons_succ]
      refine wpAnyH_take (i := 13) (v := .pointer (some ⟨e, 0, none⟩)) rfl (by kernel_rfl) (by kernel_rfl) (by kernel_rfl) (fun _ _ _ h => h) (Or.inl ⟨by rfl, fun w' hSw => by (have h := hSw.2; go_simp)⟩) hHeld ?_
      try simp only [Act.put, List.getElem_toArray, List.getElem_cons_succ, List.getElem_cons_zero, List.setIfInBounds_toArray, List.set_cons_zero, List.set_cons_succ]
      refine wpAnyH_take (i := 14) (v := .bool false) rfl (by kernel_rfl) (by kernel_rfl) (by kernel_rfl) (fun _ _ _ h => h) (Or.inl ⟨by rfl, fun w' hSw => by go_simp⟩) hHeld ?_
      try simp only [Act.put, List.getElem_toArray, List.getElem_cons_succ, List.getElem_cons_zero, List.setIfInBounds_toArray, List.set_cons_zero, List.set_cons_succ]
      refine wpAnyH_take (i := 15) (v := .bool false) rfl (by kernel_rfl) (by kernel_rfl) (by kernel_rfl) (fun _ _ _ h => h) (Or.inl ⟨by rfl, fun w' hSw => by kernel_rfl⟩) hHeld ?_
      try simp only [Act.put, List.getElem_toArray, List.getElem_cons_succ, List.getElem_cons_zero, List.setIfInBounds_toArray, List.set_cons_zero, List.set_cons_succ]
      refine wpAnyH_done (by kernel_rfl) ?_ _
      refine NoPanic.normal ?_
      -- BEGIN
      go_upto_region 22 with fail
      go_wp2_with fail
      have hbd : Below wr.heap.size wr wr.drew := (Below.refl _ _).drew
      refine (bootAt_any (HR.out.2.1.below hbd) (q) (by omega) (by omega)).mono ?_
      rw [hd]
      rintro e1 w3 ⟨rfl, hb3⟩
      have HX3 : Hid (Below wr.heap.size wr w3) := hbd.trans (hb3.mono (by simp))
      have hs3 : wr.heap.size ≤ w3.heap.size := HX3.out.size
      clear hb3
      go_upto_region 23 with (refine wpList_store_mid rfl 48 (.tmp 13) (.tmp 92) rfl w3.heap.size 0 ((A q).con z6 z4) rfl rfl ?_ ?_ ?_ ?_; exact there48 w3 (A q) z6 z4; exact size48c (A q) z6 z4; exact con_one (A q) z6 z4)
      have hr4 := stored48 w3 (A q) z6 z4
      have hb4 := below_setCells hs3 ((A q).con z6 z4).toList 0 (HX3.out.alloc hs3 (.cells #[.int .u8 0, .int .u8 0, .int .u8 0, .int .u8 0, .int .u8 0, .int .u8 0, .int .u8 0, .int .u8 0, .int .u8 0, .int .u8 0, .int .u8 0, .int .u8 0, .int .u8 0, .int .u8 0, .int .u8 0, .int .u8 0, .int .u8 0, .int .u8 0, .int .u8 0, .int .u8 0, .int .u64 0, .int .u64 0, .pointer none, .int .u16 0] 48))
      have hs4 := stored48_size w3 ((A q).con z6 z4).toList
      generalize ((w3.alloc (.cells #[.int .u8 0, .int .u8 0, .int .u8 0, .int .u8 0, .int .u8 0, .int .u8 0, .int .u8 0, .int .u8 0, .int .u8 0, .int .u8 0, .int .u8 0, .int .u8 0, .int .u8 0, .int .u8 0, .int .u8 0, .int .u8 0, .int .u8 0, .int .u8 0, .int .u8 0, .int .u8 0, .int .u64 0, .int .u64 0, .pointer none, .int .u16 0] 48)).setCells w3.heap.size 0 ((A q).con z6 z4).toList) = w4 at *
      have hx0 : w4.rangeAt w3.heap.size 0 (idA fun _ => 0).toList := range_left (by rw [← con_split]; exact hr4)
      have hx1 : w4.rangeAt w3.heap.size 20 [Value.int .u64 (A q).hi, .int .u64 (A q).lo, .pointer ((A q).z z6 z4), .int .u16 (A q).port] := by
        have := range_right (xs := (idA fun _ => 0).toList) (by rw [← con_split]; exact hr4)
        exact this
      have hx2 : w4.rangeAt ba (off + q * 18) (A q).cells.toList := rangeAt_below (HIN.out.2 q hlt) hb4 HIN.out.1
      have hGl : Glob w4.drew z6 z4 := ((SRC.out wr HR.out.1).2.2.below hb4 (by have := (SRC.out wr HR.out.1).2.2.size; omega)).below ((Below.refl 2 _).drew) (Nat.le_refl _)
      clear hr4 HX3
      refine wp_region_noPanic ?_
      refine wp_region_held_drew (S := fun w' => w'.rangeAt w3.heap.size 0 (idA fun _ => 0).toList ∧ w'.rangeAt w3.heap.size 20 [Value.int .u64 (A q).hi, .int .u64 (A q).lo, .pointer ((A q).z z6 z4), .int .u16 (A q).port] ∧ w'.rangeAt ba (off + q * 18) (A q).cells.toList) (by kernel_rfl) ⟨(World.rangeAt_drew _ _ _ _).2 hx0, (World.rangeAt_drew _ _ _ _).2 hx1, (World.rangeAt_drew _ _ _ _).2 hx2⟩ (fun hHeld => ?_)
      refine wpAnyH_take (i := 0) (v := .pointer (some ⟨w3.heap.size, 0, none⟩)) rfl (by kernel_rfl) (by kernel_rfl) (by kernel_rfl) (fun _ _ _ h => h) (Or.inl ⟨by rfl, fun w' hSw => by go_simp⟩) hHeld ?_
      try simp only [Act.put, List.getElem_toArray, List.getElem_cons_succ, List.getElem_cons_zero, List.setIfInBounds_toArray, List.set_cons_zero, List.set_cons_succ]
      refine wpAnyH_take (i := 1) (v := .agg (idA fun _ => 0)) rfl (by kernel_rfl) (by kernel_rfl) (by kernel_rfl) (fun _ _ _ h => h) (yieldsIf_load_mid (by rfl) _ _ rfl _ _ rfl (idA fun _ => 0).toList _ (fun w' h => h.1) Tryd.underlying29 rfl Tryd.size29) hHeld ?_
      try simp only [Act.put, List.getElem_toArray, List.getElem_cons_succ, List.getElem_cons_zero, List.setIfInBounds_toArray, List.set_cons_zero, List.set_cons_succ]
      refine wpAnyH_take (i := 2) (v := .agg (idA fun _ => 0)) rfl (by kernel_rfl) (by kernel_rfl) (by kernel_rfl) (fun _ _ _ h => h) (Or.inl ⟨by rfl, fun w' hSw => by kernel_rfl⟩) hHeld ?_
      try simp only [Act.put, List.getElem_toArray, List.getElem_cons_succ, List.getElem_cons_zero, List.setIfInBounds_toArray, List.set_cons_zero, List.set_cons_succ]
      refine wpAnyH_take (i := 3) (v := .bool false) rfl (by kernel_rfl) (by kernel_rfl) (by kernel_rfl) (fun _ _ _ h => h) (Or.inl ⟨by rfl, fun w' hSw => by kernel_rfl⟩) hHeld ?_
      try simp only [Act.put, List.getElem_toArray, List.getElem_cons_succ, List.getElem_cons_zero, List.setIfInBounds_toArray, List.set_cons_zero, List.set_cons_succ]
      refine wpAnyH_take (i := 4) (v := .bool false) rfl (by kernel_rfl) (by kernel_rfl) (by kernel_rfl) (fun _ _ _ h => h) (Or.inl ⟨by rfl, fun w' hSw => by kernel_rfl⟩) hHeld ?_
      try simp only [Act.put, List.getElem_toArray, List.getElem_cons_succ, List.getElem_cons_zero, List.setIfInBounds_toArray, List.set_cons_zero, List.set_cons_succ]
      refine wpAnyH_take (i := 5) (v := .pointer (some ⟨w3.heap.size, 20, none⟩)) rfl (by kernel_rfl) (by kernel_rfl) (by kernel_rfl) (fun _ _ _ h => h) (Or.inl ⟨by rfl, fun w' hSw => by go_simp⟩) hHeld ?_
      try simp only [Act.put, List.getElem_toArray, List.getElem_cons_succ, List.getElem_cons_zero, List.setIfInBounds_toArray, List.set_cons_zero, List.set_cons_succ]
      refine wpAnyH_take (i := 6) (v := .agg #[.int .u64 (A q).hi, .int .u64 (A q).lo, .pointer ((A q).z z6 z4), .int .u16 (A q).port]) rfl (by kernel_rfl) (by kernel_rfl) (by kernel_rfl) (fun _ _ _ h => h) (yieldsIf_load_mid (by rfl) _ _ rfl _ _ rfl [Value.int .u64 (A q).hi, .int .u64 (A q).lo, .pointer ((A q).z z6 z4), .int .u16 (A q).port] _ (fun w' h => h.2.1) Tryd.underlying42 rfl Tryd.size42) hHeld ?_
      try simp only [Act.put, List.getElem_toArray, List.getElem_cons_succ, List.getElem_cons_zero, List.setIfInBounds_toArray, List.set_cons_zero, List.set_cons_succ]
      refine wpAnyH_take (i := 7) (v := .slice (some ⟨ba, off, none⟩) n c) rfl (by kernel_rfl) (by kernel_rfl) (by kernel_rfl) (fun _ _ _ h => h) (Or.inl ⟨by rfl, fun w' hSw => by kernel_rfl⟩) hHeld ?_
      try simp only [Act.put, List.getElem_toArray, List.getElem_cons_succ, List.getElem_cons_zero, List.setIfInBounds_toArray, List.set_cons_zero, List.set_cons_succ]
      refine wpAnyH_take (i := 8) (v := .int .i64 (q : Int)) rfl (by kernel_rfl) (by kernel_rfl) (by kernel_rfl) (fun _ _ _ h => h) (Or.inl ⟨by rfl, fun w' hSw => by kernel_rfl⟩) hHeld ?_
      try simp only [Act.put, List.getElem_toArray, List.getElem_cons_succ, List.getElem_cons_zero, List.setIfInBounds_toArray, List.set_cons_zero, List.set_cons_succ]
      refine wpAnyH_take (i := 9) (v := .pointer (some ⟨ba, off + q * 18, none⟩)) rfl (by kernel_rfl) (by kernel_rfl) (by kernel_rfl) (fun _ _ _ h => h) (Or.inl ⟨by rfl, fun w' hSw => by go_simp⟩) hHeld ?_
      try simp only [Act.put, List.getElem_toArray, List.getElem_cons_succ, List.getElem_cons_zero, List.setIfInBounds_toArray, List.set_cons_zero, List.set_cons_succ]
      refine wpAnyH_take (i := 10) (v := .agg (A q).cells) rfl (by kernel_rfl) (by kernel_rfl) (by kernel_rfl) (fun _ _ _ h => h) (yieldsIf_load_mid (by rfl) _ _ rfl _ _ rfl (A q).cells.toList _ (fun w' h => h.2.2) Tryd.underlying46 rfl Tryd.size46) hHeld ?_
      try simp only [Act.put, List.getElem_toArray, List.getElem_cons_succ, List.getElem_cons_zero, List.setIfInBounds_toArray, List.set_cons_zero, List.set_cons_succ]
      refine wpAnyH_ready (rs := [11]) (by kernel_rfl) (by simp) ?_
      refine AllReadyH.cons rfl (fun K hK => ?_) AllReadyH.nil
      go_simp
      refine (addrOf_flat (A q) z6 z4 _ hGl.c6 hGl.c4 hGl.size).mono ?_
      rintro e2 w5 ⟨rfl, hb5⟩
      have hb5' : Below wr.heap.size wr w5 := hb4.drew.trans (hb5.mono (by have := hb4.size; simpa using this))
      refine hK.out _ _ ⟨rangeAt_below hHeld.1 hb5 (by simpa using hs4), rangeAt_below hHeld.2.1 hb5 (by simpa using hs4), rangeAt_below hHeld.2.2 hb5 (by have := HIN.out.1; have := hb4.size; simp; omega)⟩ (fun hHeld => ?_)
      clear hK
      try simp only [Act.put, List.getElem_toArray, List.getElem_cons_succ, List.getElem_cons_zero, List.setIfInBounds_toArray, List.set_cons_zero, List.set_cons_succ]
      refine wpAnyH_take (i := 12) (v := .bool false) rfl (by kernel_rfl) (by kernel_rfl) (by kernel_rfl) (fun _ _ _ h => h) (Or.inl ⟨by rfl, fun w' hSw => by (have q42 := neq42 (A q).hi (A q).lo ((A q).z z6 z4) (A q).port; go_simp)⟩) hHeld ?_
      try simp only [Act.put, List.getElem_toArray, List.getElem_cons_succ, List.getElem_cons_zero, List.setIfInBounds_toArray, List.set_cons_zero, List.set_cons_succ]
      refine wpAnyH_take (i := 13) (v := .bool false) rfl (by kernel_rfl) (by kernel_rfl) (by kernel_rfl) (fun _ _ _ h => h) (Or.inl ⟨by rfl, fun w' hSw => by kernel_rfl⟩) hHeld ?_
      try simp only [Act.put, List.getElem_toArray, List.getElem_cons_succ, List.getElem_cons_zero, List.setIfInBounds_toArray, List.set_cons_zero, List.set_cons_succ]
      refine wpAnyH_done (by kernel_rfl) ?_ _
      refine NoPanic.normal ?_
      have HB5 : Hid (Below wr.heap.size wr w5) := hb5'
      clear hHeld hb5 hb5' hx0 hx1 hx2 hGl hb4
      go_wp2_with fail
      go_roundw
      case rel => exact ⟨q + 1, hlt, by go_num, HR.out.2.2.2.trans (HB5.out.mono HR.out.2.2.2.size)⟩
      case measure => simp [intOf]; omega
    · go_wp2_with fail
      go_loopw [14] (fun i wr => ∃ q : Nat, q ≤ m ∧ i = .int .i64 (q : Int) ∧ Below w''.heap.size w'' wr) (fun i _ => m - (intOf i).toNat)
      case atStart => exact ⟨0, Nat.zero_le _, rfl, HR.out.2.2.2⟩
      case round =>
        clear HR
        obtain ⟨j, hj, rfl, hbel⟩ := hrel
        have HR : Hid (Base w t wr ∧ Boot wr b1 (.slice a7 (n + m) c7) (n + m) (joinD n A B) z6 z4 (ps4 ++ qs7) ∧ Below w''.heap.size w'' wr) := ⟨HB7.out.below hbel, HBo7.out.below hbel, hbel⟩
        clear hbel
        by_cases hjm : j < m
        · have hlt' : (j : Int) < (m : Int) := by omega
          have hltm : (n : Int) + (j : Int) < (n : Int) + (m : Int) := by omega
          obtain ⟨e, hp, he⟩ := HR.out.2.1.ent (n + j) (by omega)
          obtain ⟨g7, hg7, hc7⟩ : ∃ g7, a7 = some ⟨g7, 0, none⟩ ∧ wr.cell? ⟨g7, n + j, none⟩ = some (.pointer (some ⟨e, 0, none⟩)) := by
            rcases HR.out.2.1.own.2 with ⟨h, h'⟩ | ⟨g, cap, cur, h, _⟩
            · omega
            · injection h with h1 h2 h3
              subst h1
              exact ⟨g, rfl, by rw [HR.out.2.1.own.cellAt (n + j) (by omega)]; exact hp⟩
          subst hg7
          rcases (SRC.out wr HR.out.1).2.1 with h0 | ⟨ba, off, ha, hin⟩
          · omega
          subst ha
          have HIN : Hid (InRow wr ba off m B) := hin
          have hd : joinD n A B (n + j) = B j := by simp [joinD, show ¬ n + j < n by omega]
          clear hin hp he
          have hbd : Below wr.heap.size wr wr := Below.refl _ _
          go_wp2_with fail
          refine (bootAt_any (HR.out.2.1.below hbd) (n + j) (by omega) (by omega)).mono ?_
          rw [hd]
          rintro e1 w3 ⟨rfl, hb3⟩
          have HX3 : Hid (Below wr.heap.size wr w3) := hbd.trans (hb3.mono (by simp))
          have hs3 : wr.heap.size ≤ w3.heap.size := HX3.out.size
          clear hb3
          go_upto_region 31 with (refine wpList_store_mid rfl 48 (.tmp 15) (.tmp 126) rfl w3.heap.size 0 ((B j).con z6 z4) rfl rfl ?_ ?_ ?_ ?_; exact there48 w3 (B j) z6 z4; exact size48c (B j) z6 z4; exact con_one (B j) z6 z4)
          have hr4 := stored48 w3 (B j) z6 z4
          have hb4 := below_setCells hs3 ((B j).con z6 z4).toList 0 (HX3.out.alloc hs3 (.cells #[.int .u8 0, .int .u8 0, .int .u8 0, .int .u8 0, .int .u8 0, .int .u8 0, .int .u8 0, .int .u8 0, .int .u8 0, .int .u8 0, .int .u8 0, .int .u8 0, .int .u8 0, .int .u8 0, .int .u8 0, .int .u8 0, .int .u8 0, .int .u8 0, .int .u8 0, .int .u8 0, .int .u64 0, .int .u64 0, .pointer none, .int .u16 0] 48))
          have hs4 := stored48_size w3 ((B j).con z6 z4).toList
          generalize ((w3.alloc (.cells #[.int .u8 0, .int .u8 0, .int .u8 0, .int .u8 0, .int .u8 0, .int .u8 0, .int .u8 0, .int .u8 0, .int .u8 0, .int .u8 0, .int .u8 0, .int .u8 0, .int .u8 0, .int .u8 0, .int .u8 0, .int .u8 0, .int .u8 0, .int .u8 0, .int .u8 0, .int .u8 0, .int .u64 0, .int .u64 0, .pointer none, .int .u16 0] 48)).setCells w3.heap.size 0 ((B j).con z6 z4).toList) = w4 at *
          have hx0 : w4.rangeAt w3.heap.size 0 (idA fun _ => 0).toList := range_left (by rw [← con_split]; exact hr4)
          have hx1 : w4.rangeAt w3.heap.size 20 [Value.int .u64 (B j).hi, .int .u64 (B j).lo, .pointer ((B j).z z6 z4), .int .u16 (B j).port] := by
            have := range_right (xs := (idA fun _ => 0).toList) (by rw [← con_split]; exact hr4)
            exact this
          have hx2 : w4.rangeAt ba (off + j * 18) (B j).cells.toList := rangeAt_below (HIN.out.2 j hjm) hb4 HIN.out.1
          have hGl : Glob w4.drew z6 z4 := ((SRC.out wr HR.out.1).2.2.below hb4 (by have := (SRC.out wr HR.out.1).2.2.size; omega)).below ((Below.refl 2 _).drew) (Nat.le_refl _)
          clear hr4 HX3
          refine wp_region_noPanic ?_
          refine wp_region_held_drew (S := fun w' => w'.rangeAt w3.heap.size 0 (idA fun _ => 0).toList ∧ w'.rangeAt w3.heap.size 20 [Value.int .u64 (B j).hi, .int .u64 (B j).lo, .pointer ((B j).z z6 z4), .int .u16 (B j).port] ∧ w'.rangeAt ba (off + j * 18) (B j).cells.toList) (by kernel_rfl) ⟨(World.rangeAt_drew _ _ _ _).2 hx0, (World.rangeAt_drew _ _ _ _).2 hx1, (World.rangeAt_drew _ _ _ _).2 hx2⟩ (fun hHeld => ?_)
          refine wpAnyH_take (i := 0) (v := .pointer (some ⟨w3.heap.size, 0, none⟩)) rfl (by kernel_rfl) (by kernel_rfl) (by kernel_rfl) (fun _ _ _ h => h) (Or.inl ⟨by rfl, fun w' hSw => by go_simp⟩) hHeld ?_
          try simp only [Act.put, List.getElem_toArray, List.getElem_cons_succ, List.getElem_cons_zero, List.setIfInBounds_toArray, List.set_cons_zero, List.set_cons_succ]
          refine wpAnyH_take (i := 1) (v := .agg (idA fun _ => 0)) rfl (by kernel_rfl) (by kernel_rfl) (by kernel_rfl) (fun _ _ _ h => h) (yieldsIf_load_mid (by rfl) _ _ rfl _ _ rfl (idA fun _ => 0).toList _ (fun w' h => h.1) Tryd.underlying29 rfl Tryd.size29) hHeld ?_
          try simp only [Act.put, List.getElem_toArray, List.getElem_cons_succ, List.getElem_cons_zero, List.setIfInBounds_toArray, List.set_cons_zero, List.set_cons_succ]
          refine wpAnyH_take (i := 2) (v := .agg (idA fun _ => 0)) rfl (by kernel_rfl) (by kernel_rfl) (by kernel_rfl) (fun _ _ _ h => h) (Or.inl ⟨by rfl, fun w' hSw => by kernel_rfl⟩) hHeld ?_
          try simp only [Act.put, List.getElem_toArray, List.getElem_cons_succ, List.getElem_cons_zero, List.setIfInBounds_toArray, List.set_cons_zero, List.set_cons_succ]
          refine wpAnyH_take (i := 3) (v := .bool false) rfl (by kernel_rfl) (by kernel_rfl) (by kernel_rfl) (fun _ _ _ h => h) (Or.inl ⟨by rfl, fun w' hSw => by kernel_rfl⟩) hHeld ?_
          try simp only [Act.put, List.getElem_toArray, List.getElem_cons_succ, List.getElem_cons_zero, List.setIfInBounds_toArray, List.set_cons_zero, List.set_cons_succ]
          refine wpAnyH_take (i := 4) (v := .bool false) rfl (by kernel_rfl) (by kernel_rfl) (by kernel_rfl) (fun _ _ _ h => h) (Or.inl ⟨by rfl, fun w' hSw => by kernel_rfl⟩) hHeld ?_
          try simp only [Act.put, List.getElem_toArray, List.getElem_cons_succ, List.getElem_cons_zero, List.setIfInBounds_toArray, List.set_cons_zero, List.set_cons_succ]
          refine wpAnyH_take (i := 5) (v := .pointer (some ⟨w3.heap.size, 20, none⟩)) rfl (by kernel_rfl) (by kernel_rfl) (by kernel_rfl) (fun _ _ _ h => h) (Or.inl ⟨by rfl, fun w' hSw => by go_simp⟩) hHeld ?_
          try simp only [Act.put, List.getElem_toArray, List.getElem_cons_succ, List.getElem_cons_zero, List.setIfInBounds_toArray, List.set_cons_zero, List.set_cons_succ]
          refine wpAnyH_take (i := 6) (v := .agg #[.int .u64 (B j).hi, .int .u64 (B j).lo, .pointer ((B j).z z6 z4), .int .u16 (B j).port]) rfl (by kernel_rfl) (by kernel_rfl) (by kernel_rfl) (fun _ _ _ h => h) (yieldsIf_load_mid (by rfl) _ _ rfl _ _ rfl [Value.int .u64 (B j).hi, .int .u64 (B j).lo, .pointer ((B j).z z6 z4), .int .u16 (B j).port] _ (fun w' h => h.2.1) Tryd.underlying42 rfl Tryd.size42) hHeld ?_
          try simp only [Act.put, List.getElem_toArray, List.getElem_cons_succ, List.getElem_cons_zero, List.setIfInBounds_toArray, List.set_cons_zero, List.set_cons_succ]
          refine wpAnyH_take (i := 7) (v := .slice (some ⟨ba, off, none⟩) m d) rfl (by kernel_rfl) (by kernel_rfl) (by kernel_rfl) (fun _ _ _ h => h) (Or.inl ⟨by rfl, fun w' hSw => by kernel_rfl⟩) hHeld ?_
          try simp only [Act.put, List.getElem_toArray, List.getElem_cons_succ, List.getElem_cons_zero, List.setIfInBounds_toArray, List.set_cons_zero, List.set_cons_succ]
          refine wpAnyH_take (i := 8) (v := .int .i64 (j : Int)) rfl (by kernel_rfl) (by kernel_rfl) (by kernel_rfl) (fun _ _ _ h => h) (Or.inl ⟨by rfl, fun w' hSw => by kernel_rfl⟩) hHeld ?_
          try simp only [Act.put, List.getElem_toArray, List.getElem_cons_succ, List.getElem_cons_zero, List.setIfInBounds_toArray, List.set_cons_zero, List.set_cons_succ]
          refine wpAnyH_take (i := 9) (v := .pointer (some ⟨ba, off + j * 18, none⟩)) rfl (by kernel_rfl) (by kernel_rfl) (by kernel_rfl) (fun _ _ _ h => h) (Or.inl ⟨by rfl, fun w' hSw => by go_simp⟩) hHeld ?_
          try simp only [Act.put, List.getElem_toArray, List.getElem_cons_succ, List.getElem_cons_zero, List.setIfInBounds_toArray, List.set_cons_zero, List.set_cons_succ]
          refine wpAnyH_take (i := 10) (v := .agg (B j).cells) rfl (by kernel_rfl) (by kernel_rfl) (by kernel_rfl) (fun _ _ _ h => h) (yieldsIf_load_mid (by rfl) _ _ rfl _ _ rfl (B j).cells.toList _ (fun w' h => h.2.2) Tryd.underlying46 rfl Tryd.size46) hHeld ?_
          try simp only [Act.put, List.getElem_toArray, List.getElem_cons_succ, List.getElem_cons_zero, List.setIfInBounds_toArray, List.set_cons_zero, List.set_cons_succ]
          refine wpAnyH_ready (rs := [11]) (by kernel_rfl) (by simp) ?_
          refine AllReadyH.cons rfl (fun K hK => ?_) AllReadyH.nil
          go_simp
          refine (addrOf_flat (B j) z6 z4 _ hGl.c6 hGl.c4 hGl.size).mono ?_
          rintro e2 w5 ⟨rfl, hb5⟩
          have hb5' : Below wr.heap.size wr w5 := hb4.drew.trans (hb5.mono (by have := hb4.size; simpa using this))
          refine hK.out _ _ ⟨rangeAt_below hHeld.1 hb5 (by simpa using hs4), rangeAt_below hHeld.2.1 hb5 (by simpa using hs4), rangeAt_below hHeld.2.2 hb5 (by have := HIN.out.1; have := hb4.size; simp; omega)⟩ (fun hHeld => ?_)
          clear hK
          try simp only [Act.put, List.getElem_toArray, List.getElem_cons_succ, List.getElem_cons_zero, List.setIfInBounds_toArray, List.set_cons_zero, List.set_cons_succ]
          refine wpAnyH_take (i := 12) (v := .bool false) rfl (by kernel_rfl) (by kernel_rfl) (by kernel_rfl) (fun _ _ _ h => h) (Or.inl ⟨by rfl, fun w' hSw => by (have q42 := neq42 (B j).hi (B j).lo ((B j).z z6 z4) (B j).port; go_simp)⟩) hHeld ?_
          try simp only [Act.put, List.getElem_toArray, List.getElem_cons_succ, List.getElem_cons_zero, List.setIfInBounds_toArray, List.set_cons_zero, List.set_cons_succ]
          refine wpAnyH_take (i := 13) (v := .bool false) rfl (by kernel_rfl) (by kernel_rfl) (by kernel_rfl) (fun _ _ _ h => h) (Or.inl ⟨by rfl, fun w' hSw => by kernel_rfl⟩) hHeld ?_
          try simp only [Act.put, List.getElem_toArray, List.getElem_cons_succ, List.getElem_cons_zero, List.setIfInBounds_toArray, List.set_cons_zero, List.set_cons_succ]
          refine wpAnyH_done (by kernel_rfl) ?_ _
          refine NoPanic.normal ?_
          have HB5 : Hid (Below wr.heap.size wr w5) := hb5'
          clear hHeld hb5 hb5' hx0 hx1 hx2 hGl hb4
          go_wp2_with fail
          go_roundw
          case rel => exact ⟨j + 1, hjm, by go_num, HR.out.2.2.trans (HB5.out.mono HR.out.2.2.size)⟩
          case measure => simp [intOf]; omega
        · go_wp2_with fail
          go_ret
          exact ⟨rfl, HR.out.1.bel⟩
end Go.Proofs.Qxb6608884aDoor
