/-
  The walk of the law 'FnBootstrapSplitAgrees' (3).
-/
import Derived.Test.Qxb6608884aDoorCtx
import Derived.Laws.AppendOwnNone
import Derived.Deep.Cut
namespace Go.Proofs.Qxb6608884aDoor
open Go.RowKit
set_option linter.unusedVariables false
set_option linter.unusedSimpArgs false
theorem Tryd.size22 : (Tryd.prog.info? 22).map (·.size) = some 20 := by kernel_rfl

set_option maxRecDepth 100000 in
set_option maxHeartbeats 1000000 in
/-- The ways out ahead of the law's work. -/
theorem split_out (t : Nat → Int) (k : Int) (a b : Option Addr) (n c m d : Nat) (w : World) (h : 4096 < (n : Int) ∨ ((n : Int) ≤ 4096 ∧ 4096 < (m : Int)) ∨ ((n : Int) ≤ 4096 ∧ (m : Int) ≤ 4096 ∧ k < 1) ∨ ((n : Int) ≤ 4096 ∧ (m : Int) ≤ 4096 ∧ 1 ≤ k ∧ 20 < k)) :
    Calls Tryd.prog 3 #[.agg (idA t), .int .i64 k, .slice a n c, .slice b m d] w fun e w' => e = .returned (.bool true) ∧ Below w.heap.size w w' := by
  have HG : Hid ((w.alloc (.cells (idA t) 22)).heap[w.heap.size]? = some (.cells (idA t) 22 (0, 0))) := heap_alloc_new _ _
  rcases h with h1 | ⟨h1, h2⟩ | ⟨h1, h2, h3⟩ | ⟨h1, h2, h3, h4⟩
  all_goals
    go_enter Tryd.func3, Tryd.ntmps3
    go_wp2_with (refine wpList_load_row rfl 22 (.tmp 4) rfl w.heap.size rfl 22 (idA t) (0, 0) _ HG.out Tryd.underlying22 rfl Tryd.size22 ?_)
    refine (bytes5_any t k a b n c m d _).mono ?_
    rintro e w1 ⟨⟨r, rfl⟩, hb⟩
    have HB : Hid (Below w.heap.size w w1) := ((Below.refl _ _).alloc (Nat.le_refl _) _).trans (hb.mono (by simp))
    clear hb
    cases r
    · go_wp2_with fail
      go_ret
      exact ⟨rfl, HB.out⟩
    · go_wp2_with fail
      go_ret
      exact ⟨rfl, HB.out⟩

/-- 'append(x, y...)', both rows the law's own. -/
theorem wpList_append_rows {w : World} {ops : Array Oper} {rest : List Oper} {o : Oper} {a : Act} {Q : Exit → Act → World → Prop} (hgd : o.guard = none) (s x : Operand) (t : TypeId)
    (ho : o.op = .call { callee := .builtin .append, args := #[s, x], argTypes := #[t, t] })
    (base : Nat) (e : TypeId) (i : TypeInfo) (z : Value) (size bytes : Nat) (ht : Tryd.prog.underlying t = some (.slice e)) (hi : Tryd.prog.info? e = some i) (hz : i.zero = some z)
    (hsize : i.size = size) (hby : i.bytes = bytes) (hzs : z.cells.size = size) (hsz : 0 < size)
    (v : Value) (n : Nat) (xs : List Value) (hs : a.eval s = v) (hown : w.ownsRow base e size v n xs)
    (base' : Nat) (u : Value) (m : Nat) (ys : List Value) (hx : a.eval x = u) (hsrc : w.ownsRow base' e size u m ys) (h1 : ∀ u ∈ ys, u.oneCell' = true)
    (h63 : n + m ≤ maxLen) (hbytes : (n + m) * bytes ≤ 140737488355328) (hbase : base ≤ w.heap.size)
    (h : ∀ v' w', w'.ownsRow base e size v' (n + m) (xs ++ ys) → w.grownBy w' v.ownBlock → wpList Tryd.prog ops Q rest (a.put o.dst v') w') : wpList Tryd.prog ops Q (o :: rest) a w := by
  have hsrc' := hsrc
  rcases hsrc.2 with ⟨hu, hm⟩ | ⟨g, cap, cur, hu, _, _, _⟩
  · subst hu hm
    have hys : ys = [] := List.eq_nil_of_length_eq_zero (by have := hsrc.1; omega)
    subst hys
    refine wpList_append_own_none hgd s x t ho base e i size ht hi v n xs hs hown hx (h v w (by simpa using hown) ⟨rfl, rfl, rfl, Nat.le_refl _, fun _ _ _ => rfl⟩)
  · subst hu
    exact wpList_append_own w hgd s x t ho base e i z size bytes ht hi hz hsize hby hzs hsz v n xs hs hown ⟨g, 0, none⟩ m cap ys hx hsrc.1 (hsrc'.cells rfl) h1 h63 hbytes hbase fun v' w' h2 h3 _ => h v' w' h2 h3

/-- A first bootstrap of a fresh lookup. -/
theorem booted_first {w w' : World} {b n : Nat} {A : Nat → AddrD} {z6 z4 : Option Addr} (h : Booted w b (.slice none 0 0) 0 n A A z6 z4 [] w') :
    (∃ v ps, ps.length = n ∧ Boot w' b v n A z6 z4 ps ∧ ∀ g, v.ownBlock = some g → w.heap.size ≤ g) ∧ KeptBut2 b none w w' := by
  obtain ⟨⟨v, qs, hq, hB, hv⟩, hK⟩ := h
  refine ⟨⟨v, qs, hq, ?_, ?_⟩, hK⟩
  · rw [Nat.zero_add, List.nil_append] at hB
    exact hB.congr (fun i _ => by simp [joinD])
  · rcases hv with hv | hv
    · intro g hg; rw [hv] at hg; simp [Value.ownBlock] at hg
    · exact hv

theorem eq29 (w : World) : (Op.equalIn 10000 29 (.agg (idA fun _ => 0)) (.agg #[.int .u8 0, .int .u8 0, .int .u8 0, .int .u8 0, .int .u8 0, .int .u8 0, .int .u8 0, .int .u8 0, .int .u8 0, .int .u8 0, .int .u8 0, .int .u8 0, .int .u8 0, .int .u8 0, .int .u8 0, .int .u8 0, .int .u8 0, .int .u8 0, .int .u8 0, .int .u8 0])).run Tryd.prog w = .ok true w := by kernel_rfl
theorem eq42' (h l : Int) (z : Option Addr) (p : Int) (w : World) : (Op.equalIn 10000 42 (.agg #[.int .u64 h, .int .u64 l, .pointer z, .int .u16 p]) (.agg #[.int .u64 h, .int .u64 l, .pointer z, .int .u16 p])).run Tryd.prog w = .ok true w := eq42 9996 h l z p w
theorem four_all (h l : Int) (z : Option Addr) (p : Int) : (#[Value.int .u64 h, .int .u64 l, .pointer z, .int .u16 p]).all (·.oneCell') = true := by kernel_rfl
theorem guard29 : Tryd.prog.eqGuardType Tryd.prog.depth 29 = false := by kernel_rfl
theorem guard42 : Tryd.prog.eqGuardType Tryd.prog.depth 42 = false := by kernel_rfl
theorem con_size (d : AddrD) (z6 z4 : Option Addr) : (d.con z6 z4).size = 24 := by kernel_rfl
theorem there48 (w : World) (d : AddrD) (z6 z4 : Option Addr) : (w.alloc (.cells #[.int .u8 0, .int .u8 0, .int .u8 0, .int .u8 0, .int .u8 0, .int .u8 0, .int .u8 0, .int .u8 0, .int .u8 0, .int .u8 0, .int .u8 0, .int .u8 0, .int .u8 0, .int .u8 0, .int .u8 0, .int .u8 0, .int .u8 0, .int .u8 0, .int .u8 0, .int .u8 0, .int .u64 0, .int .u64 0, .pointer none, .int .u16 0] 48)).there w.heap.size 0 (d.con z6 z4).size := by
  rw [con_size]; exact there_new w zero48 48
theorem size48c (d : AddrD) (z6 z4 : Option Addr) : (Tryd.prog.info? 48).map (·.size) = some (d.con z6 z4).size := by rw [con_size]; exact Tryd.size48
/-- What lies in memory behind 'c := boot[i].Contact'. -/
theorem stored48 (w : World) (d : AddrD) (z6 z4 : Option Addr) : ((w.alloc (.cells #[.int .u8 0, .int .u8 0, .int .u8 0, .int .u8 0, .int .u8 0, .int .u8 0, .int .u8 0, .int .u8 0, .int .u8 0, .int .u8 0, .int .u8 0, .int .u8 0, .int .u8 0, .int .u8 0, .int .u8 0, .int .u8 0, .int .u8 0, .int .u8 0, .int .u8 0, .int .u8 0, .int .u64 0, .int .u64 0, .pointer none, .int .u16 0] 48)).setCells w.heap.size 0 (d.con z6 z4).toList).rangeAt w.heap.size 0 (d.con z6 z4).toList :=
  World.rangeAt_setCells_same _ _ _ _ (by have := there48 w d z6 z4; simpa using this)
theorem stored48_size (w : World) (vs : List Value) : w.heap.size < ((w.alloc (.cells #[.int .u8 0, .int .u8 0, .int .u8 0, .int .u8 0, .int .u8 0, .int .u8 0, .int .u8 0, .int .u8 0, .int .u8 0, .int .u8 0, .int .u8 0, .int .u8 0, .int .u8 0, .int .u8 0, .int .u8 0, .int .u8 0, .int .u8 0, .int .u8 0, .int .u8 0, .int .u8 0, .int .u64 0, .int .u64 0, .pointer none, .int .u16 0] 48)).setCells w.heap.size 0 vs).heap.size :=
  Nat.lt_of_lt_of_le (by simp) (below_setCells (B := 0) (Nat.zero_le _) _ _ (Below.refl 0 (w.alloc (.cells #[.int .u8 0, .int .u8 0, .int .u8 0, .int .u8 0, .int .u8 0, .int .u8 0, .int .u8 0, .int .u8 0, .int .u8 0, .int .u8 0, .int .u8 0, .int .u8 0, .int .u8 0, .int .u8 0, .int .u8 0, .int .u8 0, .int .u8 0, .int .u8 0, .int .u8 0, .int .u8 0, .int .u64 0, .int .u64 0, .pointer none, .int .u16 0] 48)))).size
theorem con_split (d : AddrD) (z6 z4 : Option Addr) : (d.con z6 z4).toList = (idA fun _ => 0).toList ++ [Value.int .u64 d.hi, .int .u64 d.lo, .pointer (d.z z6 z4), .int .u16 d.port] := rfl
theorem range_left {w : World} {b o : Nat} {xs ys : List Value} (h : w.rangeAt b o (xs ++ ys)) : w.rangeAt b o xs := fun j v hv => h j v (by rw [List.getElem?_append_left (by have := (List.getElem?_eq_some_iff.1 hv).1; exact this)]; exact hv)
theorem range_right {w : World} {b o : Nat} {xs ys : List Value} (h : w.rangeAt b o (xs ++ ys)) : w.rangeAt b (o + xs.length) ys := fun j v hv => by
  have := h (xs.length + j) v (by rw [List.getElem?_append_right (by omega)]; simpa using hv)
  rwa [← Nat.add_assoc] at this
theorem there_below {w w' : World} {B b o n : Nat} (h : w.there b o n) (k : Below B w w') (hb : b < B) : w'.there b o n := fun j hj => by
  rw [k.cell (p := ⟨b, o + j, none⟩) hb, k.frozen (p := ⟨b, o + j, none⟩) hb]; exact h j hj
theorem rangeAt_setCells_other {w : World} {b o : Nat} {cs : List Value} (h : w.rangeAt b o cs) (g i : Nat) (vs : List Value) (hg : b ≠ g) : (w.setCells g i vs).rangeAt b o cs := World.rangeAt_setCells_apart h g i vs (.inl hg)

set_option maxRecDepth 100000 in
set_option maxHeartbeats 2000000 in
theorem split_in (t : Nat → Int) (k : Int) (a b : Option Addr) (n c m d : Nat) (w : World) (A B : Nat → AddrD) (z6 z4 : Option Addr) (hn : n ≤ 4096) (hm : m ≤ 4096) (hk1 : 1 ≤ k) (hk2 : k ≤ 20) (hA : Src w a n A) (hB : Src w b m B) (hG : Glob w z6 z4) :
    Calls Tryd.prog 3 #[.agg (idA t), .int .i64 k, .slice a n c, .slice b m d] w fun e w' => e = .returned (.bool true) ∧ Below w.heap.size w w' := by
  obtain ⟨i0, hi, hz0, hz1, hz2⟩ := info_parts Tryd.info42
  have HI : Hid (Tryd.prog.info? 42 = some i0 ∧ i0.zero = some (.agg #[.int .u64 0, .int .u64 0, .pointer none, .int .u16 0]) ∧ i0.size = 4 ∧ i0.bytes = 32) := ⟨hi, hz0, hz1, hz2⟩
  clear hi hz0 hz1 hz2
  have hn' : (n : Int) ≤ 4096 := by omega
  have hm' : (m : Int) ≤ 4096 := by omega
  have HX : Hid (Src w a n A ∧ Src w b m B ∧ Glob w z6 z4) := ⟨hA, hB, hG⟩
  have hg2 := hG.size
  clear hA hB hG
  have HG : Hid ((w.alloc (.cells (idA t) 22)).heap[w.heap.size]? = some (.cells (idA t) 22 (0, 0))) := heap_alloc_new _ _
  go_enter Tryd.func3, Tryd.ntmps3
  go_wp2_with (refine wpList_load_row rfl 22 (.tmp 4) rfl w.heap.size rfl 22 (idA t) (0, 0) _ HG.out Tryd.underlying22 rfl Tryd.size22 ?_)
  refine (bytes5_any t k a b n c m d _).mono ?_
  rintro e w1 ⟨⟨r, rfl⟩, hb⟩
  have HB1 : Hid (Base w t w1) := Base.below ⟨(Below.refl _ _).alloc (Nat.le_refl _) _, HG.out⟩ hb
  clear hb HG
  cases r
  · go_wp2_with fail
    go_ret
    exact ⟨rfl, HB1.out.bel⟩
  have src : ∀ W, Base w t W → Src W a n A ∧ Src W b m B ∧ Glob W z6 z4 := fun W h => ⟨HX.out.1.below h.bel, HX.out.2.1.below h.bel, HX.out.2.2.below h.bel (by omega)⟩
  have SRC : Hid (∀ W, Base w t W → Src W a n A ∧ Src W b m B ∧ Glob W z6 z4) := src
  clear src HX
  -- pa
  go_wp2_with fail
  refine (addrs_any (SRC.out w1 HB1.out).1 hn (SRC.out w1 HB1.out).2.2).mono ?_
  rintro e w2 ⟨⟨va, rfl, hva⟩, hb⟩
  have HB2 : Hid (Base w t w2) := HB1.out.below hb
  have HVA : Hid (w2.ownsRow w1.heap.size 42 4 va n (aps z6 z4 A n)) := hva
  clear hb hva HB1
  -- pb
  go_wp2_with fail
  refine (addrs_any (SRC.out w2 HB2.out).2.1 hm (SRC.out w2 HB2.out).2.2).mono ?_
  rintro e w3 ⟨⟨vb, rfl, hvb⟩, hb⟩
  have HB3 : Hid (Base w t w3) := HB2.out.below hb
  have HL3 : Hid ((∀ g, va.ownBlock = some g → g < w3.heap.size) ∧ ∀ g, vb.ownBlock = some g → g < w3.heap.size) := ⟨fun g hg => ((ownsRow_below HVA.out hb).lt g hg).2, fun g hg => (hvb.lt g hg).2⟩
  have HV3 : Hid (w3.ownsRow 0 42 4 va n (aps z6 z4 A n) ∧ w3.ownsRow 0 42 4 vb m (aps z6 z4 B m)) := ⟨ownsRow_base (ownsRow_below HVA.out hb) (Nat.zero_le _), ownsRow_base hvb (Nat.zero_le _)⟩
  clear hb hvb HVA HB2
  -- pab
  go_wp2_with fail
  refine (addrs_any (SRC.out w3 HB3.out).1 hn (SRC.out w3 HB3.out).2.2).mono ?_
  rintro e w4 ⟨⟨vc, rfl, hvc⟩, hb⟩
  have HB4 : Hid (Base w t w4) := HB3.out.below hb
  have HV4 : Hid (w4.ownsRow 0 42 4 va n (aps z6 z4 A n) ∧ w4.ownsRow 0 42 4 vb m (aps z6 z4 B m) ∧ w4.ownsRow w3.heap.size 42 4 vc n (aps z6 z4 A n)) := ⟨ownsRow_below HV3.out.1 hb, ownsRow_below HV3.out.2 hb, hvc⟩
  have hl3 : w.heap.size < w3.heap.size := HB3.out.size
  have hl4 : w3.heap.size ≤ w4.heap.size := hb.size
  clear hb hvc HV3 HB3
  -- addrsOf(b) once more
  go_wp2_with fail
  refine (addrs_any (SRC.out w4 HB4.out).2.1 hm (SRC.out w4 HB4.out).2.2).mono ?_
  rintro e w5 ⟨⟨vd, rfl, hvd⟩, hb⟩
  have HB5 : Hid (Base w t w5) := HB4.out.below hb
  have HV5 : Hid (w5.ownsRow 0 42 4 va n (aps z6 z4 A n) ∧ w5.ownsRow 0 42 4 vb m (aps z6 z4 B m) ∧ w5.ownsRow w3.heap.size 42 4 vc n (aps z6 z4 A n) ∧ w5.ownsRow w4.heap.size 42 4 vd m (aps z6 z4 B m)) := ⟨ownsRow_below HV4.out.1 hb, ownsRow_below HV4.out.2.1 hb, ownsRow_below HV4.out.2.2 hb, hvd⟩
  have hl5 : w4.heap.size ≤ w5.heap.size := hb.size
  clear hb hvd HV4 HB4
  go_wp2_with (at_builtin; refine wpList_append_rows rfl (.tmp 43) (.tmp 45) 25 rfl w3.heap.size 42 i0 (.agg #[.int .u64 0, .int .u64 0, .pointer none, .int .u16 0]) 4 32 Tryd.underlying25 HI.out.1 HI.out.2.1 HI.out.2.2.1 HI.out.2.2.2 rfl (by decide) vc n (aps z6 z4 A n) rfl HV5.out.2.2.1 w4.heap.size vd m (aps z6 z4 B m) rfl HV5.out.2.2.2 (aps_one _ _ _ _) (by unfold maxLen; omega) (by omega) (by omega) ?_)
  intro ve w6 hve hg6
  have hco : ∀ g, vc.ownBlock = some g → w3.heap.size ≤ g := fun g hg => (HV5.out.2.2.1.lt g hg).1
  have HB6 : Hid (Base w t w6) := ⟨HB5.out.bel.grown hg6 (Nat.le_of_lt HB5.out.size) (fun g hg => by have := hco g hg; omega), by rw [hg6.block _ HB5.out.size (fun e => by have := hco _ e.symm; omega)]; exact HB5.out.tgt⟩
  have HV6 : Hid (w6.ownsRow 0 42 4 va n (aps z6 z4 A n) ∧ w6.ownsRow 0 42 4 vb m (aps z6 z4 B m) ∧ w6.ownsRow 0 42 4 ve (n + m) (aps z6 z4 (joinD n A B) (n + m))) := by
    refine ⟨ownsRow_same HV5.out.1 (fun g hg => hg6.block g (by have := HL3.out.1 g hg; omega) (fun e => by have := hco g e.symm; have := HL3.out.1 g hg; omega)), ownsRow_same HV5.out.2.1 (fun g hg => hg6.block g (by have := HL3.out.2 g hg; omega) (fun e => by have := hco g e.symm; have := HL3.out.2 g hg; omega)), ?_⟩
    rw [aps_join]; exact ownsRow_base hve (Nat.zero_le _)
  clear hve hg6 hco HV5 HB5 hl3 hl4 hl5 HL3
  -- l1
  go_wp2_with (refine wpList_load_row rfl 22 (.tmp 4) rfl w.heap.size rfl 22 (idA t) (0, 0) _ HB6.out.tgt Tryd.underlying22 rfl Tryd.size22 ?_)
  refine (zznew_any t k w6).mono ?_
  rintro e w7 ⟨⟨b1, rfl, hb1, hL7⟩, hb⟩
  have HB7 : Hid (Base w t w7) := HB6.out.below hb
  have HV7 : Hid (w7.ownsRow 0 42 4 va n (aps z6 z4 A n) ∧ w7.ownsRow 0 42 4 vb m (aps z6 z4 B m) ∧ w7.ownsRow 0 42 4 ve (n + m) (aps z6 z4 (joinD n A B) (n + m))) := ⟨ownsRow_below HV6.out.1 hb, ownsRow_below HV6.out.2.1 hb, ownsRow_below HV6.out.2.2 hb⟩
  have hb1' : w.heap.size ≤ b1 := by have := HB6.out.size; omega
  have HL7 : Hid (LookAt w7 b1 (.slice none 0 0)) := hL7
  clear hb hL7 HV6 HB6 hb1
  -- bootstrap(pa)
  go_wp2_with fail
  refine (zzboot_any (D := A) (boot_start HL7.out) HV7.out.1 (by omega) (by omega)).mono ?_
  rintro e w8 ⟨rfl, hbt⟩
  obtain ⟨⟨v8, ps8, hp8, hB8, hv8⟩, hK8⟩ := booted_first hbt
  have HB8 : Hid (Base w t w8) := HB7.out.kept (v := .slice none 0 0) hK8 HL7.out (World.ownsRow_nil _ _ _ _) hb1' (fun g hg => by simp [Value.ownBlock] at hg)
  have HV8 : Hid (w8.ownsRow 0 42 4 vb m (aps z6 z4 B m) ∧ w8.ownsRow 0 42 4 ve (n + m) (aps z6 z4 (joinD n A B) (n + m))) := ⟨row_kept (v := .slice none 0 0) hK8 HL7.out (World.ownsRow_nil _ _ _ _) HV7.out.2.1, row_kept (v := .slice none 0 0) hK8 HL7.out (World.ownsRow_nil _ _ _ _) HV7.out.2.2⟩
  have HBo8 : Hid (Boot w8 b1 v8 n A z6 z4 ps8 ∧ ∀ g, v8.ownBlock = some g → w.heap.size ≤ g) := ⟨hB8, fun g hg => by have := hv8 g hg; have := HB7.out.size; omega⟩
  clear hbt hB8 hv8 hK8 hp8 HL7 HV7 HB7
  -- bootstrap(pb)
  go_wp2_with fail
  refine (zzboot_any (E := B) HBo8.out.1 HV8.out.1 (by omega) (by omega)).mono ?_
  rintro e w9 ⟨rfl, ⟨v9, qs9, hq9, hB9, hv9⟩, hK9⟩
  have HB9 : Hid (Base w t w9) := HB8.out.kept hK9 HBo8.out.1.look HBo8.out.1.own hb1' HBo8.out.2
  have HV9 : Hid (w9.ownsRow 0 42 4 ve (n + m) (aps z6 z4 (joinD n A B) (n + m))) := row_kept hK9 HBo8.out.1.look HBo8.out.1.own HV8.out.2
  have HBo9 : Hid (Boot w9 b1 v9 (n + m) (joinD n A B) z6 z4 (ps8 ++ qs9)) := hB9
  clear hq9 hB9 hv9 hK9 HV8 HB8 HBo8
  -- l2
  go_wp2_with (refine wpList_load_row rfl 22 (.tmp 4) rfl w.heap.size rfl 22 (idA t) (0, 0) _ HB9.out.tgt Tryd.underlying22 rfl Tryd.size22 ?_)
  refine (zznew_any t k w9).mono ?_
  rintro e w10 ⟨⟨b2, rfl, hb2, hL10⟩, hb⟩
  have HB10 : Hid (Base w t w10) := HB9.out.below hb
  have HV10 : Hid (w10.ownsRow 0 42 4 ve (n + m) (aps z6 z4 (joinD n A B) (n + m))) := ownsRow_below HV9.out hb
  have HBo10 : Hid (Boot w10 b1 v9 (n + m) (joinD n A B) z6 z4 (ps8 ++ qs9)) := HBo9.out.below hb
  have hb2' : w.heap.size ≤ b2 := by have := HB9.out.size; omega
  have hb12 : b1 ≠ b2 := by have := HBo9.out.look.lt; omega
  have HL10 : Hid (LookAt w10 b2 (.slice none 0 0)) := hL10
  clear hb hL10 HV9 HB9 hb2 HBo9
  -- bootstrap(pab)
  go_wp2_with fail
  refine (zzboot_any (D := joinD n A B) (boot_start HL10.out) HV10.out (by omega) (by omega)).mono ?_
  rintro e w11 ⟨rfl, hbt⟩
  obtain ⟨⟨v11, ps11, hp11, hB11, hv11⟩, hK11⟩ := booted_first hbt
  have HB11 : Hid (Base w t w11) := HB10.out.kept (v := .slice none 0 0) hK11 HL10.out (World.ownsRow_nil _ _ _ _) hb2' (fun g hg => by simp [Value.ownBlock] at hg)
  have HBo1 : Hid (Boot w11 b1 v9 (n + m) (joinD n A B) z6 z4 (ps8 ++ qs9)) := HBo10.out.kept hK11 ⟨_, HL10.out, rfl, 0, [], World.ownsRow_nil _ _ _ _⟩ hb12 (.inl rfl)
  have HBo2 : Hid (Boot w11 b2 v11 (n + m) (joinD n A B) z6 z4 ps11) := hB11
  clear hbt hB11 hv11 hK11 hp11 HL10 HV10 HB10 HBo10
  -- the lengths
  go_wp2_with fail
  refine (bootLen_any HBo1.out).mono ?_
  rintro e w' ⟨rfl, rfl⟩
  go_wp2_with fail
  refine (bootLen_any HBo2.out).mono ?_
  rintro e w' ⟨rfl, rfl⟩
  go_wp2_with fail
  go_loopw [15] (fun i wr => ∃ q : Nat, q ≤ n + m ∧ i = .int .i64 (q : Int) ∧ Below w'.heap.size w' wr) (fun i _ => n + m - (intOf i).toNat)
  case atStart => exact ⟨0, Nat.zero_le _, rfl, Below.refl _ _⟩
  case round =>
    obtain ⟨q, hq, rfl, hbel⟩ := hrel
    have HR : Hid (Base w t wr ∧ Boot wr b1 v9 (n + m) (joinD n A B) z6 z4 (ps8 ++ qs9) ∧ Boot wr b2 v11 (n + m) (joinD n A B) z6 z4 ps11 ∧ Below w'.heap.size w' wr) := ⟨HB11.out.below hbel, HBo1.out.below hbel, HBo2.out.below hbel, hbel⟩
    clear hbel
    by_cases hlt : q < n + m
    · by_cases hqn : q < n
      · have hqn' : (q : Int) < (n : Int) := by omega
        rcases (SRC.out wr HR.out.1).1 with h0 | ⟨ba, off, ha, hin⟩
        · omega
        subst ha
        have HIN : Hid (InRow wr ba off n A) := hin
        have HG0 : Hid (Glob (wr.alloc (.cells #[.int .u64 0, .int .u64 0, .pointer none, .int .u16 0] 42)) z6 z4) := (SRC.out wr HR.out.1).2.2.below ((Below.refl _ _).alloc (Nat.le_refl _) _) (by have := (SRC.out wr HR.out.1).2.2.size; omega)
        have hd : joinD n A B q = A q := by simp [joinD, hqn]
        clear hin
        go_wp2_with (refine wpList_load_mid rfl 46 (.tmp 88) rfl ba (off + q * 18) rfl (A q).cells.toList _ ?_ Tryd.underlying46 rfl Tryd.size46 ?_; exact World.rangeAt_alloc (HIN.out.2 q hqn) _)
        refine (addrOf_flat (A q) z6 z4 _ (HG0.out.c6) (HG0.out.c4) (HG0.out.size)).mono ?_
        rintro e w1 ⟨rfl, hb⟩
        have HT1 : Hid (w1.there wr.heap.size 0 4 ∧ Below wr.heap.size wr w1) := ⟨there_below (there_new wr #[.int .u64 0, .int .u64 0, .pointer none, .int .u16 0] 42) hb (by simp), ((Below.refl _ _).alloc (Nat.le_refl _) _).trans (hb.mono (by simp))⟩
        have hs1 : wr.heap.size < w1.heap.size := by have := hb.size; simp at this; omega
        clear hb HG0
        go_wp2_with (refine wpList_store_mid rfl 42 (.tmp 16) (.tmp 90) rfl wr.heap.size 0 #[.int .u64 (A q).hi, .int .u64 (A q).lo, .pointer ((A q).z z6 z4), .int .u16 (A q).port] rfl rfl ?_ Tryd.size42 ?_ ?_; exact HT1.out.1; exact four_all _ _ _ _)
        have hr2 : (w1.setCells wr.heap.size 0 [Value.int .u64 (A q).hi, .int .u64 (A q).lo, .pointer ((A q).z z6 z4), .int .u16 (A q).port]).rangeAt wr.heap.size 0 [Value.int .u64 (A q).hi, .int .u64 (A q).lo, .pointer ((A q).z z6 z4), .int .u16 (A q).port] := World.rangeAt_setCells_same w1 wr.heap.size 0 _ HT1.out.1
        have hb2 : Below wr.heap.size wr (w1.setCells wr.heap.size 0 [Value.int .u64 (A q).hi, .int .u64 (A q).lo, .pointer ((A q).z z6 z4), .int .u16 (A q).port]) := below_setCells (Nat.le_refl _) _ _ HT1.out.2
        have hs2 : wr.heap.size < (w1.setCells wr.heap.size 0 [Value.int .u64 (A q).hi, .int .u64 (A q).lo, .pointer ((A q).z z6 z4), .int .u16 (A q).port]).heap.size := Nat.lt_of_lt_of_le hs1 (below_setCells (B := 0) (Nat.zero_le _) _ _ (Below.refl 0 w1)).size
        try simp only [List.toList_toArray]
        generalize w1.setCells wr.heap.size 0 [Value.int .u64 (A q).hi, .int .u64 (A q).lo, .pointer ((A q).z z6 z4), .int .u16 (A q).port] = w2 at *
        clear HT1 hs1
        refine (bootAt_any (HR.out.2.1.below hb2) q hlt (by omega)).mono ?_
        rw [hd]
        rintro e w3 ⟨rfl, hb3⟩
        have HX3 : Hid (Below wr.heap.size wr w3 ∧ w3.rangeAt wr.heap.size 0 [Value.int .u64 (A q).hi, .int .u64 (A q).lo, .pointer ((A q).z z6 z4), .int .u16 (A q).port]) := ⟨hb2.trans (hb3.mono (Nat.le_of_lt hs2)), rangeAt_below hr2 hb3 hs2⟩
        have hs3 : wr.heap.size < w3.heap.size := Nat.lt_of_lt_of_le hs2 hb3.size
        clear hb3 hb2 hr2 hs2
        go_wp2_with (refine wpList_store_mid rfl 48 (.tmp 17) (.tmp 101) rfl w3.heap.size 0 ((A q).con z6 z4) rfl rfl ?_ ?_ ?_ ?_; exact there48 w3 (A q) z6 z4; exact size48c (A q) z6 z4; exact con_one (A q) z6 z4)
        have hr4 := stored48 w3 (A q) z6 z4
        have ha4 := rangeAt_setCells_other (World.rangeAt_alloc HX3.out.2 (.cells #[.int .u8 0, .int .u8 0, .int .u8 0, .int .u8 0, .int .u8 0, .int .u8 0, .int .u8 0, .int .u8 0, .int .u8 0, .int .u8 0, .int .u8 0, .int .u8 0, .int .u8 0, .int .u8 0, .int .u8 0, .int .u8 0, .int .u8 0, .int .u8 0, .int .u8 0, .int .u8 0, .int .u64 0, .int .u64 0, .pointer none, .int .u16 0] 48)) w3.heap.size 0 ((A q).con z6 z4).toList (Nat.ne_of_lt hs3)
        have hb4 := below_setCells (Nat.le_of_lt hs3) ((A q).con z6 z4).toList 0 (HX3.out.1.alloc (Nat.le_of_lt hs3) (.cells #[.int .u8 0, .int .u8 0, .int .u8 0, .int .u8 0, .int .u8 0, .int .u8 0, .int .u8 0, .int .u8 0, .int .u8 0, .int .u8 0, .int .u8 0, .int .u8 0, .int .u8 0, .int .u8 0, .int .u8 0, .int .u8 0, .int .u8 0, .int .u8 0, .int .u8 0, .int .u8 0, .int .u64 0, .int .u64 0, .pointer none, .int .u16 0] 48))
        have hs4 := stored48_size w3 ((A q).con z6 z4).toList
        generalize ((w3.alloc (.cells #[.int .u8 0, .int .u8 0, .int .u8 0, .int .u8 0, .int .u8 0, .int .u8 0, .int .u8 0, .int .u8 0, .int .u8 0, .int .u8 0, .int .u8 0, .int .u8 0, .int .u8 0, .int .u8 0, .int .u8 0, .int .u8 0, .int .u8 0, .int .u8 0, .int .u8 0, .int .u8 0, .int .u64 0, .int .u64 0, .pointer none, .int .u16 0] 48)).setCells w3.heap.size 0 ((A q).con z6 z4).toList) = w4 at *
        clear HX3
        refine (bootAt_any (HR.out.2.2.1.below hb4) q hlt (by omega)).mono ?_
        rw [hd]
        rintro e w5 ⟨rfl, hb5⟩
        have HX5 : Hid (Below wr.heap.size wr w5 ∧ w5.rangeAt wr.heap.size 0 [Value.int .u64 (A q).hi, .int .u64 (A q).lo, .pointer ((A q).z z6 z4), .int .u16 (A q).port] ∧ w5.rangeAt w3.heap.size 0 ((A q).con z6 z4).toList) := ⟨hb4.trans (hb5.mono (by omega)), rangeAt_below ha4 hb5 (by omega), rangeAt_below hr4 hb5 hs4⟩
        have hs5 : w3.heap.size < w5.heap.size := Nat.lt_of_lt_of_le hs4 hb5.size
        clear hb5 hb4 hr4 ha4 hs4
        go_upto_region 30 with (refine wpList_store_mid rfl 48 (.tmp 18) (.tmp 104) rfl w5.heap.size 0 ((A q).con z6 z4) rfl rfl ?_ ?_ ?_ ?_; exact there48 w5 (A q) z6 z4; exact size48c (A q) z6 z4; exact con_one (A q) z6 z4)
        have hr6 := stored48 w5 (A q) z6 z4
        have hc6 := rangeAt_setCells_other (World.rangeAt_alloc HX5.out.2.2 (.cells #[.int .u8 0, .int .u8 0, .int .u8 0, .int .u8 0, .int .u8 0, .int .u8 0, .int .u8 0, .int .u8 0, .int .u8 0, .int .u8 0, .int .u8 0, .int .u8 0, .int .u8 0, .int .u8 0, .int .u8 0, .int .u8 0, .int .u8 0, .int .u8 0, .int .u8 0, .int .u8 0, .int .u64 0, .int .u64 0, .pointer none, .int .u16 0] 48)) w5.heap.size 0 ((A q).con z6 z4).toList (Nat.ne_of_lt hs5)
        have ha6 := rangeAt_setCells_other (World.rangeAt_alloc HX5.out.2.1 (.cells #[.int .u8 0, .int .u8 0, .int .u8 0, .int .u8 0, .int .u8 0, .int .u8 0, .int .u8 0, .int .u8 0, .int .u8 0, .int .u8 0, .int .u8 0, .int .u8 0, .int .u8 0, .int .u8 0, .int .u8 0, .int .u8 0, .int .u8 0, .int .u8 0, .int .u8 0, .int .u8 0, .int .u64 0, .int .u64 0, .pointer none, .int .u16 0] 48)) w5.heap.size 0 ((A q).con z6 z4).toList (Nat.ne_of_lt (Nat.lt_trans hs3 hs5))
        have hb6 := below_setCells (Nat.le_of_lt (Nat.lt_trans hs3 hs5)) ((A q).con z6 z4).toList 0 (HX5.out.1.alloc (Nat.le_of_lt (Nat.lt_trans hs3 hs5)) (.cells #[.int .u8 0, .int .u8 0, .int .u8 0, .int .u8 0, .int .u8 0, .int .u8 0, .int .u8 0, .int .u8 0, .int .u8 0, .int .u8 0, .int .u8 0, .int .u8 0, .int .u8 0, .int .u8 0, .int .u8 0, .int .u8 0, .int .u8 0, .int .u8 0, .int .u8 0, .int .u8 0, .int .u64 0, .int .u64 0, .pointer none, .int .u16 0] 48))
        have hs6 := stored48_size w5 ((A q).con z6 z4).toList
        generalize ((w5.alloc (.cells #[.int .u8 0, .int .u8 0, .int .u8 0, .int .u8 0, .int .u8 0, .int .u8 0, .int .u8 0, .int .u8 0, .int .u8 0, .int .u8 0, .int .u8 0, .int .u8 0, .int .u8 0, .int .u8 0, .int .u8 0, .int .u8 0, .int .u8 0, .int .u8 0, .int .u8 0, .int .u8 0, .int .u64 0, .int .u64 0, .pointer none, .int .u16 0] 48)).setCells w5.heap.size 0 ((A q).con z6 z4).toList) = w6 at *
        clear HX5
        have HID1 : Hid (w6.rangeAt w3.heap.size 0 (idA fun _ => 0).toList ∧ w6.rangeAt w5.heap.size 0 (idA fun _ => 0).toList) := ⟨range_left (by rw [← con_split]; exact hc6), range_left (by rw [← con_split]; exact hr6)⟩
        have hx1 := range_right (xs := (idA fun _ => 0).toList) (by rw [← con_split]; exact hc6)
        have hx2 := range_right (xs := (idA fun _ => 0).toList) (by rw [← con_split]; exact hr6)
        have a0 := ha6 0 _ rfl
        have a1 := ha6 1 _ rfl
        have a2 := ha6 2 _ rfl
        have a3 := ha6 3 _ rfl
        have c0 : w6.cell? ⟨w3.heap.size, 20, none⟩ = some (.int .u64 (A q).hi) := hx1 0 _ rfl
        have c1 : w6.cell? ⟨w3.heap.size, 21, none⟩ = some (.int .u64 (A q).lo) := hx1 1 _ rfl
        have c2 : w6.cell? ⟨w3.heap.size, 22, none⟩ = some (.pointer ((A q).z z6 z4)) := hx1 2 _ rfl
        have c3 : w6.cell? ⟨w3.heap.size, 23, none⟩ = some (.int .u16 (A q).port) := hx1 3 _ rfl
        have d0 : w6.cell? ⟨w5.heap.size, 20, none⟩ = some (.int .u64 (A q).hi) := hx2 0 _ rfl
        have d1 : w6.cell? ⟨w5.heap.size, 21, none⟩ = some (.int .u64 (A q).lo) := hx2 1 _ rfl
        have d2 : w6.cell? ⟨w5.heap.size, 22, none⟩ = some (.pointer ((A q).z z6 z4)) := hx2 2 _ rfl
        have d3 : w6.cell? ⟨w5.heap.size, 23, none⟩ = some (.int .u16 (A q).port) := hx2 3 _ rfl
        simp only [Nat.zero_add, Nat.add_zero] at a0 a1 a2 a3
        have HB6 : Hid (Below wr.heap.size wr w6) := hb6
        clear hr6 hc6 ha6 hb6 hx1 hx2 hs6
        have q29 := eq29
        have q42 := eq42' (A q).hi (A q).lo ((A q).z z6 z4) (A q).port
        have g29 := guard29
        have g42 := guard42
        go_wp2_with (first
          | (refine wpList_load_mid rfl 29 (.tmp 105) rfl w3.heap.size 0 rfl (idA fun _ => 0).toList _ ?_ Tryd.underlying29 rfl Tryd.size29 ?_; exact HID1.out.1)
          | (refine wpList_load_mid rfl 29 (.tmp 115) rfl w5.heap.size 0 rfl (idA fun _ => 0).toList _ ?_ Tryd.underlying29 rfl Tryd.size29 ?_; exact HID1.out.2))
        go_roundw
        case rel => exact ⟨q + 1, hlt, by go_num, HR.out.2.2.2.trans (HB6.out.mono HR.out.2.2.2.size)⟩
        case measure => simp [intOf]; omega
      · obtain ⟨r, hr⟩ : ∃ r, q = n + r := ⟨q - n, by omega⟩
        subst hr
        have hrm : r < m := by omega
        have hrm' : (r : Int) < (m : Int) := by omega
        have hqn' : ¬ ((n : Int) + (r : Int) < (n : Int)) := by omega
        have hnr : (n : Int) + (r : Int) - (n : Int) = (r : Int) := by omega
        rcases (SRC.out wr HR.out.1).2.1 with h0 | ⟨ba, off, ha, hin⟩
        · omega
        subst ha
        have HIN : Hid (InRow wr ba off m B) := hin
        have HG0 : Hid (Glob (wr.alloc (.cells #[.int .u64 0, .int .u64 0, .pointer none, .int .u16 0] 42)) z6 z4) := (SRC.out wr HR.out.1).2.2.below ((Below.refl _ _).alloc (Nat.le_refl _) _) (by have := (SRC.out wr HR.out.1).2.2.size; omega)
        have hd : joinD n A B (n + r) = B r := by simp [joinD, show ¬ n + r < n by omega]
        clear hin
        go_wp2_with (refine wpList_load_mid rfl 46 (.tmp 96) rfl ba (off + r * 18) rfl (B r).cells.toList _ ?_ Tryd.underlying46 rfl Tryd.size46 ?_; exact World.rangeAt_alloc (HIN.out.2 r hrm) _)
        refine (addrOf_flat (B r) z6 z4 _ (HG0.out.c6) (HG0.out.c4) (HG0.out.size)).mono ?_
        rintro e w1 ⟨rfl, hb⟩
        have HT1 : Hid (w1.there wr.heap.size 0 4 ∧ Below wr.heap.size wr w1) := ⟨there_below (there_new wr #[.int .u64 0, .int .u64 0, .pointer none, .int .u16 0] 42) hb (by simp), ((Below.refl _ _).alloc (Nat.le_refl _) _).trans (hb.mono (by simp))⟩
        have hs1 : wr.heap.size < w1.heap.size := by have := hb.size; simp at this; omega
        clear hb HG0
        go_wp2_with (refine wpList_store_mid rfl 42 (.tmp 16) (.tmp 98) rfl wr.heap.size 0 #[.int .u64 (B r).hi, .int .u64 (B r).lo, .pointer ((B r).z z6 z4), .int .u16 (B r).port] rfl rfl ?_ Tryd.size42 ?_ ?_; exact HT1.out.1; exact four_all _ _ _ _)
        have hr2 : (w1.setCells wr.heap.size 0 [Value.int .u64 (B r).hi, .int .u64 (B r).lo, .pointer ((B r).z z6 z4), .int .u16 (B r).port]).rangeAt wr.heap.size 0 [Value.int .u64 (B r).hi, .int .u64 (B r).lo, .pointer ((B r).z z6 z4), .int .u16 (B r).port] := World.rangeAt_setCells_same w1 wr.heap.size 0 _ HT1.out.1
        have hb2 : Below wr.heap.size wr (w1.setCells wr.heap.size 0 [Value.int .u64 (B r).hi, .int .u64 (B r).lo, .pointer ((B r).z z6 z4), .int .u16 (B r).port]) := below_setCells (Nat.le_refl _) _ _ HT1.out.2
        have hs2 : wr.heap.size < (w1.setCells wr.heap.size 0 [Value.int .u64 (B r).hi, .int .u64 (B r).lo, .pointer ((B r).z z6 z4), .int .u16 (B r).port]).heap.size := Nat.lt_of_lt_of_le hs1 (below_setCells (B := 0) (Nat.zero_le _) _ _ (Below.refl 0 w1)).size
        try simp only [List.toList_toArray]
        generalize w1.setCells wr.heap.size 0 [Value.int .u64 (B r).hi, .int .u64 (B r).lo, .pointer ((B r).z z6 z4), .int .u16 (B r).port] = w2 at *
        clear HT1 hs1
        refine (bootAt_any (HR.out.2.1.below hb2) (n + r) hlt (by omega)).mono ?_
        rw [hd]
        rintro e w3 ⟨rfl, hb3⟩
        have HX3 : Hid (Below wr.heap.size wr w3 ∧ w3.rangeAt wr.heap.size 0 [Value.int .u64 (B r).hi, .int .u64 (B r).lo, .pointer ((B r).z z6 z4), .int .u16 (B r).port]) := ⟨hb2.trans (hb3.mono (Nat.le_of_lt hs2)), rangeAt_below hr2 hb3 hs2⟩
        have hs3 : wr.heap.size < w3.heap.size := Nat.lt_of_lt_of_le hs2 hb3.size
        clear hb3 hb2 hr2 hs2
        go_wp2_with (refine wpList_store_mid rfl 48 (.tmp 17) (.tmp 101) rfl w3.heap.size 0 ((B r).con z6 z4) rfl rfl ?_ ?_ ?_ ?_; exact there48 w3 (B r) z6 z4; exact size48c (B r) z6 z4; exact con_one (B r) z6 z4)
        have hr4 := stored48 w3 (B r) z6 z4
        have ha4 := rangeAt_setCells_other (World.rangeAt_alloc HX3.out.2 (.cells #[.int .u8 0, .int .u8 0, .int .u8 0, .int .u8 0, .int .u8 0, .int .u8 0, .int .u8 0, .int .u8 0, .int .u8 0, .int .u8 0, .int .u8 0, .int .u8 0, .int .u8 0, .int .u8 0, .int .u8 0, .int .u8 0, .int .u8 0, .int .u8 0, .int .u8 0, .int .u8 0, .int .u64 0, .int .u64 0, .pointer none, .int .u16 0] 48)) w3.heap.size 0 ((B r).con z6 z4).toList (Nat.ne_of_lt hs3)
        have hb4 := below_setCells (Nat.le_of_lt hs3) ((B r).con z6 z4).toList 0 (HX3.out.1.alloc (Nat.le_of_lt hs3) (.cells #[.int .u8 0, .int .u8 0, .int .u8 0, .int .u8 0, .int .u8 0, .int .u8 0, .int .u8 0, .int .u8 0, .int .u8 0, .int .u8 0, .int .u8 0, .int .u8 0, .int .u8 0, .int .u8 0, .int .u8 0, .int .u8 0, .int .u8 0, .int .u8 0, .int .u8 0, .int .u8 0, .int .u64 0, .int .u64 0, .pointer none, .int .u16 0] 48))
        have hs4 := stored48_size w3 ((B r).con z6 z4).toList
        generalize ((w3.alloc (.cells #[.int .u8 0, .int .u8 0, .int .u8 0, .int .u8 0, .int .u8 0, .int .u8 0, .int .u8 0, .int .u8 0, .int .u8 0, .int .u8 0, .int .u8 0, .int .u8 0, .int .u8 0, .int .u8 0, .int .u8 0, .int .u8 0, .int .u8 0, .int .u8 0, .int .u8 0, .int .u8 0, .int .u64 0, .int .u64 0, .pointer none, .int .u16 0] 48)).setCells w3.heap.size 0 ((B r).con z6 z4).toList) = w4 at *
        clear HX3
        refine (bootAt_any (HR.out.2.2.1.below hb4) (n + r) hlt (by omega)).mono ?_
        rw [hd]
        rintro e w5 ⟨rfl, hb5⟩
        have HX5 : Hid (Below wr.heap.size wr w5 ∧ w5.rangeAt wr.heap.size 0 [Value.int .u64 (B r).hi, .int .u64 (B r).lo, .pointer ((B r).z z6 z4), .int .u16 (B r).port] ∧ w5.rangeAt w3.heap.size 0 ((B r).con z6 z4).toList) := ⟨hb4.trans (hb5.mono (by omega)), rangeAt_below ha4 hb5 (by omega), rangeAt_below hr4 hb5 hs4⟩
        have hs5 : w3.heap.size < w5.heap.size := Nat.lt_of_lt_of_le hs4 hb5.size
        clear hb5 hb4 hr4 ha4 hs4
        go_upto_region 30 with (refine wpList_store_mid rfl 48 (.tmp 18) (.tmp 104) rfl w5.heap.size 0 ((B r).con z6 z4) rfl rfl ?_ ?_ ?_ ?_; exact there48 w5 (B r) z6 z4; exact size48c (B r) z6 z4; exact con_one (B r) z6 z4)
        have hr6 := stored48 w5 (B r) z6 z4
        have hc6 := rangeAt_setCells_other (World.rangeAt_alloc HX5.out.2.2 (.cells #[.int .u8 0, .int .u8 0, .int .u8 0, .int .u8 0, .int .u8 0, .int .u8 0, .int .u8 0, .int .u8 0, .int .u8 0, .int .u8 0, .int .u8 0, .int .u8 0, .int .u8 0, .int .u8 0, .int .u8 0, .int .u8 0, .int .u8 0, .int .u8 0, .int .u8 0, .int .u8 0, .int .u64 0, .int .u64 0, .pointer none, .int .u16 0] 48)) w5.heap.size 0 ((B r).con z6 z4).toList (Nat.ne_of_lt hs5)
        have ha6 := rangeAt_setCells_other (World.rangeAt_alloc HX5.out.2.1 (.cells #[.int .u8 0, .int .u8 0, .int .u8 0, .int .u8 0, .int .u8 0, .int .u8 0, .int .u8 0, .int .u8 0, .int .u8 0, .int .u8 0, .int .u8 0, .int .u8 0, .int .u8 0, .int .u8 0, .int .u8 0, .int .u8 0, .int .u8 0, .int .u8 0, .int .u8 0, .int .u8 0, .int .u64 0, .int .u64 0, .pointer none, .int .u16 0] 48)) w5.heap.size 0 ((B r).con z6 z4).toList (Nat.ne_of_lt (Nat.lt_trans hs3 hs5))
        have hb6 := below_setCells (Nat.le_of_lt (Nat.lt_trans hs3 hs5)) ((B r).con z6 z4).toList 0 (HX5.out.1.alloc (Nat.le_of_lt (Nat.lt_trans hs3 hs5)) (.cells #[.int .u8 0, .int .u8 0, .int .u8 0, .int .u8 0, .int .u8 0, .int .u8 0, .int .u8 0, .int .u8 0, .int .u8 0, .int .u8 0, .int .u8 0, .int .u8 0, .int .u8 0, .int .u8 0, .int .u8 0, .int .u8 0, .int .u8 0, .int .u8 0, .int .u8 0, .int .u8 0, .int .u64 0, .int .u64 0, .pointer none, .int .u16 0] 48))
        have hs6 := stored48_size w5 ((B r).con z6 z4).toList
        generalize ((w5.alloc (.cells #[.int .u8 0, .int .u8 0, .int .u8 0, .int .u8 0, .int .u8 0, .int .u8 0, .int .u8 0, .int .u8 0, .int .u8 0, .int .u8 0, .int .u8 0, .int .u8 0, .int .u8 0, .int .u8 0, .int .u8 0, .int .u8 0, .int .u8 0, .int .u8 0, .int .u8 0, .int .u8 0, .int .u64 0, .int .u64 0, .pointer none, .int .u16 0] 48)).setCells w5.heap.size 0 ((B r).con z6 z4).toList) = w6 at *
        clear HX5
        have HID1 : Hid (w6.rangeAt w3.heap.size 0 (idA fun _ => 0).toList ∧ w6.rangeAt w5.heap.size 0 (idA fun _ => 0).toList) := ⟨range_left (by rw [← con_split]; exact hc6), range_left (by rw [← con_split]; exact hr6)⟩
        have hx1 := range_right (xs := (idA fun _ => 0).toList) (by rw [← con_split]; exact hc6)
        have hx2 := range_right (xs := (idA fun _ => 0).toList) (by rw [← con_split]; exact hr6)
        have a0 := ha6 0 _ rfl
        have a1 := ha6 1 _ rfl
        have a2 := ha6 2 _ rfl
        have a3 := ha6 3 _ rfl
        have c0 : w6.cell? ⟨w3.heap.size, 20, none⟩ = some (.int .u64 (B r).hi) := hx1 0 _ rfl
        have c1 : w6.cell? ⟨w3.heap.size, 21, none⟩ = some (.int .u64 (B r).lo) := hx1 1 _ rfl
        have c2 : w6.cell? ⟨w3.heap.size, 22, none⟩ = some (.pointer ((B r).z z6 z4)) := hx1 2 _ rfl
        have c3 : w6.cell? ⟨w3.heap.size, 23, none⟩ = some (.int .u16 (B r).port) := hx1 3 _ rfl
        have d0 : w6.cell? ⟨w5.heap.size, 20, none⟩ = some (.int .u64 (B r).hi) := hx2 0 _ rfl
        have d1 : w6.cell? ⟨w5.heap.size, 21, none⟩ = some (.int .u64 (B r).lo) := hx2 1 _ rfl
        have d2 : w6.cell? ⟨w5.heap.size, 22, none⟩ = some (.pointer ((B r).z z6 z4)) := hx2 2 _ rfl
        have d3 : w6.cell? ⟨w5.heap.size, 23, none⟩ = some (.int .u16 (B r).port) := hx2 3 _ rfl
        simp only [Nat.zero_add, Nat.add_zero] at a0 a1 a2 a3
        have HB6 : Hid (Below wr.heap.size wr w6) := hb6
        clear hr6 hc6 ha6 hb6 hx1 hx2 hs6
        have q29 := eq29
        have q42 := eq42' (B r).hi (B r).lo ((B r).z z6 z4) (B r).port
        have g29 := guard29
        have g42 := guard42
        go_wp2_with (first
          | (refine wpList_load_mid rfl 29 (.tmp 105) rfl w3.heap.size 0 rfl (idA fun _ => 0).toList _ ?_ Tryd.underlying29 rfl Tryd.size29 ?_; exact HID1.out.1)
          | (refine wpList_load_mid rfl 29 (.tmp 115) rfl w5.heap.size 0 rfl (idA fun _ => 0).toList _ ?_ Tryd.underlying29 rfl Tryd.size29 ?_; exact HID1.out.2))
        go_roundw
        case rel => exact ⟨n + r + 1, hlt, by go_num, HR.out.2.2.2.trans (HB6.out.mono HR.out.2.2.2.size)⟩
        case measure => simp [intOf]; omega
    · go_wp2
      go_ret
      exact ⟨rfl, HR.out.1.bel⟩
end Go.Proofs.Qxb6608884aDoor
