/-
  The walk of (*lookup).bootstrap (15).
-/
import Derived.Test.Qxb6608884aDoorBoot
import Derived.Test.Qxb6608884aDoorOrders
namespace Go.Proofs.Qxb6608884aDoor
open Go.RowKit
set_option linter.unusedVariables false
set_option linter.unusedSimpArgs false
theorem Tryd.info52 : (Tryd.prog.info? 52).map (fun i => (i.zero, i.size, i.bytes)) = some (some (.pointer none), 1, 8) := by kernel_rfl

theorem Tryd.size42 : (Tryd.prog.info? 42).map (·.size) = some 4 := by kernel_rfl

theorem one_new {w : World} {g : Nat} {u : Value} (h : w.cell? ⟨g, 0, none⟩ = some u) : ∀ j x, [u][j]? = some x → w.cell? ((⟨g, 0, none⟩ : Addr).add j) = some x := by
  intro j x hj
  match j, hj with
  | 0, hj => simp at hj; subst hj; simpa [Addr.add] using h
  | j + 1, hj => simp at hj
theorem one_one (a : Option Addr) : ∀ u ∈ [Value.pointer a], u.oneCell' = true := by intro u hu; simp at hu; subst hu; rfl

theorem three_mid (w : World) (o1 o2 o3 : Obj) : (((w.alloc o1).alloc o2).alloc o3).drew.heap[w.heap.size + 1]? = some o2 := by
  have h := heap_alloc_new (w.alloc o1) o2
  rw [World.size_alloc] at h
  exact (Below.heap_alloc _ _ _ (by simp)).trans h

def joinD (m : Nat) (D E : Nat → AddrD) : Nat → AddrD := fun i => if i < m then D i else E (i - m)

theorem boot_set {w : World} {b : Nat} {v v' : Value} {m : Nat} {D : Nat → AddrD} {z6 z4 : Option Addr} {ps : List Value} (hL : LookAt w b v) (ho : w.ownsRow 0 52 1 v' m ps)
    (he : ∀ i, i < m → ∃ e, ps[i]? = some (.pointer (some ⟨e, 0, none⟩)) ∧ w.heap[e]? = some (.cells ((D i).ent z6 z4) 68 (0, 0))) : Boot (w.setCell ⟨b, 27, none⟩ v') b v' m D z6 z4 ps := by
  have hL' := hL
  obtain ⟨L, _, _, h3⟩ := hL'
  refine ⟨hL.set v', ownsRow_same ho (fun g hg => Below.heap_setCell _ _ _ _ ?_), fun i hi => ?_⟩
  · intro e; subst e; exact hL.ne_own ho hg.symm
  · obtain ⟨e, h1, h2⟩ := he i hi
    exact ⟨e, h1, by rw [Below.heap_setCell _ _ _ _ (ne_of_type h2 h3 (by decide))]; exact h2⟩

set_option maxRecDepth 100000 in
set_option maxHeartbeats 1000000 in
theorem boot_some {w : World} {b g n cap m : Nat} {v : Value} {D E : Nat → AddrD} {z6 z4 : Option Addr} {ps : List Value} (hB : Boot w b v m D z6 z4 ps) (hR : w.ownsRow 0 42 4 (.slice (some ⟨g, 0, none⟩) n cap) n (aps z6 z4 E n)) (hm : m ≤ 8192) (hn : n ≤ 8192) :
    Calls Tryd.prog 15 #[.pointer (some ⟨b, 0, none⟩), .slice (some ⟨g, 0, none⟩) n cap] w fun e w' => e = .returned (.tuple #[]) ∧ (∃ v' qs, qs.length = n ∧ Boot w' b v' (m + n) (joinD m D E) z6 z4 (ps ++ qs) ∧ (v'.ownBlock = v.ownBlock ∨ ∀ r, v'.ownBlock = some r → w.heap.size ≤ r)) ∧ KeptBut2 b v.ownBlock w w' := by
  obtain ⟨i0, hi, hz0, hz1, hz2⟩ := info_parts Tryd.info52
  have HI : Hid (Tryd.prog.info? 52 = some i0 ∧ i0.zero = some (.pointer none) ∧ i0.size = 1 ∧ i0.bytes = 8) := ⟨hi, hz0, hz1, hz2⟩
  clear hi hz0 hz1 hz2
  have HB : Hid (Boot w b v m D z6 z4 ps) := hB
  have HR : Hid (w.ownsRow 0 42 4 (.slice (some ⟨g, 0, none⟩) n cap) n (aps z6 z4 E n)) := hR
  have hgb : g ≠ b := by
    obtain ⟨L, _, _, h3⟩ := hB.look
    rcases hR.2 with ⟨h, _⟩ | ⟨g', cap', cur, h, _, hg, _⟩
    · cases h
    · injection h with h; injection h with h; injection h with h; subst h; exact ne_of_type hg h3 (by decide)
  have hgo : some g ≠ v.ownBlock := by
    rcases hR.2 with ⟨h, _⟩ | ⟨g', cap', cur, h, _, hg, _⟩
    · cases h
    · injection h with h; injection h with h; injection h with h; subst h; exact ne_own hg hB.own (by decide)
  have hgl : g < w.heap.size := (hR.lt g rfl).2
  have HG : Hid (g ≠ b ∧ some g ≠ v.ownBlock) := ⟨hgb, hgo⟩
  clear hB hR hgb hgo
  go_enter Tryd.func15, Tryd.ntmps15
  go_wp2
  go_loopw [8] (fun i wr => ∃ (k : Nat) (v' : Value) (qs : List Value), k ≤ n ∧ i = .int .i64 (k : Int) ∧ qs.length = k ∧ Boot wr b v' (m + k) (joinD m D E) z6 z4 (ps ++ qs) ∧ (v'.ownBlock = v.ownBlock ∨ ∀ r, v'.ownBlock = some r → w.heap.size ≤ r) ∧ KeptBut2 b v.ownBlock w wr) (fun i _ => n - (intOf i).toNat)
  case atStart => exact ⟨0, v, [], Nat.zero_le _, rfl, rfl, by rw [List.append_nil]; exact ⟨HB.out.look, HB.out.own, fun i hi => by have := HB.out.ent i hi; simpa [joinD, show i < m from hi] using this⟩, .inl rfl, KeptBut2.refl _ _ _⟩
  case round =>
    obtain ⟨k, v', qs, hk, rfl, hq, hB1, hv1, hK1⟩ := hrel
    have HB1 : Hid (Boot wr b v' (m + k) (joinD m D E) z6 z4 (ps ++ qs)) := hB1
    have HK1 : Hid (qs.length = k ∧ (v'.ownBlock = v.ownBlock ∨ ∀ r, v'.ownBlock = some r → w.heap.size ≤ r) ∧ KeptBut2 b v.ownBlock w wr) := ⟨hq, hv1, hK1⟩
    clear hq hB1 hv1 hK1
    by_cases hlt : k < n
    · have hrg : wr.heap[g]? = w.heap[g]? := HK1.out.2.2.block g hgl HG.out.1 HG.out.2
      have hr : wr.rangeAt g (k * 4) [Value.int .u64 (E k).hi, .int .u64 (E k).lo, .pointer ((E k).z z6 z4), .int .u16 (E k).port] := fun j u hu => (World.cell?_of_block (a := ⟨g, k * 4 + j, none⟩) hrg).trans (owns_range HR.out k hlt j u hu)
      have e0 := hr 0 _ rfl
      have e1 := hr 1 _ rfl
      have e2 := hr 2 _ rfl
      have e3 := hr 3 _ rfl
      simp only [Nat.add_zero] at e0
      have hbl := HB1.out.look.lt
      clear hr hrg
      go_wp2
      have hN : w.heap.size ≤ wr.heap.size := HK1.out.2.2.size
      have hL1 : LookAt (wr.alloc (.cells #[.int .u64 (E k).hi, .int .u64 (E k).lo, .pointer ((E k).z z6 z4), .int .u16 (E k).port] 42)) b v' := HB1.out.look.same (Below.heap_alloc _ _ _ hbl)
      have hR1 : (wr.alloc (.cells #[.int .u64 (E k).hi, .int .u64 (E k).lo, .pointer ((E k).z z6 z4), .int .u16 (E k).port] 42)).rangeAt wr.heap.size 0 [Value.int .u64 (E k).hi, .int .u64 (E k).lo, .pointer ((E k).z z6 z4), .int .u16 (E k).port] := rangeAt_new wr [Value.int .u64 (E k).hi, .int .u64 (E k).lo, .pointer ((E k).z z6 z4), .int .u16 (E k).port] 42
      clear e0 e1 e2 e3
      refine wp_region_G (fun w' => w'.cell? ⟨b, 27, none⟩ = some v') (fun w' => w'.rangeAt wr.heap.size 0 [Value.int .u64 (E k).hi, .int .u64 (E k).lo, .pointer ((E k).z z6 z4), .int .u16 (E k).port]) [13] (by kernel_rfl) ?_
      refine wpAnyG_take (i := 0) (v := .pointer (some ⟨b, 0, none⟩)) rfl (by kernel_rfl) (by kernel_rfl) (by kernel_rfl) (by kernel_rfl) (fun _ _ _ h => h) hL1.c27 ((World.rangeAt_drew _ _ _ _).2 hR1) (Or.inl ⟨by rfl, fun w' hSw => by kernel_rfl⟩) ?_
      try simp only [Act.put, List.getElem_toArray, List.getElem_cons_succ, List.getElem_cons_zero, List.setIfInBounds_toArray, List.set_cons_zero, List.set_cons_succ]
      refine wpAnyG_take (i := 1) (v := .pointer (some ⟨b, 0, none⟩)) rfl (by kernel_rfl) (by kernel_rfl) (by kernel_rfl) (by kernel_rfl) (fun _ _ _ h => h) hL1.c27 ((World.rangeAt_drew _ _ _ _).2 hR1) (Or.inl ⟨by rfl, fun w' hSw => by kernel_rfl⟩) ?_
      try simp only [Act.put, List.getElem_toArray, List.getElem_cons_succ, List.getElem_cons_zero, List.setIfInBounds_toArray, List.set_cons_zero, List.set_cons_succ]
      refine wpAnyG_take (i := 2) (v := .pointer (some ⟨b, 0, none⟩)) rfl (by kernel_rfl) (by kernel_rfl) (by kernel_rfl) (by kernel_rfl) (fun _ _ _ h => h) hL1.c27 ((World.rangeAt_drew _ _ _ _).2 hR1) (Or.inl ⟨by rfl, fun w' hSw => by kernel_rfl⟩) ?_
      try simp only [Act.put, List.getElem_toArray, List.getElem_cons_succ, List.getElem_cons_zero, List.setIfInBounds_toArray, List.set_cons_zero, List.set_cons_succ]
      refine wpAnyG_take (i := 3) (v := .pointer (some ⟨b, 27, none⟩)) rfl (by kernel_rfl) (by kernel_rfl) (by kernel_rfl) (by kernel_rfl) (fun _ _ _ h => h) hL1.c27 ((World.rangeAt_drew _ _ _ _).2 hR1) (Or.inl ⟨by rfl, fun w' hSw => by kernel_rfl⟩) ?_
      try simp only [Act.put, List.getElem_toArray, List.getElem_cons_succ, List.getElem_cons_zero, List.setIfInBounds_toArray, List.set_cons_zero, List.set_cons_succ]
      refine wpAnyG_take (i := 4) (v := v') rfl (by kernel_rfl) (by kernel_rfl) (by kernel_rfl) (by kernel_rfl) (fun _ _ _ h => h) hL1.c27 ((World.rangeAt_drew _ _ _ _).2 hR1) (Or.inl ⟨by rfl, fun w' hSw => by (have h := hSw.1; go_simp)⟩) ?_
      try simp only [Act.put, List.getElem_toArray, List.getElem_cons_succ, List.getElem_cons_zero, List.setIfInBounds_toArray, List.set_cons_zero, List.set_cons_succ]
      refine wpAnyG_take (i := 5) (v := _) rfl (by kernel_rfl) (by kernel_rfl) (by kernel_rfl) (by kernel_rfl) (fun _ _ _ h => h) hL1.c27 ((World.rangeAt_drew _ _ _ _).2 hR1) (yieldsIf_load_mid (by rfl) _ _ rfl _ _ rfl [Value.int .u64 (E k).hi, .int .u64 (E k).lo, .pointer ((E k).z z6 z4), .int .u16 (E k).port] _ (fun w' h => h.2) Tryd.underlying42 rfl Tryd.size42) ?_
      try simp only [Act.put, List.getElem_toArray, List.getElem_cons_succ, List.getElem_cons_zero, List.setIfInBounds_toArray, List.set_cons_zero, List.set_cons_succ]
      refine wpAnyG_take (i := 6) (v := .agg ((E k).con z6 z4)) rfl (by kernel_rfl) (by kernel_rfl) (by kernel_rfl) (by kernel_rfl) (fun _ _ _ h => h) hL1.c27 ((World.rangeAt_drew _ _ _ _).2 hR1) (Or.inl ⟨by rfl, fun w' hSw => by kernel_rfl⟩) ?_
      try simp only [Act.put, List.getElem_toArray, List.getElem_cons_succ, List.getElem_cons_zero, List.setIfInBounds_toArray, List.set_cons_zero, List.set_cons_succ]
      refine wpAnyG_take (i := 7) (v := .agg ((E k).ent z6 z4)) rfl (by kernel_rfl) (by kernel_rfl) (by kernel_rfl) (by kernel_rfl) (fun _ _ _ h => h) hL1.c27 ((World.rangeAt_drew _ _ _ _).2 hR1) (Or.inl ⟨by rfl, fun w' hSw => by kernel_rfl⟩) ?_
      try simp only [Act.put, List.getElem_toArray, List.getElem_cons_succ, List.getElem_cons_zero, List.setIfInBounds_toArray, List.set_cons_zero, List.set_cons_succ]
      refine wpAnyG_step (i := 8) (by kernel_rfl) rfl (fun K hK => ?_)
      go_simp
      refine hK.out _ _ (World.rangeAt_alloc ((World.rangeAt_drew _ _ _ _).2 hR1) _) (fun _ => ((World.cell?_alloc_past _ b 27 (by simp; omega)).trans hL1.c27)) ?_
      clear hK
      try simp only [Act.put, List.getElem_toArray, List.getElem_cons_succ, List.getElem_cons_zero, List.setIfInBounds_toArray, List.set_cons_zero, List.set_cons_succ]
      refine wpAnyG_step (i := 9) (by kernel_rfl) rfl (fun K hK => ?_)
      go_simp
      have hb3 : Below wr.heap.size wr ((((wr.alloc (.cells #[.int .u64 (E k).hi, .int .u64 (E k).lo, .pointer ((E k).z z6 z4), .int .u16 (E k).port] 42)).alloc (.cells ((E k).ent z6 z4) 68)).alloc (.cells #[.pointer (some ⟨wr.heap.size + 1, 0, none⟩)] 52)).drew) := ((((Below.refl _ _).alloc (Nat.le_refl _) _).alloc (by simp) _).alloc (by simp; omega) _).drew
      have hB3 := HB1.out.below hb3
      have hE3 : ((((wr.alloc (.cells #[.int .u64 (E k).hi, .int .u64 (E k).lo, .pointer ((E k).z z6 z4), .int .u16 (E k).port] 42)).alloc (.cells ((E k).ent z6 z4) 68)).alloc (.cells #[.pointer (some ⟨wr.heap.size + 1, 0, none⟩)] 52)).drew).heap[wr.heap.size + 1]? = some (.cells ((E k).ent z6 z4) 68 (0, 0)) := three_mid _ _ _ _
      have hR3 : ((((wr.alloc (.cells #[.int .u64 (E k).hi, .int .u64 (E k).lo, .pointer ((E k).z z6 z4), .int .u16 (E k).port] 42)).alloc (.cells ((E k).ent z6 z4) 68)).alloc (.cells #[.pointer (some ⟨wr.heap.size + 1, 0, none⟩)] 52)).drew).rangeAt wr.heap.size 0 [Value.int .u64 (E k).hi, .int .u64 (E k).lo, .pointer ((E k).z z6 z4), .int .u16 (E k).port] := (World.rangeAt_drew _ _ _ _).2 (World.rangeAt_alloc (World.rangeAt_alloc hR1 _) _)
      have hP3 : ((((wr.alloc (.cells #[.int .u64 (E k).hi, .int .u64 (E k).lo, .pointer ((E k).z z6 z4), .int .u16 (E k).port] 42)).alloc (.cells ((E k).ent z6 z4) 68)).alloc (.cells #[.pointer (some ⟨wr.heap.size + 1, 0, none⟩)] 52)).drew).cell? ⟨wr.heap.size + 2, 0, none⟩ = some (.pointer (some ⟨wr.heap.size + 1, 0, none⟩)) := by simp [go_sem]
      have hz3 : ((((wr.alloc (.cells #[.int .u64 (E k).hi, .int .u64 (E k).lo, .pointer ((E k).z z6 z4), .int .u16 (E k).port] 42)).alloc (.cells ((E k).ent z6 z4) 68)).alloc (.cells #[.pointer (some ⟨wr.heap.size + 1, 0, none⟩)] 52)).drew).heap.size = wr.heap.size + 3 := by simp
      refine hK.out _ _ hR3 (fun _ => hB3.look.c27) ?_
      clear hK
      generalize (((wr.alloc (.cells #[.int .u64 (E k).hi, .int .u64 (E k).lo, .pointer ((E k).z z6 z4), .int .u16 (E k).port] 42)).alloc (.cells ((E k).ent z6 z4) 68)).alloc (.cells #[.pointer (some ⟨wr.heap.size + 1, 0, none⟩)] 52)).drew = W3 at *
      try simp only [Act.put, List.getElem_toArray, List.getElem_cons_succ, List.getElem_cons_zero, List.setIfInBounds_toArray, List.set_cons_zero, List.set_cons_succ]
      refine wpAnyG_step (i := 10) (by kernel_rfl) rfl (fun K hK => ?_)
      refine step_append_lies _ rfl (.tmp 16) (.tmp 21) 50 rfl 0 52 i0 (.pointer none) 1 8 Tryd.underlying50 HI.out.1 HI.out.2.1 HI.out.2.2.1 HI.out.2.2.2 rfl (by decide) v' (m + k) (ps ++ qs) rfl hB3.own ⟨wr.heap.size + 2, 0, none⟩ 1 1 [.pointer (some ⟨wr.heap.size + 1, 0, none⟩)] rfl rfl (one_new hP3) (one_one _) (by omega) (by unfold maxLen; omega) (by omega) (Nat.zero_le _) _ hz3 ?_
      intro r cap' w4 ho4 hg4 hr4 hl4
      have hvl : ∀ x, v'.ownBlock = some x → x < wr.heap.size := fun x hx => (HB1.out.own.lt x hx).2
      have hL4 : LookAt w4 b v' := hB3.look.same (hg4.block b (by omega) (hB3.look.ne_own hB3.own))
      have hR4 : w4.rangeAt wr.heap.size 0 [Value.int .u64 (E k).hi, .int .u64 (E k).lo, .pointer ((E k).z z6 z4), .int .u16 (E k).port] := fun j u hu => (World.cell?_of_block (a := ⟨wr.heap.size, 0 + j, none⟩) (hg4.block wr.heap.size (by omega) (fun e => by have := hvl _ e.symm; omega))).trans (hR3 j u hu)
      have hE4 : ∀ i, i < m + k + 1 → ∃ e, ((ps ++ qs) ++ [Value.pointer (some ⟨wr.heap.size + 1, 0, none⟩)])[i]? = some (.pointer (some ⟨e, 0, none⟩)) ∧ w4.heap[e]? = some (.cells ((joinD m D E i).ent z6 z4) 68 (0, 0)) := by
        intro i hi
        have hlen := hB3.len
        by_cases h : i < m + k
        · obtain ⟨e, h1, h2⟩ := hB3.ent i h
          exact ⟨e, by rw [List.getElem?_append_left (by omega)]; exact h1, by rw [hg4.block e (lt_of_some h2) (ne_own h2 hB3.own (by decide))]; exact h2⟩
        · have : i = m + k := by omega
          subst this
          refine ⟨wr.heap.size + 1, by rw [List.getElem?_append_right (by omega), hlen]; simp, ?_⟩
          rw [hg4.block _ (by omega) (fun e => by have := hvl _ e.symm; omega), hE3]
          simp [joinD, show ¬ m + k < m by omega]
      have hs4 : wr.heap.size + 3 ≤ w4.heap.size := by have := hg4.size; omega
      have hK4 : KeptBut2 b v.ownBlock w w4 := (HK1.out.2.2.below hb3).grown hg4 (by
        rcases HK1.out.2.1 with h | h
        · exact .inl h
        · exact .inr h)
      refine hK.out _ _ hR4 (fun _ => hL4.c27) ?_
      clear hK
      have HF : Hid (LookAt w4 b v' ∧ w4.ownsRow 0 52 1 (.slice (some ⟨r, 0, none⟩) (m + k + 1) cap') (m + k + 1) ((ps ++ qs) ++ [Value.pointer (some ⟨wr.heap.size + 1, 0, none⟩)]) ∧ KeptBut2 b v.ownBlock w w4 ∧ (v'.ownBlock = some r ∨ r = wr.heap.size + 3)) := ⟨hL4, ho4, hK4, hr4⟩
      have HE4 : Hid (_) := hE4
      have hf4 := hL4.fr 27
      have hc4 := hL4.c27
      have hb4 : b < w4.heap.size := hL4.lt
      clear ho4 hg4 hr4 hK4 hE4 hL1 hR1 hb3 hB3 hE3 hR3 hP3 hz3 hvl
      try simp only [Act.put, List.getElem_toArray, List.getElem_cons_succ, List.getElem_cons_zero, List.setIfInBounds_toArray, List.set_cons_zero, List.set_cons_succ]
      refine wpAnyG_step (i := 11) (by kernel_rfl) rfl (fun K hK => ?_)
      go_simp
      refine hK.out _ _ hR4 (fun _ => hc4) ?_
      clear hK
      try simp only [Act.put, List.getElem_toArray, List.getElem_cons_succ, List.getElem_cons_zero, List.setIfInBounds_toArray, List.set_cons_zero, List.set_cons_succ]
      refine wpAnyG_step (i := 12) (by kernel_rfl) rfl (fun K hK => ?_)
      go_simp
      refine hK.out _ _ hR4 (fun _ => hc4) ?_
      clear hK
      try simp only [Act.put, List.getElem_toArray, List.getElem_cons_succ, List.getElem_cons_zero, List.setIfInBounds_toArray, List.set_cons_zero, List.set_cons_succ]
      refine wpAnyG_step (i := 13) (by kernel_rfl) rfl (fun K hK => ?_)
      go_simp
      refine hK.out _ _ (rangeAt_set hR4 _ _ _ (by omega)) (fun h => not_early (by kernel_rfl) h) ?_
      clear hK
      try simp only [Act.put, List.getElem_toArray, List.getElem_cons_succ, List.getElem_cons_zero, List.setIfInBounds_toArray, List.set_cons_zero, List.set_cons_succ]
      refine wpAnyG_done (by kernel_rfl) ?_ _
      refine NoPanic.normal ?_
      clear hR4 hf4 hc4
      go_wp2
      go_roundw
      case rel =>
        refine ⟨k + 1, .slice (some ⟨r, 0, none⟩) (m + k + 1) cap', qs ++ [.pointer (some ⟨wr.heap.size + 1, 0, none⟩)], by omega, by go_num, by simp [HK1.out.1], ?_, ?_, HF.out.2.2.1.set _ _⟩
        · rw [← List.append_assoc, ← Nat.add_assoc]
          exact boot_set HF.out.1 HF.out.2.1 HE4.out
        · rcases HF.out.2.2.2 with h | h
          · rcases HK1.out.2.1 with h' | h'
            · exact .inl (by rw [← h']; exact h.symm)
            · exact .inr (fun x hx => h' x (by rw [h]; exact hx))
          · exact .inr (fun x hx => by simp only [Value.ownBlock, Option.some.injEq] at hx; omega)
      case measure => simp [intOf]; omega
    · go_wp2
      go_end0
      have hkn : k = n := by omega
      subst hkn
      exact ⟨rfl, ⟨v', qs, HK1.out.1, HB1.out, HK1.out.2.1⟩, HK1.out.2.2⟩
end Go.Proofs.Qxb6608884aDoor
