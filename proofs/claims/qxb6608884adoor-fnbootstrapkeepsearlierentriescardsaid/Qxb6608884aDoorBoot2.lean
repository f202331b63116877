/-
  The walks of ZZbootstrap (8), ZZbootLen (9), ZZbootAt (11), ZZbootEntries (13).
-/
import Derived.Test.Qxb6608884aDoorBootWalk
namespace Go.Proofs.Qxb6608884aDoor
open Go.RowKit
set_option linter.unusedVariables false
set_option linter.unusedSimpArgs false

theorem boot_none {w : World} {b : Nat} :
    Calls Tryd.prog 15 #[.pointer (some ⟨b, 0, none⟩), .slice none 0 0] w fun e w' => e = .returned (.tuple #[]) ∧ w' = w := by
  go_enter Tryd.func15, Tryd.ntmps15
  go_wp2
  refine wp_loop_rounds 1 ?_
  rw [rounds_succ]
  go_wp2
  go_end0
  exact ⟨rfl, rfl⟩

/-- What a bootstrap does. -/
def Booted (w : World) (b : Nat) (v : Value) (m n : Nat) (D E : Nat → AddrD) (z6 z4 : Option Addr) (ps : List Value) (w' : World) : Prop :=
  (∃ v' qs, qs.length = n ∧ Boot w' b v' (m + n) (joinD m D E) z6 z4 (ps ++ qs) ∧ (v'.ownBlock = v.ownBlock ∨ ∀ r, v'.ownBlock = some r → w.heap.size ≤ r)) ∧ KeptBut2 b v.ownBlock w w'

theorem boot_any {w : World} {b n m : Nat} {v sv : Value} {D E : Nat → AddrD} {z6 z4 : Option Addr} {ps : List Value} (hB : Boot w b v m D z6 z4 ps) (hR : w.ownsRow 0 42 4 sv n (aps z6 z4 E n)) (hm : m ≤ 8192) (hn : n ≤ 8192) :
    Calls Tryd.prog 15 #[.pointer (some ⟨b, 0, none⟩), sv] w fun e w' => e = .returned (.tuple #[]) ∧ Booted w b v m n D E z6 z4 ps w' := by
  have hR' := hR
  rcases hR.2 with ⟨rfl, rfl⟩ | ⟨g, cap, cur, rfl, _⟩
  · refine boot_none.mono fun e w' ⟨he, hw⟩ => ⟨he, ?_⟩
    subst hw
    exact ⟨⟨v, [], rfl, by rw [List.append_nil]; exact ⟨hB.look, hB.own, fun i hi => by have := hB.ent i hi; simpa [joinD, show i < m from hi] using this⟩, .inl rfl⟩, KeptBut2.refl _ _ _⟩
  · exact boot_some hB hR' hm hn

theorem zzboot_any {w : World} {b n m : Nat} {v sv : Value} {D E : Nat → AddrD} {z6 z4 : Option Addr} {ps : List Value} (hB : Boot w b v m D z6 z4 ps) (hR : w.ownsRow 0 42 4 sv n (aps z6 z4 E n)) (hm : m ≤ 8192) (hn : n ≤ 8192) :
    Calls Tryd.prog 8 #[.pointer (some ⟨b, 0, none⟩), sv] w fun e w' => e = .returned (.tuple #[]) ∧ Booted w b v m n D E z6 z4 ps w' := by
  have HB : Hid (Boot w b v m D z6 z4 ps) := hB
  have HR : Hid (w.ownsRow 0 42 4 sv n (aps z6 z4 E n)) := hR
  clear hB hR
  go_enter Tryd.func8, Tryd.ntmps8
  go_wp2_with fail
  refine (boot_any HB.out HR.out hm hn).mono ?_
  rintro e w1 ⟨rfl, h⟩
  have H : Hid (Booted w b v m n D E z6 z4 ps w1) := h
  clear h
  go_wp2_with fail
  go_end0
  exact ⟨rfl, H.out⟩

theorem bootLen_any {w : World} {b m : Nat} {v : Value} {D : Nat → AddrD} {z6 z4 : Option Addr} {ps : List Value} (hB : Boot w b v m D z6 z4 ps) :
    Calls Tryd.prog 9 #[.pointer (some ⟨b, 0, none⟩)] w fun e w' => e = .returned (.int .i64 (m : Int)) ∧ w' = w := by
  have hc := hB.look.c27
  obtain ⟨a, c, rfl⟩ : ∃ a c, v = .slice a m c := by
    rcases hB.own.2 with ⟨rfl, rfl⟩ | ⟨g, cap, cur, rfl, _⟩
    · exact ⟨_, _, rfl⟩
    · exact ⟨_, _, rfl⟩
  clear hB
  go_enter Tryd.func9, Tryd.ntmps9
  go_wp2
  go_ret
  exact ⟨rfl, rfl⟩

theorem bootEntries_any {w : World} {b m : Nat} {v : Value} {D : Nat → AddrD} {z6 z4 : Option Addr} {ps : List Value} (hB : Boot w b v m D z6 z4 ps) :
    Calls Tryd.prog 13 #[.pointer (some ⟨b, 0, none⟩)] w fun e w' => e = .returned v ∧ w' = w := by
  have hc := hB.look.c27
  clear hB
  go_enter Tryd.func13, Tryd.ntmps13
  go_wp2
  go_ret
  exact ⟨rfl, rfl⟩

theorem Tryd.size48 : (Tryd.prog.info? 48).map (·.size) = some 24 := by kernel_rfl
theorem con_ent (d : AddrD) (z6 z4 : Option Addr) : d.con z6 z4 = (d.ent z6 z4).extract 0 (0 + 24) := by kernel_rfl
theorem ent_range {w : World} {e : Nat} {d : AddrD} {z6 z4 : Option Addr} (h : w.heap[e]? = some (.cells (d.ent z6 z4) 68 (0, 0))) : w.rangeAt e 0 (d.con z6 z4).toList := by
  rw [con_ent]; exact World.rangeAt_of_block h 0 24

/-- A result that lies in a row of cells. -/
theorem results_cell1 {fn : Func} {p : Tmp} {ty : TypeId} (h : fn.results = #[.cell p ty]) {tmps : Array Value} {w : World} {b o : Nat} (cs : List Value) (d : TypeDesc) (hp : tmps[p]?.getD undef = .pointer (some ⟨b, o, none⟩)) (hc : w.rangeAt b o cs)
    (hu : Tryd.prog.underlying ty = some d) (hd : d.isRow = true) (hi : (Tryd.prog.info? ty).map (·.size) = some cs.length) : (results fn tmps).run Tryd.prog w = .ok (.agg cs.toArray) w := by
  simp only [results, h]
  simp [Sem.run_bind, Result.andThen, hp, asAddr, run_loadVar_mid w b o ty cs d hc hu hd hi]

theorem results_cellA {fn : Func} {p : Tmp} {ty : TypeId} (h : fn.results = #[.cell p ty]) {tmps : Array Value} {w : World} {b o : Nat} (C : Array Value) (d : TypeDesc) (hp : tmps[p]?.getD undef = .pointer (some ⟨b, o, none⟩)) (hc : w.rangeAt b o C.toList)
    (hu : Tryd.prog.underlying ty = some d) (hd : d.isRow = true) (hi : (Tryd.prog.info? ty).map (·.size) = some C.size) : (results fn tmps).run Tryd.prog w = .ok (.agg C) w := by
  have := results_cell1 h C.toList d hp hc hu hd (by simpa using hi)
  rwa [Array.toArray_toList] at this

/-- Twenty-four fresh cells. -/
theorem there_new (w : World) (C : Array Value) (t : TypeId) : (w.alloc (.cells C t)).there w.heap.size 0 C.size := fun j hj => by
  rw [Nat.zero_add, World.cell?_alloc_at _ _ _ _ rfl, World.frozen?_alloc_at _ _ _ _ rfl]
  simp [Array.getElem?_eq_getElem hj]
theorem con_one (d : AddrD) (z6 z4 : Option Addr) : (d.con z6 z4).all (·.oneCell') = true := by kernel_rfl
theorem below_setCells {B : Nat} {a : World} {b : Nat} (hb : B ≤ b) : ∀ (vs : List Value) (o : Nat) {w : World}, Below B a w → Below B a (w.setCells b o vs)
  | [], _, _, h => h
  | v :: vs, o, w, h => below_setCells hb vs (o + 1) (h.setCell (p := ⟨b, o, none⟩) hb v)

def zero48 : Array Value := #[.int .u8 0, .int .u8 0, .int .u8 0, .int .u8 0, .int .u8 0, .int .u8 0, .int .u8 0, .int .u8 0, .int .u8 0, .int .u8 0, .int .u8 0, .int .u8 0, .int .u8 0, .int .u8 0, .int .u8 0, .int .u8 0, .int .u8 0, .int .u8 0, .int .u8 0, .int .u8 0, .int .u64 0, .int .u64 0, .pointer none, .int .u16 0]

set_option maxRecDepth 100000 in
set_option maxHeartbeats 1000000 in
theorem bootAt_any {w : World} {b m : Nat} {v : Value} {D : Nat → AddrD} {z6 z4 : Option Addr} {ps : List Value} (hB : Boot w b v m D z6 z4 ps) (k : Nat) (hk : k < m) (hm : m ≤ 16384) :
    Calls Tryd.prog 11 #[.pointer (some ⟨b, 0, none⟩), .int .i64 (k : Int)] w fun e w' => e = .returned (.agg ((D k).con z6 z4)) ∧ Below w.heap.size w w' := by
  have hc := hB.look.c27
  obtain ⟨e, hp, he⟩ := hB.ent k hk
  have hbl := hB.look.lt
  rcases hB.own.2 with ⟨rfl, rfl⟩ | ⟨g, cap, cur, rfl, _, hg, _⟩
  · omega
  have hgc : w.cell? ⟨g, k, none⟩ = some (.pointer (some ⟨e, 0, none⟩)) := by rw [hB.own.cellAt k (by omega)]; exact hp
  have hgl : g < w.heap.size := lt_of_some hg
  have HE : Hid (w.rangeAt e 0 ((D k).con z6 z4).toList) := ent_range he
  have hel : e < w.heap.size := lt_of_some he
  have hkm : (k : Int) < (m : Int) := by omega
  clear hB hp he hg
  go_enter Tryd.func11, Tryd.ntmps11
  go_wp2_with (first
    | (refine wpList_load_mid rfl 48 (.tmp 13) rfl e 0 rfl ((D k).con z6 z4).toList _ (World.rangeAt_alloc HE.out _) Tryd.underlying48 rfl Tryd.size48 ?_)
    | (refine wpList_store_mid rfl 48 (.tmp 4) (.tmp 14) rfl w.heap.size 0 ((D k).con z6 z4) rfl rfl (there_new _ _ _) Tryd.size48 (con_one _ _ _) ?_))
  refine bodyPost_ret (v := .agg ((D k).con z6 z4)) ?_ rfl ⟨rfl, ?_⟩
  · refine results_cellA (b := w.heap.size) (o := 0) Tryd.results11 ((D k).con z6 z4) _ ?_ ?_ Tryd.underlying48 rfl Tryd.size48
    · rfl
    · exact World.rangeAt_setCells_same (w.alloc (.cells zero48 48)) w.heap.size 0 ((D k).con z6 z4).toList (there_new w zero48 48)
  · exact below_setCells (Nat.le_refl _) _ _ ((Below.refl _ _).alloc (Nat.le_refl _) _)
end Go.Proofs.Qxb6608884aDoor
