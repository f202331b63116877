/-
  The walk of the law 'FnBootstrapKeepsEarlierEntries' (4).
-/
import Derived.Test.Qxb6608884aDoorSplit
import Derived.ArgAppend
import Derived.BigQuiet
namespace Go.Proofs.Qxb6608884aDoor
open Go.RowKit
set_option linter.unusedVariables false
set_option linter.unusedSimpArgs false

set_option maxRecDepth 100000 in
set_option maxHeartbeats 1000000 in
/-- The ways out ahead of the law's work. -/
theorem keeps_out (t : Nat → Int) (k : Int) (a b : Option Addr) (n c m d : Nat) (w : World) (h : 4096 < (n : Int) ∨ ((n : Int) ≤ 4096 ∧ 4096 < (m : Int)) ∨ ((n : Int) ≤ 4096 ∧ (m : Int) ≤ 4096 ∧ k < 1) ∨ ((n : Int) ≤ 4096 ∧ (m : Int) ≤ 4096 ∧ 1 ≤ k ∧ 20 < k)) :
    Calls Tryd.prog 4 #[.agg (idA t), .int .i64 k, .slice a n c, .slice b m d] w fun e w' => e = .returned (.bool true) ∧ Below w.heap.size w w' := by
  have HG : Hid ((w.alloc (.cells (idA t) 22)).heap[w.heap.size]? = some (.cells (idA t) 22 (0, 0))) := heap_alloc_new _ _
  rcases h with h1 | ⟨h1, h2⟩ | ⟨h1, h2, h3⟩ | ⟨h1, h2, h3, h4⟩
  all_goals
    go_enter Tryd.func4, Tryd.ntmps4
    go_wp2_with (refine wpList_load_row rfl 22 (.tmp 4) rfl w.heap.size rfl 22 (idA t) (0, 0) _ HG.out Tryd.underlying22 rfl Tryd.size22 ?_)
    refine (bytes12_any t k a b n c m d _).mono ?_
    rintro e w1 ⟨⟨r, rfl⟩, hb⟩
    have HB : Hid (Below w.heap.size w w1) := ((Below.refl _ _).alloc (Nat.le_refl _) _).trans (hb.mono (by simp))
    clear hb
    cases r
    · go_wp2_with fail
      go_ret
      exact ⟨rfl, HB.out⟩
    · go_wp2_with fail
      go_ret
      exact ⟨rfl, HB.out⟩

/-- A copy of the entries' row. -/
def Copy (w : World) (base : Nat) (v : Value) (n : Nat) (ps : List Value) : Prop := (∃ a c, v = .slice a n c) ∧ (0 < n → w.ownsRow base 52 1 v n ps)

/-- 'append(x[:0:0], x...)', x a row of the law's own. -/
theorem wpList_append_copy {w : World} {ops : Array Oper} {rest : List Oper} {o : Oper} {a : Act} {Q : Exit → Act → World → Prop} (hgd : o.guard = none) (s x : Operand)
    (ho : o.op = .call { callee := .builtin .append, args := #[s, x], argTypes := #[50, 50] })
    (i : TypeInfo) (hi : Tryd.prog.info? 52 = some i) (hz : i.zero = some (.pointer none)) (hsize : i.size = 1) (hby : i.bytes = 8)
    (ad : Option Addr) (n c : Nat) (ps : List Value) (hs : a.eval s = .slice ad 0 0) (hx : a.eval x = .slice ad n c) (hown : w.ownsRow 0 52 1 (.slice ad n c) n ps) (h1 : ∀ u ∈ ps, u.oneCell' = true) (hn : n ≤ 8192)
    (h : ∀ v' w', Copy w' w.heap.size v' n ps → w.grownBy w' none → wpList Tryd.prog ops Q rest (a.put o.dst v') w') : wpList Tryd.prog ops Q (o :: rest) a w := by
  have hown' := hown
  rcases hown.2 with ⟨hu, hm⟩ | ⟨g, cap, cur, hu, _⟩
  · subst hm
    injection hu with h1 h2 h3
    subst h1 h3
    exact wpList_append_own_none hgd s x 50 ho 0 52 i 1 Tryd.underlying50 hi (.slice none 0 0) 0 [] hs (World.ownsRow_nil _ _ _ _) hx (h _ w ⟨⟨_, _, rfl⟩, fun h => absurd h (by omega)⟩ ⟨rfl, rfl, rfl, Nat.le_refl _, fun _ _ _ => rfl⟩)
  · injection hu with h1 h2 h3
    subst h1 h3
    refine wpList_append_arg w hgd s x 50 ho 52 i (.pointer none) 1 8 Tryd.underlying50 hi hz hsize hby rfl (by decide) g 0 0 0 [] hs rfl (fun j u hj => by simp at hj) ⟨g, 0, none⟩ n c ps hx hown.1 (hown'.cells rfl) ‹_› ?_ (by unfold maxLen; omega) (by omega) ?_ ?_
    · intro h0 j hj
      have := hown.1
      omega
    · intro h0
      have h00 : n = 0 := by omega
      subst h00
      have hp : ps = [] := List.eq_nil_of_length_eq_zero (by have := hown.1; omega)
      subst hp
      exact h _ w ⟨⟨_, _, rfl⟩, fun h => absurd h (by omega)⟩ ⟨rfl, rfl, rfl, Nat.le_refl _, fun _ _ _ => rfl⟩
    · intro h0 v' w' hv hg
      rw [Nat.zero_add, List.nil_append] at hv
      refine h v' w' ⟨?_, fun _ => hv⟩ hg
      rcases hv.2 with ⟨rfl, rfl⟩ | ⟨g', cap', cur', rfl, _⟩
      · exact ⟨_, _, rfl⟩
      · exact ⟨_, _, rfl⟩
end Go.Proofs.Qxb6608884aDoor
