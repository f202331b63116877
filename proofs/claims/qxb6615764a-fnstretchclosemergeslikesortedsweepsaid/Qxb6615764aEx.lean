/-
  Single operations of a region, whatever the frame holds beside their operands.
-/
import Derived.Test.Qxb6615764aFill
namespace Go.Proofs.Qxb6615764a
open Go.RowKit
set_option linter.unusedVariables false

theorem ex_move {ρ : Operand → Value} {o : Oper} {x : Operand} {v : Value} {w : World} (hop : o.op = .move x) (hx : ρ x = v) : (execOp ρ o).run Try.prog w = .ok (.value v) w := by
  simp [execOp, hop, hx]
theorem ex_assign {ρ : Operand → Value} {o : Oper} {x : Operand} {v : Value} {w : World} (hop : o.op = .assign x) (hx : ρ x = v) : (execOp ρ o).run Try.prog w = .ok (.value v) w := by
  simp [execOp, hop, hx]
theorem ex_nil {ρ : Operand → Value} {o : Oper} {x : Operand} {a : Addr} {w : World} (hop : o.op = .nilCheck x) (hx : ρ x = .pointer (some a)) : (execOp ρ o).run Try.prog w = .ok (.value (.pointer (some a))) w := by
  simp [execOp, hop, hx]
theorem ex_f62_0 {ρ : Operand → Value} {o : Oper} {x : Operand} {b : Nat} {w : World} (hop : o.op = .fieldAddr 62 x 0) (hx : ρ x = .pointer (some ⟨b, 0, none⟩)) : (execOp ρ o).run Try.prog w = .ok (.value (.pointer (some ⟨b, 0, none⟩))) w := by
  unfold execOp; rw [hop]; simp only [hx]; go_simp
theorem ex_f62_1 {ρ : Operand → Value} {o : Oper} {x : Operand} {b : Nat} {w : World} (hop : o.op = .fieldAddr 62 x 1) (hx : ρ x = .pointer (some ⟨b, 0, none⟩)) : (execOp ρ o).run Try.prog w = .ok (.value (.pointer (some ⟨b, 1, none⟩))) w := by
  unfold execOp; rw [hop]; simp only [hx]; go_simp
theorem ex_load59 {ρ : Operand → Value} {o : Oper} {x : Operand} {a : Addr} {w : World} {v : Value} (hop : o.op = .load 59 x) (hx : ρ x = .pointer (some a)) (hc : w.cell? a = some v) : (execOp ρ o).run Try.prog w = .ok (.value v) w := by
  unfold execOp; rw [hop]; simp only [hx]; go_simp
theorem ex_load60 {ρ : Operand → Value} {o : Oper} {x : Operand} {a : Addr} {w : World} {v : Value} (hop : o.op = .load 60 x) (hx : ρ x = .pointer (some a)) (hc : w.cell? a = some v) : (execOp ρ o).run Try.prog w = .ok (.value v) w := by
  unfold execOp; rw [hop]; simp only [hx]; go_simp
theorem ex_load46 {ρ : Operand → Value} {o : Oper} {x : Operand} {a : Addr} {w : World} {v : Value} (hop : o.op = .load 46 x) (hx : ρ x = .pointer (some a)) (hc : w.cell? a = some v) : (execOp ρ o).run Try.prog w = .ok (.value v) w := by
  unfold execOp; rw [hop]; simp only [hx]; go_simp
theorem ex_load55 {ρ : Operand → Value} {o : Oper} {x : Operand} {a : Addr} {w : World} {v : Value} (hop : o.op = .load 55 x) (hx : ρ x = .pointer (some a)) (hc : w.cell? a = some v) : (execOp ρ o).run Try.prog w = .ok (.value v) w := by
  unfold execOp; rw [hop]; simp only [hx]; go_simp
theorem ex_index59 {ρ : Operand → Value} {o : Oper} {x y : Operand} {b n c k : Nat} {w : World} (hop : o.op = .indexAddr 59 x y) (hx : ρ x = .slice (some ⟨b, 0, none⟩) n c) (hy : ρ y = .int .i64 (k : Int)) (hk : (k : Int) < (n : Int)) : (execOp ρ o).run Try.prog w = .ok (.value (.pointer (some ⟨b, k, none⟩))) w := by
  unfold execOp; rw [hop]; simp only [hx, hy]; go_simp
theorem ex_index60 {ρ : Operand → Value} {o : Oper} {x y : Operand} {b n c k : Nat} {w : World} (hop : o.op = .indexAddr 60 x y) (hx : ρ x = .slice (some ⟨b, 0, none⟩) n c) (hy : ρ y = .int .i64 (k : Int)) (hk : (k : Int) < (n : Int)) : (execOp ρ o).run Try.prog w = .ok (.value (.pointer (some ⟨b, k, none⟩))) w := by
  unfold execOp; rw [hop]; simp only [hx, hy]; go_simp
theorem ex_sub1 {ρ : Operand → Value} {o : Oper} {x : Operand} {i j : Nat} {w : World} (hop : o.op = .binOp .sub 3 x (.const (.int .i64 1)) 3) (hx : ρ x = .int .i64 (i : Int)) (hc : ρ (.const (.int .i64 1)) = .int .i64 1) (hj : (i : Int) - 1 = (j : Int)) (h64 : (j : Int) ≤ 1000) : (execOp ρ o).run Try.prog w = .ok (.value (.int .i64 (j : Int))) w := by
  have hw : IntKind.i64.wrap (j : Int) = (j : Int) := by rw [IntKind.wrap_i64]; omega
  unfold execOp; rw [hop]; simp only [hx, hc]; go_simp
theorem ex_len60 {ρ : Operand → Value} {o : Oper} {x : Operand} {a : Option Addr} {n c : Nat} {w : World} (hop : o.op = .call { callee := .builtin .len, args := #[x], argTypes := #[60] }) (hx : ρ x = .slice a n c) : (execOp ρ o).run Try.prog w = .ok (.value (.int .i64 (n : Int))) w := by
  unfold execOp; rw [hop]; simp [resolve, hx]; go_simp
section
variable {P : Program} {ops : Array Oper} {Q : Exit → Act → World → Prop} {md : Region.Mode} {A B : World → Prop} {late : List Nat}
/-- wpAnyG_takeB, the frame and the list of what has come up laid out. -/
theorem takeB {i : Nat} {oi : Oper} {v : Value} {d : Nat} {fuel : Nat} {listed listed' : Array Bool} {l : List Value} {ds : List _} {w : World} (hi : ops[i]? = some oi) (hd : oi.dst = some d) (hll : listed.setIfInBounds i true = listed')
    (hs : Region.noSelect ops = true) (hf : Region.free md ops listed i = true) (hr : (Region.ready md ops listed).contains i = true)
    (hl : late.contains i = false) (hg : oi.guard = none)
    (hQ : ∀ c a w, Q (.panic c) (a.put oi.dst v) w → Q (.panic c) a w) (hA : Early late listed → A w) (hB : B w) (hy : ∀ w, B w → (execOp (⟨l.toArray, ds⟩ : Act).eval oi).run P w = .ok (.value v) w)
    (h : wpAnyG P md ops Q A B late fuel listed' ⟨(l.set d v).toArray, ds⟩ w) : wpAnyG P md ops Q A B late (fuel + 1) listed ⟨l.toArray, ds⟩ w := by
  refine wpAnyG_takeB (i := i) (v := v) hi hs hf hr hl hQ hA hB (Or.inl ⟨by simp [Region.wanted, hg], hy⟩) ?_
  rw [hll, hd]
  have e : (⟨l.toArray, ds⟩ : Act).put (some d) v = ⟨(l.set d v).toArray, ds⟩ := by simp [Act.put]
  rw [e]
  exact h
theorem takeA {i : Nat} {oi : Oper} {v : Value} {d : Nat} {fuel : Nat} {listed listed' : Array Bool} {l : List Value} {ds : List _} {w : World} (hi : ops[i]? = some oi) (hd : oi.dst = some d) (hll : listed.setIfInBounds i true = listed')
    (hs : Region.noSelect ops = true) (hf : Region.free md ops listed i = true) (hr : (Region.ready md ops listed).contains i = true)
    (hl : (!late.contains i && late.all (waitsB md ops i) && earlyB late listed) = true) (hg : oi.guard = none)
    (hQ : ∀ c a w, Q (.panic c) (a.put oi.dst v) w → Q (.panic c) a w) (hA : A w) (hB : B w) (hy : ∀ w, A w ∧ B w → (execOp (⟨l.toArray, ds⟩ : Act).eval oi).run P w = .ok (.value v) w)
    (h : wpAnyG P md ops Q A B late fuel listed' ⟨(l.set d v).toArray, ds⟩ w) : wpAnyG P md ops Q A B late (fuel + 1) listed ⟨l.toArray, ds⟩ w := by
  refine wpAnyG_take (i := i) (v := v) hi hs hf hr hl hQ hA hB (Or.inl ⟨by simp [Region.wanted, hg], hy⟩) ?_
  rw [hll, hd]
  have e : (⟨l.toArray, ds⟩ : Act).put (some d) v = ⟨(l.set d v).toArray, ds⟩ := by simp [Act.put]
  rw [e]
  exact h
end
theorem put_lit (l : List Value) (ds : List _) (d : Nat) (v : Value) : (⟨l.toArray, ds⟩ : Act).put (some d) v = ⟨(l.set d v).toArray, ds⟩ := by simp [Act.put]
end Go.Proofs.Qxb6615764a
