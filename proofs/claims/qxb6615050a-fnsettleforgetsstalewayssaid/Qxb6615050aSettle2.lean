/-
  The contracts of settle (28), ZZsettle (13), ZZaddLiteral (18).
-/
import Derived.Test.Qxb6615050aSettle
namespace Go.Proofs.Qxb6615050a
open Go.RowKit

theorem settle_any {w : World} {b : Nat} {x : Int} {p : Option Addr} {a : Option Addr} {n c : Nat} {q : Option Addr} (hN : NodeAt w b x p (.slice a n c) q) (_hn : n ≤ 4096) :
    Calls Try.prog 28 #[.pointer (some ⟨b, 0, none⟩)] w fun e w' => e = .returned (.tuple #[]) ∧ NodeAt w' b (wv q.isSome p.isSome n) p (.slice a n c) q ∧ Only b w w' := by
  have o1 : bits BinOp.or IntKind.u8 0 1 = 1 := by decide
  have o2 : bits BinOp.or IntKind.u8 0 2 = 2 := by decide
  have o3 : bits BinOp.or IntKind.u8 1 2 = 3 := by decide
  have h0 := hN.c0
  have h1 := hN.c1
  have h3 := hN.c3
  have h5 := hN.c5
  have hf := hN.fr 0
  have hb := hN.lt
  have HN : Hid (NodeAt w b x p (.slice a n c) q) := hN
  clear hN
  cases q with
  | some q =>
    have HV : Hid (wv (some q).isSome p.isSome n = 0) := by simp [Hid, wv]
    go_enter Try.func28, Try.ntmps28
    go_wp2
    refine bodyPost_ret (results_none rfl _ _ _) rfl ?_
    exact ⟨rfl, by rw [HV.out]; exact HN.out.set0 0, (Only.refl _ _).set 0 _⟩
  | none =>
    by_cases hn0 : 0 < n
    · cases p with
      | some p =>
        have HV : Hid (wv (none : Option Addr).isSome (some p).isSome n = 3) := by simp [Hid, wv, hn0]
        go_enter Try.func28, Try.ntmps28
        go_wp2
        go_end0
        exact ⟨rfl, by rw [HV.out]; exact ((HN.out.set0 0).set0 1).set0 3, (((Only.refl _ _).set 0 _).set 0 _).set 0 _⟩
      | none =>
        have HV : Hid (wv (none : Option Addr).isSome (none : Option Addr).isSome n = 1) := by simp [Hid, wv, hn0]
        go_enter Try.func28, Try.ntmps28
        go_wp2
        go_end0
        exact ⟨rfl, by rw [HV.out]; exact ((HN.out.set0 0).set0 1), ((Only.refl _ _).set 0 _).set 0 _⟩
    · cases p with
      | some p =>
        have HV : Hid (wv (none : Option Addr).isSome (some p).isSome n = 2) := by simp [Hid, wv, hn0]
        go_enter Try.func28, Try.ntmps28
        go_wp2
        go_end0
        exact ⟨rfl, by rw [HV.out]; exact ((HN.out.set0 0).set0 2), ((Only.refl _ _).set 0 _).set 0 _⟩
      | none =>
        have HV : Hid (wv (none : Option Addr).isSome (none : Option Addr).isSome n = 0) := by simp [Hid, wv, hn0]
        go_enter Try.func28, Try.ntmps28
        go_wp2
        go_end0
        exact ⟨rfl, by rw [HV.out]; exact HN.out.set0 0, (Only.refl _ _).set 0 _⟩

theorem zzsettle_any {w : World} {b : Nat} {x : Int} {p : Option Addr} {a : Option Addr} {n c : Nat} {q : Option Addr} (hN : NodeAt w b x p (.slice a n c) q) (hn : n ≤ 4096) :
    Calls Try.prog 13 #[.pointer (some ⟨b, 0, none⟩)] w fun e w' => e = .returned (.tuple #[]) ∧ NodeAt w' b (wv q.isSome p.isSome n) p (.slice a n c) q ∧ Only b w w' := by
  have HN : Hid (NodeAt w b x p (.slice a n c) q) := hN
  clear hN
  go_enter Try.func13, Try.ntmps13
  go_wp2_with fail
  refine (settle_any HN.out hn).mono ?_
  rintro e w' ⟨rfl, h1, h2⟩
  have H1 : Hid _ := h1
  have H2 : Hid _ := h2
  clear h1 h2
  go_wp2_with fail
  go_end0
  exact ⟨rfl, H1.out, H2.out⟩

theorem Try.info29 : (Try.prog.info? 29).map (fun i => (i.zero, i.size, i.bytes)) = some (some (.pointer none), 1, 8) := by kernel_rfl

theorem addLiteral_any {w : World} {b : Nat} {x : Int} {p : Option Addr} {v : Value} {q : Option Addr} {n : Nat} {xs : List Value} (hN : NodeAt w b x p v q) (ho : w.ownsRow (b + 1) 29 1 v n xs) (hn : n ≤ 4096) :
    Calls Try.prog 18 #[.pointer (some ⟨b, 0, none⟩)] w fun e w' => e = .returned (.tuple #[]) ∧ (∃ v' xs', NodeAt w' b x p v' q ∧ w'.ownsRow (b + 1) 29 1 v' (n + 1) xs') ∧ Below b w w' := by
  obtain ⟨i0, hi, hz0, hz1, hz2⟩ := info_parts Try.info29
  have h3 := hN.c3
  have hf := hN.fr 3
  have hb := hN.lt
  have HN : Hid (NodeAt w b x p v q) := hN
  clear hN
  have HO : Hid (w.ownsRow (b + 1) 29 1 v n xs) := ho
  clear ho
  have hex : ∃ a c, v = .slice a n c := by
    rcases HO.out.2 with ⟨rfl, rfl⟩ | ⟨g, cap, cur, rfl, _⟩
    · exact ⟨_, _, rfl⟩
    · exact ⟨_, _, rfl⟩
  obtain ⟨a, c, rfl⟩ := hex
  go_enter Try.func18, Try.ntmps18
  go_wp2_with (at_builtin; refine wpList_append_own _ rfl (.tmp 7) (.tmp 10) 46 rfl (b + 1) 29 i0 (.pointer none) 1 8 Try.underlying46 hi hz0 hz1 hz2 rfl (by decide) _ _ _ rfl ((HO.out.alloc _).alloc _) ⟨w.heap.size + 1, 0, none⟩ 1 1 [.pointer (some ⟨w.heap.size, 0, none⟩)] rfl rfl ?c1 ?c2 ?c3 ?c4 ?c5 ?_)
  case c1 =>
    intro j u hj
    match j, hj with
    | 0, hj => simp at hj; subst hj; simp [Addr.add, World.cell?_alloc_at]
  case c2 => intro u hu; simp at hu; subst hu; rfl
  case c3 => unfold maxLen; omega
  case c4 => omega
  case c5 => simp; omega
  intro v' w1 ho' hg' _
  have hne : ∀ k, (Value.slice a n c).ownBlock = some k → b + 1 ≤ k := fun k hk => (HO.out.lt k hk).1
  have hN1 : NodeAt w1 b x p (.slice a n c) q := by
    refine ((HN.out.alloc _).alloc _).same (hg'.block b (by simp; omega) ?_)
    intro e
    have := hne b e.symm
    omega
  have hB : Below b w w1 := ((Below.refl _ _).alloc (by omega) _ |>.alloc (by simp; omega) _).grown hg' (by simp; omega) (fun k hk => by have := hne k hk; omega)
  have hex : ∃ a' c', v' = .slice a' (n + 1) c' := by
    rcases ho'.2 with ⟨_, h⟩ | ⟨g, cap, cur, h, _⟩
    · omega
    · exact ⟨_, _, h⟩
  obtain ⟨a', c', hv⟩ := hex
  have hs := hg'.size
  simp only [World.size_alloc] at hs
  have g3 := hN1.c3
  have gf := hN1.fr 3
  have gb := hN1.lt
  have HN1 : Hid (NodeAt w1 b x p (.slice a n c) q) := hN1
  have HB : Hid (Below b w w1) := hB
  rw [hv] at ho' ⊢
  have HO1 : Hid (w1.ownsRow (b + 1) 29 1 (.slice a' (n + 1) c') (n + 1) (xs ++ [.pointer (some ⟨w.heap.size, 0, none⟩)])) := ho'
  clear ho' hg' hN1 hB hne h3 hf hi hz0 hz1 hz2 hv
  go_wp2
  go_end0
  exact ⟨rfl, ⟨_, _, HN1.out.set3 _, ownsRow_only HO1.out ((Only.refl b w1).set 3 _)⟩, HB.out.trans (((Only.refl b w1).set 3 _).below (Nat.le_refl _))⟩
end Go.Proofs.Qxb6615050a
