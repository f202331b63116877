/-
  The B+ tree: as data, in memory, its order and its sizes. No walk here.
-/
import Derived.Test.Qxb6615764aDel
namespace Go.Proofs.Qxb6615764a
open Go.RowKit
set_option linter.unusedVariables false
set_option linter.unusedSectionVars false

/-- An item: the block of its keyRange, its lower bound (the key), its upper bound. -/
structure It where
  p : Nat
  k : Key
  u : Option Key
def It.ptr (x : It) : Value := .pointer (some ⟨x.p, 0, none⟩)
theorem It.ptr_one (x : It) : x.ptr.oneCell' = true := rfl
theorem ptrs_one (l : List It) : ∀ v ∈ l.map It.ptr, v.oneCell' = true := by
  intro v hv
  obtain ⟨x, _, rfl⟩ := List.mem_map.1 hv
  rfl

/-- A number that bounds the blocks of the trees' keyRanges: those made later may still change. -/
class Bd where
  B : Nat
variable [Bd]
/-- The bytes of a slice lie in a block of bytes. -/
def By (w : World) (v : Value) : Prop := ∀ b, blockOf v = some b → ∃ cur, RowB w b 5 cur
/-- The item's keyRange lies in memory. -/
def KR (w : World) (x : It) : Prop := ∃ fv tv, RowB w x.p 41 [fv, tv] ∧ Bs w fv x.k ∧ Bnd w tv x.u ∧ By w fv ∧ By w tv ∧ x.p < Bd.B
theorem KR.kat {w : World} {x : It} (h : KR w x) : KAt w ⟨x.p, 0, none⟩ x.k := by
  obtain ⟨fv, tv, h1, h2, _⟩ := h
  exact ⟨fv, by rw [h1.cell]; rfl, h2⟩
theorem KR.drewN {w : World} {x : It} (h : KR w x) (n : Nat) : KR (w.drewN n) x := by
  obtain ⟨fv, tv, h1, h2, h3, h4, h5⟩ := h
  exact ⟨fv, tv, h1, h2.drewN n, h3.drewN n, h4, h5⟩

structure Leaf where
  nb : Nat
  ib : Nat
  items : List It
structure Inner (α : Type) where
  nb : Nat
  ib : Nat
  cb : Nat
  seps : List It
  kids : List α
/-- A tree of height h: all leaves at one depth. -/
def Tr : Nat → Type
  | 0 => Leaf
  | h + 1 => Inner (Tr h)
/-- The node's block. -/
def nbOf : (h : Nat) → Tr h → Nat
  | 0, t => Leaf.nb t
  | _ + 1, t => Inner.nb t
def nodeV (h : Nat) (t : Tr h) : Value := .pointer (some ⟨nbOf h t, 0, none⟩)
theorem nodes_one {h : Nat} (l : List (Tr h)) : ∀ v ∈ l.map (nodeV h), v.oneCell' = true := by
  intro v hv
  obtain ⟨x, _, rfl⟩ := List.mem_map.1 hv
  rfl
/-- The blocks that the tree owns. -/
def foot : (h : Nat) → Tr h → List Nat
  | 0, t => [Leaf.nb t, Leaf.ib t]
  | h + 1, t => Inner.nb t :: Inner.ib t :: Inner.cb t :: (Inner.kids t).flatMap (foot h)
/-- Its items, in order. -/
def elems : (h : Nat) → Tr h → List It
  | 0, t => Leaf.items t
  | h + 1, t => (Inner.kids t).flatMap (elems h)
/-- What the sizes bound: items of a leaf, children of an inner node. -/
def sizeT : (h : Nat) → Tr h → Nat
  | 0, t => (Leaf.items t).length
  | _ + 1, t => (Inner.kids t).length

/-- The leaf lies in memory. -/
structure RepL (w : World) (t : Leaf) : Prop where
  node : RowB w t.nb 62 [.slice (some ⟨t.ib, 0, none⟩) t.items.length 64, .slice none 0 0]
  row : ∃ rest, RowB w t.ib 46 (t.items.map It.ptr ++ rest) ∧ t.items.length + rest.length = 64
  kr : ∀ x ∈ t.items, KR w x
/-- The inner node itself lies in memory. -/
structure RepN (w : World) {h : Nat} (t : Inner (Tr h)) : Prop where
  node : RowB w t.nb 62 [.slice (some ⟨t.ib, 0, none⟩) t.seps.length 63, .slice (some ⟨t.cb, 0, none⟩) t.kids.length 64]
  row : ∃ rest, RowB w t.ib 46 (t.seps.map It.ptr ++ rest) ∧ t.seps.length + rest.length = 63
  kidr : ∃ rest, RowB w t.cb 55 (t.kids.map (nodeV h) ++ rest) ∧ t.kids.length + rest.length = 64
  kr : ∀ x ∈ t.seps, KR w x
def Rep : (h : Nat) → World → Tr h → Prop
  | 0, w, t => RepL w t
  | h + 1, w, t => RepN w (h := h) t ∧ ∀ c ∈ Inner.kids t, Rep h w c

/-! ### Order -/
def geL (lo : Option Key) (k : Key) : Prop := match lo with | none => True | some a => a ≤ k
def ltH (k : Key) (hi : Option Key) : Prop := match hi with | none => True | some b => k < b
def leLH (lo hi : Option Key) : Prop := match lo, hi with | some a, some b => a ≤ b | _, _ => True
/-- Children between separators. -/
def Chain {α : Type} (I : α → Option Key → Option Key → Prop) : List It → List α → Option Key → Option Key → Prop
  | [], ks, lo, hi => ∃ k, ks = [k] ∧ I k lo hi
  | s :: ss, ks, lo, hi => ∃ k ks', ks = k :: ks' ∧ I k lo (some s.k) ∧ Chain I ss ks' (some s.k) hi
def Inv : (h : Nat) → Tr h → Option Key → Option Key → Prop
  | 0, t, lo, hi => leLH lo hi ∧ (Leaf.items t).Pairwise (fun a b => a.k < b.k) ∧ ∀ x ∈ Leaf.items t, geL lo x.k ∧ ltH x.k hi
  | h + 1, t, lo, hi => Chain (Inv h) (Inner.seps t) (Inner.kids t) lo hi
/-- Sizes: at least m. -/
def Ok : (h : Nat) → Tr h → Nat → Prop
  | 0, t, m => m ≤ (Leaf.items t).length ∧ (Leaf.items t).length ≤ 64
  | h + 1, t, m => m ≤ (Inner.kids t).length ∧ 2 ≤ (Inner.kids t).length ∧ (Inner.kids t).length ≤ 64 ∧ ∀ c ∈ Inner.kids t, Ok h c 32

theorem Chain.length {α : Type} {I : α → Option Key → Option Key → Prop} : ∀ {ss : List It} {ks : List α} {lo hi : Option Key}, Chain I ss ks lo hi → ks.length = ss.length + 1
  | [], ks, lo, hi, ⟨k, h, _⟩ => by subst h; rfl
  | s :: ss, ks, lo, hi, ⟨k, ks', h, _, hc⟩ => by subst h; simp [Chain.length hc]
theorem Chain.split {α : Type} {I : α → Option Key → Option Key → Prop} {s : It} {S2 : List It} : ∀ {S1 : List It} {ks : List α} {lo hi : Option Key}, Chain I (S1 ++ s :: S2) ks lo hi → ∃ K1 K2, ks = K1 ++ K2 ∧ Chain I S1 K1 lo (some s.k) ∧ Chain I S2 K2 (some s.k) hi
  | [], ks, lo, hi, ⟨k, ks', h, h1, h2⟩ => ⟨[k], ks', by subst h; rfl, ⟨k, rfl, h1⟩, h2⟩
  | a :: S1, ks, lo, hi, ⟨k, ks', h, h1, h2⟩ => by
    obtain ⟨K1, K2, e, c1, c2⟩ := Chain.split h2
    exact ⟨k :: K1, K2, by subst h; rw [e]; rfl, ⟨k, K1, rfl, h1, c1⟩, c2⟩
theorem Chain.join {α : Type} {I : α → Option Key → Option Key → Prop} {s : It} {S2 : List It} {K2 : List α} {hi : Option Key} (h2 : Chain I S2 K2 (some s.k) hi) : ∀ {S1 : List It} {K1 : List α} {lo : Option Key}, Chain I S1 K1 lo (some s.k) → Chain I (S1 ++ s :: S2) (K1 ++ K2) lo hi
  | [], K1, lo, ⟨k, h, hk⟩ => by subst h; exact ⟨k, K2, rfl, hk, h2⟩
  | a :: S1, K1, lo, ⟨k, K1', h, hk, hc⟩ => by subst h; exact ⟨k, K1' ++ K2, rfl, hk, Chain.join h2 hc⟩
theorem leLH.trans {a c : Option Key} {b : Key} (h1 : leLH a (some b)) (h2 : leLH (some b) c) : leLH a c := by
  cases a <;> cases c <;> simp [leLH] at * ; grind
theorem Chain.le {α : Type} {I : α → Option Key → Option Key → Prop} (hI : ∀ k lo hi, I k lo hi → leLH lo hi) : ∀ {ss : List It} {ks : List α} {lo hi : Option Key}, Chain I ss ks lo hi → leLH lo hi
  | [], ks, lo, hi, ⟨k, h, hk⟩ => hI _ _ _ hk
  | s :: ss, ks, lo, hi, ⟨k, ks', h, hk, hc⟩ => (hI _ _ _ hk).trans (Chain.le hI hc)
theorem Inv.le : ∀ {h : Nat} {t : Tr h} {lo hi : Option Key}, Inv h t lo hi → leLH lo hi
  | 0, t, lo, hi, hv => hv.1
  | h + 1, t, lo, hi, hv => Chain.le (fun k lo hi hk => Inv.le hk) hv
/-- Separators stand in order, within the bounds. -/
theorem Chain.seps {α : Type} {I : α → Option Key → Option Key → Prop} (hI : ∀ k lo hi, I k lo hi → leLH lo hi) : ∀ {ss : List It} {ks : List α} {lo hi : Option Key}, Chain I ss ks lo hi → ss.Pairwise (fun a b => a.k ≤ b.k) ∧ ∀ s ∈ ss, leLH lo (some s.k) ∧ leLH (some s.k) hi
  | [], ks, lo, hi, _ => ⟨List.Pairwise.nil, fun _ h => by cases h⟩
  | s :: ss, ks, lo, hi, ⟨k, ks', h, hk, hc⟩ => by
    obtain ⟨h1, h2⟩ := Chain.seps hI hc
    refine ⟨List.Pairwise.cons (fun b hb => (h2 b hb).1) h1, fun x hx => ?_⟩
    rcases List.mem_cons.1 hx with rfl | hx
    · exact ⟨hI _ _ _ hk, Chain.le hI hc⟩
    · exact ⟨(hI _ _ _ hk).trans (h2 x hx).1, (h2 x hx).2⟩
end Go.Proofs.Qxb6615764a
