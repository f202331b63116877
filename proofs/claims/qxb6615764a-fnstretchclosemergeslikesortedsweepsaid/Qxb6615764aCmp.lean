/-
  The walks of the comparisons: bytes.Compare (24), close$1 (23), endsBefore (38), later (29), meets (27).
-/
import Derived.Test.Qxb6615764aKey
namespace Go.Proofs.Qxb6615764a
open Go.RowKit
set_option linter.unusedVariables false
set_option linter.unusedSimpArgs false

theorem run_loadBytes {P : Program} (w : World) : ∀ (l : List UInt8) (a : Addr) (acc : ByteArray), (∀ j x, l[j]? = some x → w.cell? (a.add j) = some (.int .u8 x.toNat)) →
    (Extern.Bytes.loadBytes a l.length acc).run P w = .ok ⟨acc.data ++ l.toArray⟩ w
  | [], a, acc, _ => by simp [Extern.Bytes.loadBytes]
  | x :: l, a, acc, h => by
    have h0 : w.cell? a = some (.int .u8 x.toNat) := by
      have := h 0 x rfl
      simpa [Addr.add] using this
    have ih := run_loadBytes (P := P) w l (a.add 1) (acc.push x) (fun j y hy => by
      have := h (j + 1) y (by simpa using hy)
      have e : (a.add 1).add j = a.add (j + 1) := by
        simp [Addr.add, Nat.add_assoc, Nat.add_comm 1 j]
      rw [e]; exact this)
    simp only [List.length_cons, Extern.Bytes.loadBytes, Sem.run_bind, run_load, h0, Result.andThen]
    have e : ((x.toNat : Int)).toNat.toUInt8 = x := by simp
    rw [e, ih]
    congr 2
    simp [ByteArray.push, ← Array.toList_inj]

theorem run_bytesOf {P : Program} {w : World} {v : Value} {k : Key} (h : Bs w v k) : (Extern.Bytes.bytesOf v).run P w = .ok ⟨k.toArray⟩ w := by
  obtain ⟨a, c, rfl, hn, hc⟩ := h
  cases a with
  | none =>
    by_cases hk : k = []
    · subst hk; rfl
    · obtain ⟨b, o, he, _⟩ := hc hk; cases he
  | some a =>
    by_cases hk : k = []
    · subst hk; rfl
    · obtain ⟨b, o, he, hj⟩ := hc hk
      injection he with he
      subst he
      have := run_loadBytes (P := P) w k ⟨b, o, none⟩ .empty (fun j x hx => by rw [Addr.add_lit]; exact hj j x hx)
      simpa [Extern.Bytes.bytesOf] using this

theorem run_compare {P : Program} {w : World} {u v : Value} {a b : Key} (hu : Bs w u a) (hv : Bs w v b) : (Extern.BytealgCompare.compare #[u, v]).run P w = .ok (.int .i64 (cmpK a b)) w := by
  change Sem.run P (do pure (goInt (Extern.BytealgCompare.cmp (← Extern.Bytes.bytesOf u) (← Extern.Bytes.bytesOf v)))) w = _
  simp only [Sem.run_bind, run_bytesOf hu, run_bytesOf hv, Sem.run_pure, Result.andThen]
  rw [Lib.cmp_eq]
  rfl

theorem call33 {w : World} {u v : Value} {a b : Key} (hu : Bs w u a) (hv : Bs w v b) : (callFunc 33 #[u, v]).run Try.prog w = .ok (.value (.int .i64 (cmpK a b))) w := by
  rw [run_callFunc_extern Try.func33 (by kernel_rfl) (by kernel_rfl) (by kernel_rfl) (e := Extern.BytealgCompare.compare) (by kernel_rfl), run_compare hu hv]
  rfl

/-- bytes.Compare. -/
theorem compare_any {w : World} {u v : Value} {a b : Key} (hu : Bs w u a) (hv : Bs w v b) :
    Calls Try.prog 24 #[u, v] w fun e w' => e = .returned (.int .i64 (cmpK a b)) ∧ w' = w := by
  have h := call33 hu hv
  have HU : Hid (Bs w u a ∧ Bs w v b) := ⟨hu, hv⟩
  clear hu hv
  go_enter Try.func24, Try.ntmps24
  go_wp2
  go_ret
  exact ⟨rfl, rfl⟩

/-- A key that a pointer leads to: its slice lies in the cell a. -/
def KAt (w : World) (a : Addr) (k : Key) : Prop := ∃ v, w.cell? a = some v ∧ Bs w v k
theorem Bs.drewN {w : World} {v : Value} {k : Key} (h : Bs w v k) (n : Nat) : Bs (w.drewN n) v k := h.same fun _ _ => rfl
theorem Bnd.drewN {w : World} {v : Value} {u : Option Key} (h : Bnd w v u) (n : Nat) : Bnd (w.drewN n) v u := h.same fun _ _ => rfl
theorem KAt.drewN {w : World} {a : Addr} {k : Key} (h : KAt w a k) (n : Nat) : KAt (w.drewN n) a k := by
  obtain ⟨v, h1, h2⟩ := h
  exact ⟨v, h1, h2.drewN n⟩

/-- The tree's order (close$1). -/
theorem order_any {w : World} {pa oa pb ob : Nat} {a b : Key} (ha : KAt w ⟨pa, oa, none⟩ a) (hb : KAt w ⟨pb, ob, none⟩ b) :
    Calls Try.prog 23 #[.pointer (some ⟨pa, oa, none⟩), .pointer (some ⟨pb, ob, none⟩)] w fun e w' => e = .returned (.int .i64 (cmpK a b)) ∧ ∃ n, w' = w.drewN n := by
  obtain ⟨u, hu, hua⟩ := ha
  obtain ⟨v, hv, hvb⟩ := hb
  have HU : Hid (Bs w u a ∧ Bs w v b) := ⟨hua, hvb⟩
  clear hua hvb
  go_enter Try.func23, Try.ntmps23
  go_wp2
  go_quiet (first | (go_at_call 24; exact Calls.quiet_of_same (compare_any (HU.out.1.drewN _) (HU.out.2.drewN _))))
  go_wp2
  go_ret
  exact ⟨rfl, _, rfl⟩

/-- k lies at or below the bound u. -/
def leB (k : Key) (u : Option Key) : Bool := match u with | none => true | some t => decide (k ≤ t)
/-- The bound a lies below the bound b. -/
def ltB (a b : Option Key) : Bool := match a, b with | none, _ => false | some _, none => true | some x, some y => decide (x < y)
theorem Bnd.shape {w : World} {v : Value} {u : Option Key} (h : Bnd w v u) : (u = none ∧ v = .slice none 0 0) ∨ ∃ k a n c, u = some k ∧ v = .slice (some a) n c ∧ Bs w v k := by
  cases u with
  | none => exact .inl ⟨rfl, h⟩
  | some k =>
    obtain ⟨hb, a, n, c, hv⟩ := h
    exact .inr ⟨k, a, n, c, rfl, hv, hb⟩

set_option maxHeartbeats 1000000 in
/-- endsBefore. -/
theorem ends_any {w : World} {u v : Value} {a b : Option Key} (hu : Bnd w u a) (hv : Bnd w v b) :
    Calls Try.prog 38 #[u, v] w fun e w' => e = .returned (.bool (ltB a b)) ∧ w' = w := by
  rcases hu.shape with ⟨rfl, rfl⟩ | ⟨k, ad, n, c, rfl, rfl, hk⟩
  · go_enter Try.func38, Try.ntmps38
    go_wp2
    go_ret
    exact ⟨by simp [ltB], rfl⟩
  · rcases hv.shape with ⟨rfl, rfl⟩ | ⟨l, ae, m, d, rfl, rfl, hl⟩
    · go_enter Try.func38, Try.ntmps38
      go_wp2
      go_ret
      exact ⟨by simp [ltB], rfl⟩
    · have HU : Hid (Bs w (.slice (some ad) n c) k ∧ Bs w (.slice (some ae) m d) l) := ⟨hk, hl⟩
      clear hk hl hu hv
      go_enter Try.func38, Try.ntmps38
      go_wp2_with fail
      refine (compare_any HU.out.1 HU.out.2).mono ?_
      rintro e w' ⟨rfl, rfl⟩
      go_wp2_with fail
      go_ret
      exact ⟨by simp [ltB, cmpK_neg], rfl⟩

/-- later: the higher of two bounds. -/
theorem later_any {w : World} {u v : Value} {a b : Option Key} (hu : Bnd w u a) (hv : Bnd w v b) :
    Calls Try.prog 29 #[u, v] w fun e w' => e = .returned (if ltB a b = true then v else u) ∧ w' = w := by
  have HU : Hid (Bnd w u a ∧ Bnd w v b) := ⟨hu, hv⟩
  clear hu hv
  by_cases h : ltB a b = true
  · go_enter Try.func29, Try.ntmps29
    go_wp2_with fail
    refine (ends_any HU.out.1 HU.out.2).mono ?_
    rintro e w' ⟨rfl, rfl⟩
    go_wp2_with fail
    go_ret
    exact ⟨by simp [h], rfl⟩
  · go_enter Try.func29, Try.ntmps29
    go_wp2_with fail
    refine (ends_any HU.out.1 HU.out.2).mono ?_
    rintro e w' ⟨rfl, rfl⟩
    go_wp2_with fail
    go_ret
    exact ⟨by simp [h], rfl⟩

set_option maxHeartbeats 1000000 in
/-- keyRange.meets. -/
theorem meets_any {w : World} {rf ru sf su : Value} {a b : Key} {s t : Option Key} (h1 : Bs w rf a) (h2 : Bnd w ru s) (h3 : Bs w sf b) (h4 : Bnd w su t) :
    Calls Try.prog 27 #[.agg #[rf, ru], .agg #[sf, su]] w fun e w' => e = .returned (.bool (leB b s && leB a t)) ∧ Below w.heap.size w w' := by
  have HU : Hid (Bs w rf a ∧ Bnd w ru s ∧ Bs w sf b ∧ Bnd w su t) := ⟨h1, h2, h3, h4⟩
  have fin : ∀ o1 o2, Below w.heap.size w ((w.alloc o1).alloc o2) := fun o1 o2 => ((Below.refl _ _).alloc (Nat.le_refl _) _).alloc (by simp) _
  have FIN : Hid (∀ o1 o2, Below w.heap.size w ((w.alloc o1).alloc o2)) := fin
  have bs : ∀ o1 o2 v k, Bs w v k → Bs ((w.alloc o1).alloc o2) v k := fun o1 o2 v k h => by
    by_cases hk : k = []
    · subst hk
      obtain ⟨x, c, rfl, hn, _⟩ := h
      exact ⟨x, c, rfl, hn, fun h => absurd rfl h⟩
    · exact h.same fun i hi => (fin o1 o2).block i (h.lt hk i hi)
  have BS : Hid (∀ o1 o2 v k, Bs w v k → Bs ((w.alloc o1).alloc o2) v k) := bs
  clear fin bs h1 h3
  rcases h2.shape with ⟨rfl, rfl⟩ | ⟨k1, a1, n1, c1, rfl, rfl, hk1⟩ <;> rcases h4.shape with ⟨rfl, rfl⟩ | ⟨k2, a2, n2, c2, rfl, rfl, hk2⟩
  · clear h2 h4
    go_enter Try.func27, Try.ntmps27
    go_wp2
    go_ret
    exact ⟨by simp [leB], FIN.out _ _⟩
  · clear h2 h4 hk2
    go_enter Try.func27, Try.ntmps27
    go_wp2_with fail
    refine (compare_any (BS.out _ _ _ _ HU.out.1) (BS.out _ _ _ _ HU.out.2.2.2.1)).mono ?_
    rintro e w' ⟨rfl, rfl⟩
    go_wp2_with fail
    go_ret
    exact ⟨by simp [leB, cmpK_le], FIN.out _ _⟩
  · clear h2 h4 hk1
    by_cases hc : cmpK b k1 ≤ 0
    · go_enter Try.func27, Try.ntmps27
      go_wp2_with fail
      refine (compare_any (BS.out _ _ _ _ HU.out.2.2.1) (BS.out _ _ _ _ HU.out.2.1.1)).mono ?_
      rintro e w' ⟨rfl, rfl⟩
      go_wp2_with fail
      go_ret
      exact ⟨by simp [leB, ← cmpK_le, hc], FIN.out _ _⟩
    · have hc' : 0 < cmpK b k1 := by omega
      have hk : ¬ b ≤ k1 := fun h => hc (cmpK_le.2 h)
      have HK : Hid (¬ b ≤ k1) := hk
      clear hk
      go_enter Try.func27, Try.ntmps27
      go_wp2_with fail
      refine (compare_any (BS.out _ _ _ _ HU.out.2.2.1) (BS.out _ _ _ _ HU.out.2.1.1)).mono ?_
      rintro e w' ⟨rfl, rfl⟩
      go_wp2_with fail
      go_ret
      exact ⟨by simp [leB, HK.out], FIN.out _ _⟩
  · clear h2 h4 hk1 hk2
    by_cases hc : cmpK b k1 ≤ 0
    · go_enter Try.func27, Try.ntmps27
      go_wp2_with fail
      refine (compare_any (BS.out _ _ _ _ HU.out.2.2.1) (BS.out _ _ _ _ HU.out.2.1.1)).mono ?_
      rintro e w' ⟨rfl, rfl⟩
      go_wp2_with fail
      refine (compare_any (BS.out _ _ _ _ HU.out.1) (BS.out _ _ _ _ HU.out.2.2.2.1)).mono ?_
      rintro e w' ⟨rfl, rfl⟩
      go_wp2_with fail
      go_ret
      exact ⟨by simp [leB, ← cmpK_le, hc], FIN.out _ _⟩
    · have hc' : 0 < cmpK b k1 := by omega
      have hk : ¬ b ≤ k1 := fun h => hc (cmpK_le.2 h)
      have HK : Hid (¬ b ≤ k1) := hk
      clear hk
      go_enter Try.func27, Try.ntmps27
      go_wp2_with fail
      refine (compare_any (BS.out _ _ _ _ HU.out.2.2.1) (BS.out _ _ _ _ HU.out.2.1.1)).mono ?_
      rintro e w' ⟨rfl, rfl⟩
      go_wp2_with fail
      go_ret
      exact ⟨by simp [leB, HK.out], FIN.out _ _⟩
end Go.Proofs.Qxb6615764a
