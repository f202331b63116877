/-
  []Stretch in memory; the walks of zzBytes (5, 15), zzStretchBytesOK (6).
-/
import Derived.Test.Qxb6615764aZzSmall
import Derived.Test.Qxb6615764aPlain
import Derived.Deep.LoopGhost
import Derived.Deep.Cut
import Derived.Deep.RegionHeld3
namespace Go.Proofs.Qxb6615764a
open Go.RowKit
set_option linter.unusedVariables false
set_option linter.unusedSimpArgs false

/-- A []Stretch in memory. -/
def Sts (w : World) (v : Value) (L : List Iv) : Prop :=
  ∃ a c, v = .slice a L.length c ∧ (a = none → c = 0 ∧ L = []) ∧ (L ≠ [] → ∃ b o, a = some ⟨b, o, none⟩ ∧ ∀ j r, L[j]? = some r → ∃ fv tv, w.cell? ⟨b, o + j * 2, none⟩ = some fv ∧ w.cell? ⟨b, o + j * 2 + 1, none⟩ = some tv ∧ Bs w fv r.1 ∧ Bnd w tv r.2)
theorem Bs.form {w : World} {v : Value} {k : Key} (h : Bs w v k) : ∃ a c, v = .slice a k.length c := by obtain ⟨a, c, e, _⟩ := h; exact ⟨a, c, e⟩
theorem Bnd.form {w : World} {v : Value} {u : Option Key} (h : Bnd w v u) : ∃ a c, v = .slice a (bdLen u) c := by
  cases u with
  | none => exact ⟨none, 0, h⟩
  | some k => exact h.1.form
theorem Sts.at {w : World} {b o : Nat} {L : List Iv} {i : Nat} (h : ∀ j r, L[j]? = some r → ∃ fv tv, w.cell? ⟨b, o + j * 2, none⟩ = some fv ∧ w.cell? ⟨b, o + j * 2 + 1, none⟩ = some tv ∧ Bs w fv r.1 ∧ Bnd w tv r.2) (hi : i < L.length) :
    ∃ r fa fc ta tc, L[i]? = some r ∧ w.cell? ⟨b, o + i * 2, none⟩ = some (.slice fa r.1.length fc) ∧ w.cell? ⟨b, o + i * 2 + 1, none⟩ = some (.slice ta (bdLen r.2) tc) ∧ Bs w (.slice fa r.1.length fc) r.1 ∧ Bnd w (.slice ta (bdLen r.2) tc) r.2 := by
  obtain ⟨fv, tv, h1, h2, h3, h4⟩ := h i L[i] (by simp [hi])
  obtain ⟨fa, fc, rfl⟩ := h3.form
  obtain ⟨ta, tc, rfl⟩ := h4.form
  exact ⟨L[i], fa, fc, ta, tc, by simp [hi], h1, h2, h3, h4⟩

/-- All lengths up to 2^20. -/
def Small (L : List Iv) : Prop := L.length ≤ 1048576 ∧ ∀ r ∈ L, r.1.length ≤ 1048576 ∧ bdLen r.2 ≤ 1048576

/-- What a test of the arguments answers. -/
def Asks (P : Prop) (w : World) (e : Ending) (w' : World) : Prop := ∃ b : Bool, e = .returned (.bool b) ∧ (b = true → P) ∧ ∃ n, w' = w.drewN n
theorem Asks.no {P : Prop} {w : World} : Asks P w (.returned (.bool false)) w := ⟨false, rfl, by simp, 0, rfl⟩
theorem Asks.yes {P : Prop} {w : World} (h : P) : Asks P w (.returned (.bool true)) w := ⟨true, rfl, fun _ => h, 0, rfl⟩
theorem Asks.noN {P : Prop} {w : World} {n : Nat} : Asks P w (.returned (.bool false)) (w.drewN n) := ⟨false, rfl, by simp, n, rfl⟩
theorem Asks.yesN {P : Prop} {w : World} {n : Nat} (h : P) : Asks P w (.returned (.bool true)) (w.drewN n) := ⟨true, rfl, fun _ => h, n, rfl⟩

set_option maxHeartbeats 4000000 in
set_option maxRecDepth 100000 in
theorem zzBytes5_any {w : World} {v : Value} {L : List Iv} (hv : Sts w v L) : Calls Try.prog 5 #[v] w fun e w' => Asks (Small L) w e w' := by
  obtain ⟨a, c, rfl, hnil, hL⟩ := hv
  obtain ⟨n, hn⟩ : ∃ n, n = L.length := ⟨_, rfl⟩
  rw [← hn]
  have HL : Hid ((L ≠ [] → ∃ b o, a = some ⟨b, o, none⟩ ∧ ∀ j r, L[j]? = some r → ∃ fv tv, w.cell? ⟨b, o + j * 2, none⟩ = some fv ∧ w.cell? ⟨b, o + j * 2 + 1, none⟩ = some tv ∧ Bs w fv r.1 ∧ Bnd w tv r.2) ∧ n = L.length) := ⟨hL, hn⟩
  clear hL hn hnil
  by_cases hbig : (1048576 : Int) < (n : Int)
  · go_enter Try.func5, Try.ntmps5
    go_wp2
    go_ret
    exact Asks.no
  · have hbig' : ¬ (1048576 : Int) < (n : Int) := hbig
    have hnI : (n : Int) ≤ 1048576 := by omega
    go_enter Try.func5, Try.ntmps5
    go_wp2
    go_loopw [3, 4] (fun p q wr => ∃ i s : Nat, i ≤ n ∧ s ≤ 1048576 ∧ (∀ j r, j < i → L[j]? = some r → r.1.length ≤ 1048576 ∧ bdLen r.2 ≤ 1048576) ∧ p = .int .i64 (s : Int) ∧ q = .int .i64 (i : Int) ∧ wr = w) (fun p q _ => n - (intOf q).toNat)
    case atStart => exact ⟨0, n, Nat.zero_le _, by omega, fun j r hj => by omega, by go_num, rfl, rfl⟩
    case round =>
      obtain ⟨i, s, hi, hs, hall, rfl, rfl, hw⟩ := hrel
      obtain rfl := hw.symm
      clear hw
      have HA : Hid (∀ j r, j < i → L[j]? = some r → r.1.length ≤ 1048576 ∧ bdLen r.2 ≤ 1048576) := hall
      clear hall
      have hsI : (s : Int) ≤ 1048576 := by omega
      by_cases hin : i < n
      · have hinI : (i : Int) < (n : Int) := by omega
        obtain ⟨b, o, ha, hc⟩ := HL.out.1 (by intro e; have := HL.out.2; rw [e] at this; simp at this; omega)
        subst ha
        obtain ⟨r, fa, fc, ta, tc, h1, h2, h3, _⟩ := Sts.at hc (by have := HL.out.2; omega : i < L.length)
        obtain ⟨lf, hlf⟩ : ∃ lf, lf = r.1.length := ⟨_, rfl⟩
        obtain ⟨lt, hlt⟩ : ∃ lt, lt = bdLen r.2 := ⟨_, rfl⟩
        rw [← hlf] at h2
        rw [← hlt] at h3
        have HR : Hid (L[i]? = some r ∧ lf = r.1.length ∧ lt = bdLen r.2) := ⟨h1, hlf, hlt⟩
        clear h1 hlf hlt hc
        by_cases g1 : (1048576 : Int) < (lf : Int)
        · go_wp2
          go_ret
          exact Asks.no
        · by_cases g2 : (1048576 : Int) < (s : Int) + (lf : Int)
          · have g1I : (lf : Int) ≤ 1048576 := by omega
            go_wp2
            go_ret
            exact Asks.no
          · by_cases g3 : (1048576 : Int) < (lt : Int)
            · have g1I : (lf : Int) ≤ 1048576 := by omega
              go_wp2
              go_ret
              exact Asks.no
            · by_cases g4 : (1048576 : Int) < (s : Int) + (lf : Int) + (lt : Int)
              · have g1I : (lf : Int) ≤ 1048576 := by omega
                have g3I : (lt : Int) ≤ 1048576 := by omega
                go_wp2
                go_ret
                exact Asks.no
              · have g1I : (lf : Int) ≤ 1048576 := by omega
                have g3I : (lt : Int) ≤ 1048576 := by omega
                go_wp2
                go_roundw
                case rel =>
                  refine ⟨i + 1, s + lf + lt, by omega, by omega, fun j r' hj hr' => ?_, by go_num, by go_num, by first | rfl | trivial⟩
                  by_cases e : j = i
                  · subst e
                    have := HR.out
                    rw [this.1] at hr'
                    injection hr' with hr'
                    subst hr'
                    omega
                  · exact HA.out j r' (by omega) hr'
                case measure => simp [intOf]; omega
      · have hinI : ¬ (i : Int) < (n : Int) := by omega
        go_wp2
        go_ret
        refine Asks.yes ⟨by have := HL.out.2; omega, fun r hr => ?_⟩
        obtain ⟨j, hj, rfl⟩ := List.mem_iff_getElem.1 hr
        exact HA.out j _ (by have := HL.out.2; omega) (by simp [hj])

-- more
set_option maxHeartbeats 4000000 in
set_option maxRecDepth 100000 in
theorem zzBytes15_any {w : World} {v : Value} {L : List Iv} (hv : Sts w v L) : Calls Try.prog 15 #[v] w fun e w' => Asks (Small L) w e w' := by
  obtain ⟨a, c, rfl, hnil, hL⟩ := hv
  obtain ⟨n, hn⟩ : ∃ n, n = L.length := ⟨_, rfl⟩
  rw [← hn]
  have HL : Hid ((L ≠ [] → ∃ b o, a = some ⟨b, o, none⟩ ∧ ∀ j r, L[j]? = some r → ∃ fv tv, w.cell? ⟨b, o + j * 2, none⟩ = some fv ∧ w.cell? ⟨b, o + j * 2 + 1, none⟩ = some tv ∧ Bs w fv r.1 ∧ Bnd w tv r.2) ∧ n = L.length) := ⟨hL, hn⟩
  clear hL hn hnil
  by_cases hbig : (1048576 : Int) < (n : Int)
  · go_enter Try.func15, Try.ntmps15
    go_wp2
    go_ret
    exact Asks.no
  · have hbig' : ¬ (1048576 : Int) < (n : Int) := hbig
    have hnI : (n : Int) ≤ 1048576 := by omega
    go_enter Try.func15, Try.ntmps15
    go_wp2
    go_loopw [3, 4] (fun p q wr => ∃ i s : Nat, i ≤ n ∧ s ≤ 1048576 ∧ (∀ j r, j < i → L[j]? = some r → r.1.length ≤ 1048576 ∧ bdLen r.2 ≤ 1048576) ∧ p = .int .i64 (s : Int) ∧ q = .int .i64 (i : Int) ∧ wr = w) (fun p q _ => n - (intOf q).toNat)
    case atStart => exact ⟨0, n, Nat.zero_le _, by omega, fun j r hj => by omega, by go_num, rfl, rfl⟩
    case round =>
      obtain ⟨i, s, hi, hs, hall, rfl, rfl, hw⟩ := hrel
      obtain rfl := hw.symm
      clear hw
      have HA : Hid (∀ j r, j < i → L[j]? = some r → r.1.length ≤ 1048576 ∧ bdLen r.2 ≤ 1048576) := hall
      clear hall
      have hsI : (s : Int) ≤ 1048576 := by omega
      by_cases hin : i < n
      · have hinI : (i : Int) < (n : Int) := by omega
        obtain ⟨b, o, ha, hc⟩ := HL.out.1 (by intro e; have := HL.out.2; rw [e] at this; simp at this; omega)
        subst ha
        obtain ⟨r, fa, fc, ta, tc, h1, h2, h3, _⟩ := Sts.at hc (by have := HL.out.2; omega : i < L.length)
        obtain ⟨lf, hlf⟩ : ∃ lf, lf = r.1.length := ⟨_, rfl⟩
        obtain ⟨lt, hlt⟩ : ∃ lt, lt = bdLen r.2 := ⟨_, rfl⟩
        rw [← hlf] at h2
        rw [← hlt] at h3
        have HR : Hid (L[i]? = some r ∧ lf = r.1.length ∧ lt = bdLen r.2) := ⟨h1, hlf, hlt⟩
        clear h1 hlf hlt hc
        by_cases g1 : (1048576 : Int) < (lf : Int)
        · go_wp2
          go_ret
          exact Asks.no
        · by_cases g2 : (1048576 : Int) < (s : Int) + (lf : Int)
          · have g1I : (lf : Int) ≤ 1048576 := by omega
            go_wp2
            go_ret
            exact Asks.no
          · by_cases g3 : (1048576 : Int) < (lt : Int)
            · have g1I : (lf : Int) ≤ 1048576 := by omega
              go_wp2
              go_ret
              exact Asks.no
            · by_cases g4 : (1048576 : Int) < (s : Int) + (lf : Int) + (lt : Int)
              · have g1I : (lf : Int) ≤ 1048576 := by omega
                have g3I : (lt : Int) ≤ 1048576 := by omega
                go_wp2
                go_ret
                exact Asks.no
              · have g1I : (lf : Int) ≤ 1048576 := by omega
                have g3I : (lt : Int) ≤ 1048576 := by omega
                go_wp2
                go_roundw
                case rel =>
                  refine ⟨i + 1, s + lf + lt, by omega, by omega, fun j r' hj hr' => ?_, by go_num, by go_num, by first | rfl | trivial⟩
                  by_cases e : j = i
                  · subst e
                    have := HR.out
                    rw [this.1] at hr'
                    injection hr' with hr'
                    subst hr'
                    omega
                  · exact HA.out j r' (by omega) hr'
                case measure => simp [intOf]; omega
      · have hinI : ¬ (i : Int) < (n : Int) := by omega
        go_wp2
        go_ret
        refine Asks.yes ⟨by have := HL.out.2; omega, fun r hr => ?_⟩
        obtain ⟨j, hj, rfl⟩ := List.mem_iff_getElem.1 hr
        exact HA.out j _ (by have := HL.out.2; omega) (by simp [hj])

theorem Asks.noN' {P : Prop} {w : World} {k d : Nat} : Asks P w (.returned (.bool false)) (((w.drewN k).drew).drewN d) := ⟨false, rfl, by simp, k + 1 + d, by rw [show (w.drewN k).drew = w.drewN (k + 1) from rfl, World.drewN_drewN]⟩
/-- Every stretch begins at or below its end. -/
def AllV (L : List Iv) : Prop := ∀ r ∈ L, Valid r
set_option maxHeartbeats 4000000 in
set_option maxRecDepth 100000 in
theorem zzBytesOK_any {w : World} {v : Value} {L : List Iv} (hv : Sts w v L) (hs : Small L) : Calls Try.prog 6 #[v] w fun e w' => Asks True w e w' := by
  obtain ⟨a, c, rfl, hnil, hL⟩ := hv
  obtain ⟨n, hn⟩ : ∃ n, n = L.length := ⟨_, rfl⟩
  rw [← hn]
  have hnI : (n : Int) ≤ 1048576 := by have := hs.1; omega
  have HL : Hid ((L ≠ [] → ∃ b o, a = some ⟨b, o, none⟩ ∧ ∀ j r, L[j]? = some r → ∃ fv tv, w.cell? ⟨b, o + j * 2, none⟩ = some fv ∧ w.cell? ⟨b, o + j * 2 + 1, none⟩ = some tv ∧ Bs w fv r.1 ∧ Bnd w tv r.2) ∧ n = L.length ∧ Small L) := ⟨hL, hn, hs⟩
  clear hL hn hnil hs
  go_enter Try.func6, Try.ntmps6
  go_wp2
  go_loopw [3, 4] (fun p q wr => (∃ i s : Nat, i ≤ n ∧ s ≤ 1048576 ∧ p = .int .i64 (s : Int) ∧ q = .int .i64 (i : Int)) ∧ ∃ k, wr = w.drewN k) (fun p q _ => n - (intOf q).toNat)
  case atStart => exact ⟨⟨0, 0, Nat.zero_le _, by omega, rfl, rfl⟩, 0, rfl⟩
  case round =>
    obtain ⟨⟨i, s, hi, hsx, rfl, rfl⟩, k, rfl⟩ := hrel
    have hsI : (s : Int) ≤ 1048576 := by omega
    by_cases hin : i < n
    · have hinI : (i : Int) < (n : Int) := by omega
      obtain ⟨b, o, ha, hc⟩ := HL.out.1 (by intro e; have := HL.out.2.1; rw [e] at this; simp at this; omega)
      subst ha
      obtain ⟨r, fa, fc, ta, tc, h1, h2, h3, _⟩ := Sts.at hc (by have := HL.out.2.1; omega : i < L.length)
      have hsm := HL.out.2.2.2 r (List.mem_of_getElem? h1)
      obtain ⟨lf, hlf⟩ : ∃ lf, lf = r.1.length := ⟨_, rfl⟩
      obtain ⟨lt, hlt⟩ : ∃ lt, lt = bdLen r.2 := ⟨_, rfl⟩
      rw [← hlf] at h2 hsm
      rw [← hlt] at h3 hsm
      have g1I : (lf : Int) ≤ 1048576 := by omega
      have g3I : (lt : Int) ≤ 1048576 := by omega
      clear h1 hlf hlt hc hsm
      by_cases g4 : (1048576 : Int) < (s : Int) + (48 + (lf : Int) + (lt : Int))
      · go_wp2
        go_quiet (fail)
        go_wp2
        go_ret
        first | exact Asks.noN | (rw [World.drewN_drewN]; exact Asks.noN)
      · go_wp2
        go_quiet (fail)
        go_wp2
        go_roundw
        case rel => exact ⟨⟨i + 1, s + (48 + lf + lt), by omega, by omega, by go_num, by go_num⟩, by first | exact ⟨_, rfl⟩ | exact ex_drew⟩
        case measure => simp [intOf]; omega
    · have hinI : ¬ (i : Int) < (n : Int) := by omega
      go_wp2
      go_ret
      exact Asks.yesN trivial

set_option maxHeartbeats 4000000 in
set_option maxRecDepth 100000 in
theorem zzValid_any {w : World} {v : Value} {L : List Iv} (hv : Sts w v L) (hs : Small L) : Calls Try.prog 7 #[v] w fun e w' => Asks (AllV L) w e w' := by
  obtain ⟨a, c, rfl, hnil, hL⟩ := hv
  obtain ⟨n, hn⟩ : ∃ n, n = L.length := ⟨_, rfl⟩
  rw [← hn]
  have hnI : (n : Int) ≤ 1048576 := by have := hs.1; omega
  have HL : Hid ((L ≠ [] → ∃ b o, a = some ⟨b, o, none⟩ ∧ ∀ j r, L[j]? = some r → ∃ fv tv, w.cell? ⟨b, o + j * 2, none⟩ = some fv ∧ w.cell? ⟨b, o + j * 2 + 1, none⟩ = some tv ∧ Bs w fv r.1 ∧ Bnd w tv r.2) ∧ n = L.length ∧ Small L) := ⟨hL, hn, hs⟩
  clear hL hn hnil hs
  go_enter Try.func7, Try.ntmps7
  go_wp2
  go_loopw [3] (fun q wr => (∃ i : Nat, i ≤ n ∧ (∀ j r, j < i → L[j]? = some r → Valid r) ∧ q = .int .i64 (i : Int)) ∧ ∃ k, wr = w.drewN k) (fun q _ => n - (intOf q).toNat)
  case atStart => exact ⟨⟨0, Nat.zero_le _, fun j r hj => by omega, rfl⟩, 0, rfl⟩
  case round =>
    obtain ⟨⟨i, hi, hall, rfl⟩, k, rfl⟩ := hrel
    have HA : Hid (∀ j r, j < i → L[j]? = some r → Valid r) := hall
    clear hall
    by_cases hin : i < n
    · have hinI : (i : Int) < (n : Int) := by omega
      obtain ⟨b, o, ha, hc⟩ := HL.out.1 (by intro e; have := HL.out.2.1; rw [e] at this; simp at this; omega)
      subst ha
      obtain ⟨r, fa, fc, ta, tc, h1, h2, h3, h4, h5⟩ := Sts.at hc (by have := HL.out.2.1; omega : i < L.length)
      have hsm := HL.out.2.2.2 r (List.mem_of_getElem? h1)
      have step : Valid r → ∀ j r', j < i + 1 → L[j]? = some r' → Valid r' := fun hv j r' hj hr' => by
        by_cases e : j = i
        · subst e; rw [h1] at hr'; injection hr' with hr'; subst hr'; exact hv
        · exact HA.out j r' (by omega) hr'
      have HS : Hid (Valid r → ∀ j r', j < i + 1 → L[j]? = some r' → Valid r') := step
      clear step
      rcases h5.shape with ⟨e1, e2⟩ | ⟨kt, at', nt, ct, e1, e2, e3⟩
      · have hv : Valid r := by unfold Valid; rw [e1]; rfl
        have HV : Hid (Valid r) := hv
        rw [e2] at h3
        clear hv e1 e2 h1 h4 h5 hc hsm
        generalize r.1.length = lf at *
        go_wp2
        go_quiet (fail)
        go_wp2
        go_roundw
        case rel => exact ⟨⟨i + 1, by omega, HS.out HV.out, by go_num⟩, by first | exact ⟨_, rfl⟩ | exact ex_drew⟩
        case measure => simp [intOf]; omega
      · rw [e2] at h3
        obtain ⟨lf, hlf⟩ : ∃ lf, lf = r.1.length := ⟨_, rfl⟩
        rw [← hlf] at h2 h4
        have HB : Hid (Bs w (.slice fa lf fc) r.1 ∧ Bs w (.slice (some at') nt ct) kt ∧ r.1.length ≤ 2097152 ∧ kt.length ≤ 2097152) := by
          refine ⟨h4, by rw [← e2]; exact e3, by omega, ?_⟩
          have : bdLen r.2 = kt.length := by rw [e1]; rfl
          omega
        have HE : Hid (r.2 = some kt) := e1
        clear e1 e2 e3 h1 h4 h5 hc hsm hlf
        by_cases hgt : 0 < cmpK r.1 kt
        · go_upto_region 4 with fail
          refine wp_region_noPanic ?_
          refine wp_region_held_drew (S := fun w' => w'.cell? ⟨b, o + i * 2, none⟩ = some (.slice fa lf fc) ∧ w'.cell? ⟨b, o + i * 2 + 1, none⟩ = some (.slice (some at') nt ct)) (by kernel_rfl) ⟨h2, h3⟩ (fun hHeld => ?_)
          refine wpAnyH_take (i := 0) (v := .slice (some ⟨b, o, none⟩) n c) rfl (by kernel_rfl) (by kernel_rfl) (by kernel_rfl) (fun _ _ _ h => h) (Or.inl ⟨by rfl, fun w' hSw => by kernel_rfl⟩) hHeld ?_
          try simp only [Act.put, List.getElem_toArray, List.getElem_cons_succ, List.getElem_cons_zero, List.setIfInBounds_toArray, List.set_cons_zero, List.set_cons_succ]
          refine wpAnyH_take (i := 1) (v := .int .i64 (i : Int)) rfl (by kernel_rfl) (by kernel_rfl) (by kernel_rfl) (fun _ _ _ h => h) (Or.inl ⟨by rfl, fun w' hSw => by kernel_rfl⟩) hHeld ?_
          try simp only [Act.put, List.getElem_toArray, List.getElem_cons_succ, List.getElem_cons_zero, List.setIfInBounds_toArray, List.set_cons_zero, List.set_cons_succ]
          refine wpAnyH_take (i := 2) (v := .pointer (some ⟨b, o + i * 2, none⟩)) rfl (by kernel_rfl) (by kernel_rfl) (by kernel_rfl) (fun _ _ _ h => h) (Or.inl ⟨by rfl, fun w' hSw => by go_simp⟩) hHeld ?_
          try simp only [Act.put, List.getElem_toArray, List.getElem_cons_succ, List.getElem_cons_zero, List.setIfInBounds_toArray, List.set_cons_zero, List.set_cons_succ]
          refine wpAnyH_take (i := 3) (v := .pointer (some ⟨b, o + i * 2 + 1, none⟩)) rfl (by kernel_rfl) (by kernel_rfl) (by kernel_rfl) (fun _ _ _ h => h) (Or.inl ⟨by rfl, fun w' hSw => by go_simp⟩) hHeld ?_
          try simp only [Act.put, List.getElem_toArray, List.getElem_cons_succ, List.getElem_cons_zero, List.setIfInBounds_toArray, List.set_cons_zero, List.set_cons_succ]
          refine wpAnyH_take (i := 4) (v := .slice (some at') nt ct) rfl (by kernel_rfl) (by kernel_rfl) (by kernel_rfl) (fun _ _ _ h => h) (Or.inl ⟨by rfl, fun w' hSw => by (have h := hSw.2; go_simp)⟩) hHeld ?_
          try simp only [Act.put, List.getElem_toArray, List.getElem_cons_succ, List.getElem_cons_zero, List.setIfInBounds_toArray, List.set_cons_zero, List.set_cons_succ]
          refine wpAnyH_take (i := 5) (v := .bool true) rfl (by kernel_rfl) (by kernel_rfl) (by kernel_rfl) (fun _ _ _ h => h) (Or.inl ⟨by rfl, fun w' hSw => by go_simp⟩) hHeld ?_
          try simp only [Act.put, List.getElem_toArray, List.getElem_cons_succ, List.getElem_cons_zero, List.setIfInBounds_toArray, List.set_cons_zero, List.set_cons_succ]
          refine wpAnyH_take (i := 6) (v := .bool true) rfl (by kernel_rfl) (by kernel_rfl) (by kernel_rfl) (fun _ _ _ h => h) (Or.inl ⟨by rfl, fun w' hSw => by kernel_rfl⟩) hHeld ?_
          try simp only [Act.put, List.getElem_toArray, List.getElem_cons_succ, List.getElem_cons_zero, List.setIfInBounds_toArray, List.set_cons_zero, List.set_cons_succ]
          refine wpAnyH_take (i := 7) (v := .slice (some ⟨b, o, none⟩) n c) rfl (by kernel_rfl) (by kernel_rfl) (by kernel_rfl) (fun _ _ _ h => h) (Or.inl ⟨by rfl, fun w' hSw => by kernel_rfl⟩) hHeld ?_
          try simp only [Act.put, List.getElem_toArray, List.getElem_cons_succ, List.getElem_cons_zero, List.setIfInBounds_toArray, List.set_cons_zero, List.set_cons_succ]
          refine wpAnyH_take (i := 8) (v := .int .i64 (i : Int)) rfl (by kernel_rfl) (by kernel_rfl) (by kernel_rfl) (fun _ _ _ h => h) (Or.inl ⟨by rfl, fun w' hSw => by kernel_rfl⟩) hHeld ?_
          try simp only [Act.put, List.getElem_toArray, List.getElem_cons_succ, List.getElem_cons_zero, List.setIfInBounds_toArray, List.set_cons_zero, List.set_cons_succ]
          refine wpAnyH_take (i := 9) (v := .pointer (some ⟨b, o + i * 2, none⟩)) rfl (by kernel_rfl) (by kernel_rfl) (by kernel_rfl) (fun _ _ _ h => h) (Or.inl ⟨by rfl, fun w' hSw => by go_simp⟩) hHeld ?_
          try simp only [Act.put, List.getElem_toArray, List.getElem_cons_succ, List.getElem_cons_zero, List.setIfInBounds_toArray, List.set_cons_zero, List.set_cons_succ]
          refine wpAnyH_take (i := 10) (v := .pointer (some ⟨b, o + i * 2, none⟩)) rfl (by kernel_rfl) (by kernel_rfl) (by kernel_rfl) (fun _ _ _ h => h) (Or.inl ⟨by rfl, fun w' hSw => by go_simp⟩) hHeld ?_
          try simp only [Act.put, List.getElem_toArray, List.getElem_cons_succ, List.getElem_cons_zero, List.setIfInBounds_toArray, List.set_cons_zero, List.set_cons_succ]
          refine wpAnyH_take (i := 11) (v := .slice fa lf fc) rfl (by kernel_rfl) (by kernel_rfl) (by kernel_rfl) (fun _ _ _ h => h) (Or.inl ⟨by rfl, fun w' hSw => by (have h := hSw.1; go_simp)⟩) hHeld ?_
          try simp only [Act.put, List.getElem_toArray, List.getElem_cons_succ, List.getElem_cons_zero, List.setIfInBounds_toArray, List.set_cons_zero, List.set_cons_succ]
          refine wpAnyH_take (i := 12) (v := .slice (some ⟨b, o, none⟩) n c) rfl (by kernel_rfl) (by kernel_rfl) (by kernel_rfl) (fun _ _ _ h => h) (Or.inl ⟨by rfl, fun w' hSw => by kernel_rfl⟩) hHeld ?_
          try simp only [Act.put, List.getElem_toArray, List.getElem_cons_succ, List.getElem_cons_zero, List.setIfInBounds_toArray, List.set_cons_zero, List.set_cons_succ]
          refine wpAnyH_take (i := 13) (v := .int .i64 (i : Int)) rfl (by kernel_rfl) (by kernel_rfl) (by kernel_rfl) (fun _ _ _ h => h) (Or.inl ⟨by rfl, fun w' hSw => by kernel_rfl⟩) hHeld ?_
          try simp only [Act.put, List.getElem_toArray, List.getElem_cons_succ, List.getElem_cons_zero, List.setIfInBounds_toArray, List.set_cons_zero, List.set_cons_succ]
          refine wpAnyH_take (i := 14) (v := .pointer (some ⟨b, o + i * 2, none⟩)) rfl (by kernel_rfl) (by kernel_rfl) (by kernel_rfl) (fun _ _ _ h => h) (Or.inl ⟨by rfl, fun w' hSw => by go_simp⟩) hHeld ?_
          try simp only [Act.put, List.getElem_toArray, List.getElem_cons_succ, List.getElem_cons_zero, List.setIfInBounds_toArray, List.set_cons_zero, List.set_cons_succ]
          refine wpAnyH_take (i := 15) (v := .pointer (some ⟨b, o + i * 2 + 1, none⟩)) rfl (by kernel_rfl) (by kernel_rfl) (by kernel_rfl) (fun _ _ _ h => h) (Or.inl ⟨by rfl, fun w' hSw => by go_simp⟩) hHeld ?_
          try simp only [Act.put, List.getElem_toArray, List.getElem_cons_succ, List.getElem_cons_zero, List.setIfInBounds_toArray, List.set_cons_zero, List.set_cons_succ]
          refine wpAnyH_take (i := 16) (v := .slice (some at') nt ct) rfl (by kernel_rfl) (by kernel_rfl) (by kernel_rfl) (fun _ _ _ h => h) (Or.inl ⟨by rfl, fun w' hSw => by (have h := hSw.2; go_simp)⟩) hHeld ?_
          try simp only [Act.put, List.getElem_toArray, List.getElem_cons_succ, List.getElem_cons_zero, List.setIfInBounds_toArray, List.set_cons_zero, List.set_cons_succ]
          refine wpAnyH_ready (rs := [17]) (by kernel_rfl) (by simp) ?_
          refine AllReadyH.cons rfl (fun K hK => ?_) AllReadyH.nil
          go_simp
          refine Calls.mono (zzCmp_any (w := (w.drewN k).drew) (HB.out.1.drewN (k + 1)) (HB.out.2.1.drewN (k + 1)) HB.out.2.2.1 HB.out.2.2.2) ?_
          rintro e w' ⟨rfl, d, rfl⟩
          refine hK.out _ _ ⟨h2, h3⟩ (fun hHeld2 => ?_)
          clear hK
          try simp only [Act.put, List.getElem_toArray, List.getElem_cons_succ, List.getElem_cons_zero, List.setIfInBounds_toArray, List.set_cons_zero, List.set_cons_succ]
          refine wpAnyH_take (i := 18) (v := .bool true) rfl (by kernel_rfl) (by kernel_rfl) (by kernel_rfl) (fun _ _ _ h => h) (Or.inl ⟨by rfl, fun w' hSw => by go_simp⟩) hHeld2 ?_
          try simp only [Act.put, List.getElem_toArray, List.getElem_cons_succ, List.getElem_cons_zero, List.setIfInBounds_toArray, List.set_cons_zero, List.set_cons_succ]
          refine wpAnyH_take (i := 19) (v := .bool true) rfl (by kernel_rfl) (by kernel_rfl) (by kernel_rfl) (fun _ _ _ h => h) (Or.inl ⟨by rfl, fun w' hSw => by kernel_rfl⟩) hHeld2 ?_
          try simp only [Act.put, List.getElem_toArray, List.getElem_cons_succ, List.getElem_cons_zero, List.setIfInBounds_toArray, List.set_cons_zero, List.set_cons_succ]
          refine wpAnyH_done (by kernel_rfl) ?_ _
          refine NoPanic.normal ?_
          clear hHeld hHeld2
          go_wp2
          go_ret
          exact Asks.noN' (w := w) (k := k) (d := d)
        · have hv : Valid r := by
            unfold Valid; rw [HE.out]; simp only [leB, decide_eq_true_eq]
            have := cmpK_le (a := r.1) (b := kt)
            exact this.1 (by omega)
          have HV : Hid (Valid r) := hv
          clear hv
          go_upto_region 4 with fail
          refine wp_region_noPanic ?_
          refine wp_region_held_drew (S := fun w' => w'.cell? ⟨b, o + i * 2, none⟩ = some (.slice fa lf fc) ∧ w'.cell? ⟨b, o + i * 2 + 1, none⟩ = some (.slice (some at') nt ct)) (by kernel_rfl) ⟨h2, h3⟩ (fun hHeld => ?_)
          refine wpAnyH_take (i := 0) (v := .slice (some ⟨b, o, none⟩) n c) rfl (by kernel_rfl) (by kernel_rfl) (by kernel_rfl) (fun _ _ _ h => h) (Or.inl ⟨by rfl, fun w' hSw => by kernel_rfl⟩) hHeld ?_
          try simp only [Act.put, List.getElem_toArray, List.getElem_cons_succ, List.getElem_cons_zero, List.setIfInBounds_toArray, List.set_cons_zero, List.set_cons_succ]
          refine wpAnyH_take (i := 1) (v := .int .i64 (i : Int)) rfl (by kernel_rfl) (by kernel_rfl) (by kernel_rfl) (fun _ _ _ h => h) (Or.inl ⟨by rfl, fun w' hSw => by kernel_rfl⟩) hHeld ?_
          try simp only [Act.put, List.getElem_toArray, List.getElem_cons_succ, List.getElem_cons_zero, List.setIfInBounds_toArray, List.set_cons_zero, List.set_cons_succ]
          refine wpAnyH_take (i := 2) (v := .pointer (some ⟨b, o + i * 2, none⟩)) rfl (by kernel_rfl) (by kernel_rfl) (by kernel_rfl) (fun _ _ _ h => h) (Or.inl ⟨by rfl, fun w' hSw => by go_simp⟩) hHeld ?_
          try simp only [Act.put, List.getElem_toArray, List.getElem_cons_succ, List.getElem_cons_zero, List.setIfInBounds_toArray, List.set_cons_zero, List.set_cons_succ]
          refine wpAnyH_take (i := 3) (v := .pointer (some ⟨b, o + i * 2 + 1, none⟩)) rfl (by kernel_rfl) (by kernel_rfl) (by kernel_rfl) (fun _ _ _ h => h) (Or.inl ⟨by rfl, fun w' hSw => by go_simp⟩) hHeld ?_
          try simp only [Act.put, List.getElem_toArray, List.getElem_cons_succ, List.getElem_cons_zero, List.setIfInBounds_toArray, List.set_cons_zero, List.set_cons_succ]
          refine wpAnyH_take (i := 4) (v := .slice (some at') nt ct) rfl (by kernel_rfl) (by kernel_rfl) (by kernel_rfl) (fun _ _ _ h => h) (Or.inl ⟨by rfl, fun w' hSw => by (have h := hSw.2; go_simp)⟩) hHeld ?_
          try simp only [Act.put, List.getElem_toArray, List.getElem_cons_succ, List.getElem_cons_zero, List.setIfInBounds_toArray, List.set_cons_zero, List.set_cons_succ]
          refine wpAnyH_take (i := 5) (v := .bool true) rfl (by kernel_rfl) (by kernel_rfl) (by kernel_rfl) (fun _ _ _ h => h) (Or.inl ⟨by rfl, fun w' hSw => by go_simp⟩) hHeld ?_
          try simp only [Act.put, List.getElem_toArray, List.getElem_cons_succ, List.getElem_cons_zero, List.setIfInBounds_toArray, List.set_cons_zero, List.set_cons_succ]
          refine wpAnyH_take (i := 6) (v := .bool true) rfl (by kernel_rfl) (by kernel_rfl) (by kernel_rfl) (fun _ _ _ h => h) (Or.inl ⟨by rfl, fun w' hSw => by kernel_rfl⟩) hHeld ?_
          try simp only [Act.put, List.getElem_toArray, List.getElem_cons_succ, List.getElem_cons_zero, List.setIfInBounds_toArray, List.set_cons_zero, List.set_cons_succ]
          refine wpAnyH_take (i := 7) (v := .slice (some ⟨b, o, none⟩) n c) rfl (by kernel_rfl) (by kernel_rfl) (by kernel_rfl) (fun _ _ _ h => h) (Or.inl ⟨by rfl, fun w' hSw => by kernel_rfl⟩) hHeld ?_
          try simp only [Act.put, List.getElem_toArray, List.getElem_cons_succ, List.getElem_cons_zero, List.setIfInBounds_toArray, List.set_cons_zero, List.set_cons_succ]
          refine wpAnyH_take (i := 8) (v := .int .i64 (i : Int)) rfl (by kernel_rfl) (by kernel_rfl) (by kernel_rfl) (fun _ _ _ h => h) (Or.inl ⟨by rfl, fun w' hSw => by kernel_rfl⟩) hHeld ?_
          try simp only [Act.put, List.getElem_toArray, List.getElem_cons_succ, List.getElem_cons_zero, List.setIfInBounds_toArray, List.set_cons_zero, List.set_cons_succ]
          refine wpAnyH_take (i := 9) (v := .pointer (some ⟨b, o + i * 2, none⟩)) rfl (by kernel_rfl) (by kernel_rfl) (by kernel_rfl) (fun _ _ _ h => h) (Or.inl ⟨by rfl, fun w' hSw => by go_simp⟩) hHeld ?_
          try simp only [Act.put, List.getElem_toArray, List.getElem_cons_succ, List.getElem_cons_zero, List.setIfInBounds_toArray, List.set_cons_zero, List.set_cons_succ]
          refine wpAnyH_take (i := 10) (v := .pointer (some ⟨b, o + i * 2, none⟩)) rfl (by kernel_rfl) (by kernel_rfl) (by kernel_rfl) (fun _ _ _ h => h) (Or.inl ⟨by rfl, fun w' hSw => by go_simp⟩) hHeld ?_
          try simp only [Act.put, List.getElem_toArray, List.getElem_cons_succ, List.getElem_cons_zero, List.setIfInBounds_toArray, List.set_cons_zero, List.set_cons_succ]
          refine wpAnyH_take (i := 11) (v := .slice fa lf fc) rfl (by kernel_rfl) (by kernel_rfl) (by kernel_rfl) (fun _ _ _ h => h) (Or.inl ⟨by rfl, fun w' hSw => by (have h := hSw.1; go_simp)⟩) hHeld ?_
          try simp only [Act.put, List.getElem_toArray, List.getElem_cons_succ, List.getElem_cons_zero, List.setIfInBounds_toArray, List.set_cons_zero, List.set_cons_succ]
          refine wpAnyH_take (i := 12) (v := .slice (some ⟨b, o, none⟩) n c) rfl (by kernel_rfl) (by kernel_rfl) (by kernel_rfl) (fun _ _ _ h => h) (Or.inl ⟨by rfl, fun w' hSw => by kernel_rfl⟩) hHeld ?_
          try simp only [Act.put, List.getElem_toArray, List.getElem_cons_succ, List.getElem_cons_zero, List.setIfInBounds_toArray, List.set_cons_zero, List.set_cons_succ]
          refine wpAnyH_take (i := 13) (v := .int .i64 (i : Int)) rfl (by kernel_rfl) (by kernel_rfl) (by kernel_rfl) (fun _ _ _ h => h) (Or.inl ⟨by rfl, fun w' hSw => by kernel_rfl⟩) hHeld ?_
          try simp only [Act.put, List.getElem_toArray, List.getElem_cons_succ, List.getElem_cons_zero, List.setIfInBounds_toArray, List.set_cons_zero, List.set_cons_succ]
          refine wpAnyH_take (i := 14) (v := .pointer (some ⟨b, o + i * 2, none⟩)) rfl (by kernel_rfl) (by kernel_rfl) (by kernel_rfl) (fun _ _ _ h => h) (Or.inl ⟨by rfl, fun w' hSw => by go_simp⟩) hHeld ?_
          try simp only [Act.put, List.getElem_toArray, List.getElem_cons_succ, List.getElem_cons_zero, List.setIfInBounds_toArray, List.set_cons_zero, List.set_cons_succ]
          refine wpAnyH_take (i := 15) (v := .pointer (some ⟨b, o + i * 2 + 1, none⟩)) rfl (by kernel_rfl) (by kernel_rfl) (by kernel_rfl) (fun _ _ _ h => h) (Or.inl ⟨by rfl, fun w' hSw => by go_simp⟩) hHeld ?_
          try simp only [Act.put, List.getElem_toArray, List.getElem_cons_succ, List.getElem_cons_zero, List.setIfInBounds_toArray, List.set_cons_zero, List.set_cons_succ]
          refine wpAnyH_take (i := 16) (v := .slice (some at') nt ct) rfl (by kernel_rfl) (by kernel_rfl) (by kernel_rfl) (fun _ _ _ h => h) (Or.inl ⟨by rfl, fun w' hSw => by (have h := hSw.2; go_simp)⟩) hHeld ?_
          try simp only [Act.put, List.getElem_toArray, List.getElem_cons_succ, List.getElem_cons_zero, List.setIfInBounds_toArray, List.set_cons_zero, List.set_cons_succ]
          refine wpAnyH_ready (rs := [17]) (by kernel_rfl) (by simp) ?_
          refine AllReadyH.cons rfl (fun K hK => ?_) AllReadyH.nil
          go_simp
          refine Calls.mono (zzCmp_any (w := (w.drewN k).drew) (HB.out.1.drewN (k + 1)) (HB.out.2.1.drewN (k + 1)) HB.out.2.2.1 HB.out.2.2.2) ?_
          rintro e w' ⟨rfl, d, rfl⟩
          refine hK.out _ _ ⟨h2, h3⟩ (fun hHeld2 => ?_)
          clear hK
          try simp only [Act.put, List.getElem_toArray, List.getElem_cons_succ, List.getElem_cons_zero, List.setIfInBounds_toArray, List.set_cons_zero, List.set_cons_succ]
          refine wpAnyH_take (i := 18) (v := .bool false) rfl (by kernel_rfl) (by kernel_rfl) (by kernel_rfl) (fun _ _ _ h => h) (Or.inl ⟨by rfl, fun w' hSw => by go_simp⟩) hHeld2 ?_
          try simp only [Act.put, List.getElem_toArray, List.getElem_cons_succ, List.getElem_cons_zero, List.setIfInBounds_toArray, List.set_cons_zero, List.set_cons_succ]
          refine wpAnyH_take (i := 19) (v := .bool false) rfl (by kernel_rfl) (by kernel_rfl) (by kernel_rfl) (fun _ _ _ h => h) (Or.inl ⟨by rfl, fun w' hSw => by kernel_rfl⟩) hHeld2 ?_
          try simp only [Act.put, List.getElem_toArray, List.getElem_cons_succ, List.getElem_cons_zero, List.setIfInBounds_toArray, List.set_cons_zero, List.set_cons_succ]
          refine wpAnyH_done (by kernel_rfl) ?_ _
          refine NoPanic.normal ?_
          clear hHeld hHeld2
          go_wp2
          go_roundw
          case rel => exact ⟨⟨i + 1, by omega, HS.out HV.out, by go_num⟩, ⟨k + 1 + d, by first | rfl | rw [show (w.drewN k).drew = w.drewN (k + 1) from rfl, World.drewN_drewN]⟩⟩
          case measure => simp [intOf]; omega
    · have hinI : ¬ (i : Int) < (n : Int) := by omega
      go_wp2
      go_ret
      refine Asks.yesN (show AllV L from fun r hr => ?_)
      obtain ⟨j, hj, rfl⟩ := List.mem_iff_getElem.1 hr
      exact HA.out j _ (by have := HL.out.2.1; omega) (by simp [hj])
end Go.Proofs.Qxb6615764a
