/-
  The walk of FnStretchCloseMergesLikeSortedSweep (3).
-/
import Derived.Test.Qxb6615764aLem
import Derived.Test.Qxb6615764aModel
namespace Go.Proofs.Qxb6615764a
open Go.RowKit
set_option linter.unusedVariables false
set_option linter.unusedSimpArgs false
set_option linter.unusedSectionVars false

theorem listed_swept {R L M : List Iv} (h : Listed R L.reverse) (h1 : L = [] → M = []) (h2 : L ≠ [] → ∃ out cur D', M = out ++ [cur] ∧ Swept out cur D' ∧ ∀ r, r ∈ L ↔ r ∈ D') : R = M.reverse := by
  obtain ⟨E, hE, hG, rfl⟩ := h
  by_cases e : L = []
  · rw [e] at hG
    have := Good.nil_inv hG
    rw [h1 e, this]; rfl
  · obtain ⟨out, cur, D', rfl, hs, hm⟩ := h2 e
    rw [hG.swept hE hs (fun r => by rw [List.mem_reverse]; exact hm r)]

set_option maxHeartbeats 4000000 in
set_option maxRecDepth 100000 in
theorem sweep_any {w : World} {v : Value} {L : List Iv} (hv : Sts w v L) : Calls Try.prog 3 #[v] w fun e w' => TrueK w e w' := by
  obtain ⟨n, hn⟩ : ∃ n, n = L.length := ⟨_, rfl⟩
  obtain ⟨a, c, rfl⟩ : ∃ a c, v = .slice a n c := by obtain ⟨a, c, e, _⟩ := hv; exact ⟨a, c, by rw [hn]; exact e⟩
  have HS : Hid (Sts w (.slice a n c) L ∧ n = L.length) := ⟨hv, hn⟩
  clear hv hn
  go_enter Try.func3, Try.ntmps3
  go_wp2_with fail
  refine (zzBytes5_any HS.out.1).mono ?_
  rintro e w' ⟨b, rfl, hb, k, rfl⟩
  cases b with
  | false =>
    clear hb
    go_wp2
    go_ret
    exact ⟨rfl, (Kep.refl _ _).drewN _⟩
  | true =>
    have HM : Hid (Small L ∧ Sts (w.drewN k) (.slice a n c) L ∧ Kep (fun _ => False) w (w.drewN k)) := ⟨hb rfl, HS.out.1.keepN ((Kep.refl _ _).drewN _), (Kep.refl _ _).drewN _⟩
    clear hb
    generalize w.drewN k = w1 at *
    by_cases hbig : (4096 : Int) < (n : Int)
    · go_wp2
      go_ret
      exact ⟨rfl, HM.out.2.2⟩
    · go_wp2_with fail
      refine (zzBytesOK_any HM.out.2.1 HM.out.1).mono ?_
      rintro e w' ⟨b, rfl, hb, k, rfl⟩
      clear hb
      have HM2 : Hid (Small L ∧ Sts (w1.drewN k) (.slice a n c) L ∧ Kep (fun _ => False) w (w1.drewN k)) := ⟨HM.out.1, HM.out.2.1.keepN ((Kep.refl _ _).drewN _), HM.out.2.2.drewN _⟩
      clear HM
      generalize w1.drewN k = w2 at *
      cases b with
      | false =>
        go_wp2
        go_ret
        exact ⟨rfl, HM2.out.2.2⟩
      | true =>
        go_wp2_with fail
        refine (zzValid_any HM2.out.2.1 HM2.out.1).mono ?_
        rintro e w' ⟨b, rfl, hb, k, rfl⟩
        have HM3 : Hid (Small L ∧ Sts (w2.drewN k) (.slice a n c) L ∧ Kep (fun _ => False) w (w2.drewN k)) := ⟨HM2.out.1, HM2.out.2.1.keepN ((Kep.refl _ _).drewN _), HM2.out.2.2.drewN _⟩
        clear HM2
        generalize w2.drewN k = w3 at *
        cases b with
        | false =>
          clear hb
          go_wp2
          go_ret
          exact ⟨rfl, HM3.out.2.2⟩
        | true =>
          have HV : Hid (AllV L) := hb rfl
          have hnI : (n : Int) ≤ 4096 := by omega
          clear hb hbig
          go_wp2_with fail
          refine (zzCS_any HM3.out.2.1 HM3.out.1).mono ?_
          rintro e w4 ⟨v1, rfl, hy1, k1⟩
          obtain ⟨a1, c1, rfl⟩ : ∃ a1 c1, v1 = .slice a1 n c1 := by obtain ⟨a1, c1, e, _⟩ := hy1; exact ⟨a1, c1, by rw [HS.out.2]; exact e⟩
          have HM4 : Hid (StsY w4 (.slice a1 n c1) L ∧ Kep (fun _ => False) w w4 ∧ Sts w4 (.slice a n c) L ∧ Small L) := ⟨hy1, HM3.out.2.2.trans k1 (fun _ _ h => h), HM3.out.2.1.keepN k1, HM3.out.1⟩
          clear hy1 k1 HM3
          go_wp2_with fail
          refine (clNew_any w4).mono ?_
          rintro e w6 ⟨xb, rfl, hc⟩
          have HX : Hid (ClInv w4 xb [] w6) := hc
          clear hc
          go_wp2
          go_loopg [5] n (fun k q wr => ∃ i : Nat, i ≤ n ∧ k = n - i ∧ q = .int .i64 (i : Int) ∧ ClInv w4 xb (L.take i).reverse wr)
          case atStart => exact ⟨0, Nat.zero_le _, rfl, rfl, HX.out⟩
          case round =>
            obtain ⟨i, hi, rfl, rfl, hinv⟩ := hrel
            have HI : Hid (ClInv w4 xb (L.take i).reverse wr) := hinv
            clear hinv
            by_cases hin : i < n
            · have hinI : (i : Int) < (n : Int) := by omega
              obtain ⟨fb, c0, r, fa, fc, ta, tc, ev, h1, h2, h3, h4, h5, h6, h7⟩ := StsY.at HM4.out.1 (by have := HS.out.2; omega : i < L.length)
              obtain ⟨ea, ec⟩ : a1 = some ⟨fb, 0, none⟩ ∧ c1 = c0 := by injection ev with e1 e2 e3; exact ⟨e1, e3⟩
              subst ea
              subst ec
              obtain ⟨lf, hlf⟩ : ∃ lf, lf = r.1.length := ⟨_, rfl⟩
              obtain ⟨lt, hlt⟩ : ∃ lt, lt = bdLen r.2 := ⟨_, rfl⟩
              rw [← hlf] at h2 h4 h6
              rw [← hlt] at h3 h5 h7
              have HF : Hid (Bs w4 (.slice fa lf fc) r.1 ∧ Bnd w4 (.slice ta lt tc) r.2 ∧ By w4 (.slice fa lf fc) ∧ By w4 (.slice ta lt tc) ∧ Valid r) := ⟨h4, h5, h6, h7, HV.out r (List.mem_of_getElem? h1)⟩
              have HC : Hid (w4.cell? ⟨fb, i * 2, none⟩ = some (.slice fa lf fc) ∧ w4.cell? ⟨fb, i * 2 + 1, none⟩ = some (.slice ta lt tc)) := ⟨h2, h3⟩
              have HR : Hid (L[i]? = some r) := h1
              have g1 : wr.cell? ⟨fb, i * 2, none⟩ = some (.slice fa lf fc) := by
                obtain ⟨_, _, _, _, _, kk⟩ := HI.out
                exact (kk.cell (World.block_lt_of_cell? _ _ h2) id).trans h2
              have g2 : wr.cell? ⟨fb, i * 2 + 1, none⟩ = some (.slice ta lt tc) := by
                obtain ⟨_, _, _, _, _, kk⟩ := HI.out
                exact (kk.cell (World.block_lt_of_cell? _ _ h3) id).trans h3
              clear h1 h2 h3 h4 h5 h6 h7 hlf hlt ev
              go_upto_region 14 with fail
              refine wp_region_noPanic ?_
              refine wp_region_held_drew (S := fun w' => w'.cell? ⟨fb, i * 2, none⟩ = some (.slice fa lf fc) ∧ w'.cell? ⟨fb, i * 2 + 1, none⟩ = some (.slice ta lt tc)) (by kernel_rfl) ⟨g1, g2⟩ (fun hHeld => ?_)
              refine wpAnyH_take (i := 0) (v := .pointer (some ⟨xb, 0, none⟩)) rfl (by kernel_rfl) (by kernel_rfl) (by kernel_rfl) (fun _ _ _ h => h) (Or.inl ⟨by rfl, fun w' hSw => by kernel_rfl⟩) hHeld ?_
              try simp only [Act.put, List.getElem_toArray, List.getElem_cons_succ, List.getElem_cons_zero, List.setIfInBounds_toArray, List.set_cons_zero, List.set_cons_succ]
              refine wpAnyH_take (i := 1) (v := .slice (some ⟨fb, 0, none⟩) n c1) rfl (by kernel_rfl) (by kernel_rfl) (by kernel_rfl) (fun _ _ _ h => h) (Or.inl ⟨by rfl, fun w' hSw => by kernel_rfl⟩) hHeld ?_
              try simp only [Act.put, List.getElem_toArray, List.getElem_cons_succ, List.getElem_cons_zero, List.setIfInBounds_toArray, List.set_cons_zero, List.set_cons_succ]
              refine wpAnyH_take (i := 2) (v := .int .i64 (i : Int)) rfl (by kernel_rfl) (by kernel_rfl) (by kernel_rfl) (fun _ _ _ h => h) (Or.inl ⟨by rfl, fun w' hSw => by kernel_rfl⟩) hHeld ?_
              try simp only [Act.put, List.getElem_toArray, List.getElem_cons_succ, List.getElem_cons_zero, List.setIfInBounds_toArray, List.set_cons_zero, List.set_cons_succ]
              refine wpAnyH_take (i := 3) (v := .pointer (some ⟨fb, i * 2, none⟩)) rfl (by kernel_rfl) (by kernel_rfl) (by kernel_rfl) (fun _ _ _ h => h) (Or.inl ⟨by rfl, fun w' hSw => by go_simp⟩) hHeld ?_
              try simp only [Act.put, List.getElem_toArray, List.getElem_cons_succ, List.getElem_cons_zero, List.setIfInBounds_toArray, List.set_cons_zero, List.set_cons_succ]
              refine wpAnyH_take (i := 4) (v := .pointer (some ⟨fb, i * 2, none⟩)) rfl (by kernel_rfl) (by kernel_rfl) (by kernel_rfl) (fun _ _ _ h => h) (Or.inl ⟨by rfl, fun w' hSw => by go_simp⟩) hHeld ?_
              try simp only [Act.put, List.getElem_toArray, List.getElem_cons_succ, List.getElem_cons_zero, List.setIfInBounds_toArray, List.set_cons_zero, List.set_cons_succ]
              refine wpAnyH_take (i := 5) (v := .slice fa lf fc) rfl (by kernel_rfl) (by kernel_rfl) (by kernel_rfl) (fun _ _ _ h => h) (Or.inl ⟨by rfl, fun w' hSw => by (have h := hSw.1; go_simp)⟩) hHeld ?_
              try simp only [Act.put, List.getElem_toArray, List.getElem_cons_succ, List.getElem_cons_zero, List.setIfInBounds_toArray, List.set_cons_zero, List.set_cons_succ]
              refine wpAnyH_take (i := 6) (v := .slice (some ⟨fb, 0, none⟩) n c1) rfl (by kernel_rfl) (by kernel_rfl) (by kernel_rfl) (fun _ _ _ h => h) (Or.inl ⟨by rfl, fun w' hSw => by kernel_rfl⟩) hHeld ?_
              try simp only [Act.put, List.getElem_toArray, List.getElem_cons_succ, List.getElem_cons_zero, List.setIfInBounds_toArray, List.set_cons_zero, List.set_cons_succ]
              refine wpAnyH_take (i := 7) (v := .int .i64 (i : Int)) rfl (by kernel_rfl) (by kernel_rfl) (by kernel_rfl) (fun _ _ _ h => h) (Or.inl ⟨by rfl, fun w' hSw => by kernel_rfl⟩) hHeld ?_
              try simp only [Act.put, List.getElem_toArray, List.getElem_cons_succ, List.getElem_cons_zero, List.setIfInBounds_toArray, List.set_cons_zero, List.set_cons_succ]
              refine wpAnyH_take (i := 8) (v := .pointer (some ⟨fb, i * 2, none⟩)) rfl (by kernel_rfl) (by kernel_rfl) (by kernel_rfl) (fun _ _ _ h => h) (Or.inl ⟨by rfl, fun w' hSw => by go_simp⟩) hHeld ?_
              try simp only [Act.put, List.getElem_toArray, List.getElem_cons_succ, List.getElem_cons_zero, List.setIfInBounds_toArray, List.set_cons_zero, List.set_cons_succ]
              refine wpAnyH_take (i := 9) (v := .pointer (some ⟨fb, i * 2 + 1, none⟩)) rfl (by kernel_rfl) (by kernel_rfl) (by kernel_rfl) (fun _ _ _ h => h) (Or.inl ⟨by rfl, fun w' hSw => by go_simp⟩) hHeld ?_
              try simp only [Act.put, List.getElem_toArray, List.getElem_cons_succ, List.getElem_cons_zero, List.setIfInBounds_toArray, List.set_cons_zero, List.set_cons_succ]
              refine wpAnyH_take (i := 10) (v := .slice ta lt tc) rfl (by kernel_rfl) (by kernel_rfl) (by kernel_rfl) (fun _ _ _ h => h) (Or.inl ⟨by rfl, fun w' hSw => by (have h := hSw.2; go_simp)⟩) hHeld ?_
              try simp only [Act.put, List.getElem_toArray, List.getElem_cons_succ, List.getElem_cons_zero, List.setIfInBounds_toArray, List.set_cons_zero, List.set_cons_succ]
              refine wpAnyH_ready (rs := [11]) (by kernel_rfl) (by simp) ?_
              refine AllReadyH.cons rfl (fun K hK => ?_) AllReadyH.nil
              go_simp
              refine Calls.mono (clStep_any (w := wr.drew) (HI.out.keepN ((Kep.refl _ _).drew)) HF.out.1 HF.out.2.1 HF.out.2.2.1 HF.out.2.2.2.1 HF.out.2.2.2.2) ?_
              rintro e w' ⟨rfl, hcl⟩
              have hs2 : w'.cell? ⟨fb, i * 2, none⟩ = some (.slice fa lf fc) ∧ w'.cell? ⟨fb, i * 2 + 1, none⟩ = some (.slice ta lt tc) := by
                obtain ⟨_, _, _, _, _, kk⟩ := hcl
                exact ⟨(kk.cell (World.block_lt_of_cell? _ _ HC.out.1) id).trans HC.out.1, (kk.cell (World.block_lt_of_cell? _ _ HC.out.2) id).trans HC.out.2⟩
              refine hK.out _ _ hs2 (fun hHeld2 => ?_)
              have HNEW : Hid (ClInv w4 xb (r :: (L.take i).reverse) w') := hcl
              clear hK hHeld hHeld2 hcl hs2 g1 g2
              try simp only [Act.put, List.getElem_toArray, List.getElem_cons_succ, List.getElem_cons_zero, List.setIfInBounds_toArray, List.set_cons_zero, List.set_cons_succ]
              refine wpAnyH_done (by kernel_rfl) ?_ _
              refine NoPanic.normal ?_
              go_wp2
              go_roundg (n - (i + 1))
              case measure => omega
              case rel => exact ⟨i + 1, by omega, by omega, by go_num, by rw [take_rev HR.out]; exact HNEW.out⟩
            · have hinI : ¬ (i : Int) < (n : Int) := by omega
              have hie : i = n := by omega
              have HX3 : Hid (ClInv w4 xb L.reverse wr) := by
                have := HI.out
                rw [hie, HS.out.2, List.take_length] at this
                exact this
              clear HI HX hie
              have hlen : L.length ≤ 1000000 := by have := HS.out.2; omega
              have HQ : Hid (ClInv w4 xb L.reverse wr ∧ L.length ≤ 1000000 ∧ Sts wr (.slice a n c) L ∧ Kep (fun _ => False) w wr ∧ Small L) := by
                obtain ⟨_, _, _, _, _, kk⟩ := HX3.out
                exact ⟨HX3.out, hlen, HM4.out.2.2.1.keepN kk, HM4.out.2.1.trans kk (fun _ _ h => h), HM4.out.2.2.2⟩
              clear hlen HX3 HM4
              go_wp2_with fail
              refine (clDesc_any HQ.out.1 (by simpa using HQ.out.2.1)).mono ?_
              rintro e w8 ⟨fx, tx, R, rfl, hl, hF, hT, k8⟩
              obtain ⟨m, hm⟩ : ∃ m, m = R.length := ⟨_, rfl⟩
              obtain ⟨xa, xc, rfl⟩ : ∃ a c, fx = .slice a m c := by obtain ⟨a, c, e, _⟩ := hF; exact ⟨a, c, by rw [hm]; exact e⟩
              obtain ⟨ua, uc, rfl⟩ : ∃ a c, tx = .slice a m c := by obtain ⟨a, c, e, _⟩ := hT; exact ⟨a, c, by rw [hm]; exact e⟩
              have HD : Hid (Listed R L.reverse ∧ Fr w8 (.slice xa m xc) R ∧ Tt w8 (.slice ua m uc) R ∧ Kep (fun _ => False) wr w8 ∧ m = R.length) := ⟨hl, hF, hT, k8, hm⟩
              clear hl hF hT k8 hm
              go_wp2_with fail
              refine (model_any (HQ.out.2.2.1.keepN HD.out.2.2.2.1) HQ.out.2.2.2.2 HV.out).mono ?_
              rintro e w9 ⟨v3, M, rfl, hM, k9, hM1, hM2⟩
              have hRM := listed_swept HD.out.1 hM1 hM2
              obtain ⟨wa, wc, rfl⟩ : ∃ a c, v3 = .slice a m c := by obtain ⟨a, c, e, _⟩ := hM; exact ⟨a, c, by rw [HD.out.2.2.2.2, hRM, List.length_reverse]; exact e⟩
              have HW : Hid (Fr w9 (.slice xa m xc) R ∧ Tt w9 (.slice ua m uc) R ∧ Sts w9 (.slice wa m wc) M) := ⟨HD.out.2.1.keepN k9, HD.out.2.2.1.keepN k9, hM⟩
              have HE : Hid (Kep (fun _ => False) w w9 ∧ Listed R L.reverse ∧ m = R.length ∧ R = M.reverse) := ⟨(HQ.out.2.2.2.1.trans HD.out.2.2.2.1 (fun _ _ h => h)).trans k9 (fun _ _ h => h), HD.out.1, HD.out.2.2.2.2, hRM⟩
              have HZ : Hid (∀ x ∈ R, x.1.length ≤ 2097152 ∧ bdLen x.2 ≤ 2097152) := fun x hx => by
                obtain ⟨⟨r1, h1, e1⟩, r2, h2, e2⟩ := HE.out.2.1.mem hx
                have g1 := HQ.out.2.2.2.2.2 r1 (by simpa using h1)
                have g2 := HQ.out.2.2.2.2.2 r2 (by simpa using h2)
                rw [← e1, ← e2]; omega
              have hmI : (m : Int) ≤ 4096 := by have := HE.out.2.1.len; have := HE.out.2.2.1; have := HS.out.2; simp at *; omega
              clear hM k9 hM1 hM2 hRM HD HQ
              go_wp2
              go_loopw [9] (fun q wr => (∃ i : Nat, i ≤ m ∧ q = .int .i64 (i : Int)) ∧ Kep (fun _ => False) w9 wr) (fun q _ => m - (intOf q).toNat)
              case atStart => exact ⟨⟨0, Nat.zero_le _, rfl⟩, Kep.refl _ _⟩
              case round =>
                obtain ⟨⟨i, hi, rfl⟩, hk⟩ := hrel
                have HK : Hid (Kep (fun _ => False) w9 wr) := hk
                clear hk
                by_cases hin : i < m
                · have hinI : (i : Int) < (m : Int) := by omega
                  obtain ⟨j, hj⟩ : ∃ j, j = m - 1 - i := ⟨_, rfl⟩
                  obtain ⟨r, hr⟩ := ex_at HE.out.2.2.1 (by omega : j < m)
                  have hr2 : M[i]? = some r := by
                    have e1 := HE.out.2.2.1
                    rw [HE.out.2.2.2] at hr e1
                    rw [List.length_reverse] at e1
                    rw [List.getElem?_reverse (by omega)] at hr
                    rw [← hr]; congr 1; omega
                  obtain ⟨b1, f1, n1, q1, rfl, g1, k1⟩ := fr_at HW.out.1 hr
                  obtain ⟨b2, f2, n2, q2, rfl, g2, k2⟩ := tt_at HW.out.2.1 hr
                  obtain ⟨b3, o, f3, n3, q3, f4, n4, q4, rfl, g3, g4, k3, k4⟩ := sts_at HW.out.2.2 hr2
                  have hji : (m : Int) - 1 - (i : Int) = (j : Int) := by omega
                  have hw1 : IntKind.i64.wrap ((m : Int) - 1) = (m : Int) - 1 := by rw [IntKind.wrap_i64]; omega
                  have hw2 : IntKind.i64.wrap ((m : Int) - 1 - (i : Int)) = (m : Int) - 1 - (i : Int) := by rw [IntKind.wrap_i64]; omega
                  have hjm : (j : Int) < (m : Int) := by omega
                  have HSS : Hid (∀ w', Kep (fun _ => False) w9 w' → w'.cell? ⟨b1, j, none⟩ = some (.slice f1 n1 q1) ∧ w'.cell? ⟨b2, j, none⟩ = some (.slice f2 n2 q2) ∧ w'.cell? ⟨b3, o + i * 2, none⟩ = some (.slice f3 n3 q3) ∧ w'.cell? ⟨b3, o + i * 2 + 1, none⟩ = some (.slice f4 n4 q4)) := fun w' k => ⟨kcell k g1, kcell k g2, kcell k g3, kcell k g4⟩
                  have HB : Hid (Bs w9 (.slice f1 n1 q1) r.1 ∧ Bnd w9 (.slice f2 n2 q2) r.2 ∧ Bs w9 (.slice f3 n3 q3) r.1 ∧ Bnd w9 (.slice f4 n4 q4) r.2 ∧ r.1.length ≤ 2097152 ∧ bdLen r.2 ≤ 2097152) := ⟨k1, k2, k3, k4, HZ.out r (List.mem_of_getElem? hr)⟩
                  clear g1 g2 g3 g4 k1 k2 k3 k4 hr hr2 hj
                  go_upto_region 23 with fail
                  try rw [hji]
                  clear hji hw1 hw2
                  refine wp_region_noPanic ?_
                  refine wp_region_held_drew (S := fun w' => w'.cell? ⟨b1, j, none⟩ = some (.slice f1 n1 q1) ∧ w'.cell? ⟨b2, j, none⟩ = some (.slice f2 n2 q2) ∧ w'.cell? ⟨b3, o + i * 2, none⟩ = some (.slice f3 n3 q3) ∧ w'.cell? ⟨b3, o + i * 2 + 1, none⟩ = some (.slice f4 n4 q4)) (by kernel_rfl) (HSS.out _ HK.out.drew) (fun hHeld => ?_)
                  refine wpAnyH_take (i := 0) (v := .slice (some ⟨b1, 0, none⟩) m xc) rfl (by kernel_rfl) (by kernel_rfl) (by kernel_rfl) (fun _ _ _ h => h) (Or.inl ⟨by rfl, fun w' hSw => by kernel_rfl⟩) hHeld ?_
                  try simp only [Act.put, List.getElem_toArray, List.getElem_cons_succ, List.getElem_cons_zero, List.setIfInBounds_toArray, List.set_cons_zero, List.set_cons_succ]
                  refine wpAnyH_take (i := 1) (v := .int .i64 (j : Int)) rfl (by kernel_rfl) (by kernel_rfl) (by kernel_rfl) (fun _ _ _ h => h) (Or.inl ⟨by rfl, fun w' hSw => by kernel_rfl⟩) hHeld ?_
                  try simp only [Act.put, List.getElem_toArray, List.getElem_cons_succ, List.getElem_cons_zero, List.setIfInBounds_toArray, List.set_cons_zero, List.set_cons_succ]
                  refine wpAnyH_take (i := 2) (v := .pointer (some ⟨b1, j, none⟩)) rfl (by kernel_rfl) (by kernel_rfl) (by kernel_rfl) (fun _ _ _ h => h) (Or.inl ⟨by rfl, fun w' hSw => by go_simp⟩) hHeld ?_
                  try simp only [Act.put, List.getElem_toArray, List.getElem_cons_succ, List.getElem_cons_zero, List.setIfInBounds_toArray, List.set_cons_zero, List.set_cons_succ]
                  refine wpAnyH_take (i := 3) (v := .slice f1 n1 q1) rfl (by kernel_rfl) (by kernel_rfl) (by kernel_rfl) (fun _ _ _ h => h) (Or.inl ⟨by rfl, fun w' hSw => by (have h := hSw.1; go_simp)⟩) hHeld ?_
                  try simp only [Act.put, List.getElem_toArray, List.getElem_cons_succ, List.getElem_cons_zero, List.setIfInBounds_toArray, List.set_cons_zero, List.set_cons_succ]
                  refine wpAnyH_take (i := 4) (v := .slice (some ⟨b3, o, none⟩) m wc) rfl (by kernel_rfl) (by kernel_rfl) (by kernel_rfl) (fun _ _ _ h => h) (Or.inl ⟨by rfl, fun w' hSw => by kernel_rfl⟩) hHeld ?_
                  try simp only [Act.put, List.getElem_toArray, List.getElem_cons_succ, List.getElem_cons_zero, List.setIfInBounds_toArray, List.set_cons_zero, List.set_cons_succ]
                  refine wpAnyH_take (i := 5) (v := .int .i64 (i : Int)) rfl (by kernel_rfl) (by kernel_rfl) (by kernel_rfl) (fun _ _ _ h => h) (Or.inl ⟨by rfl, fun w' hSw => by kernel_rfl⟩) hHeld ?_
                  try simp only [Act.put, List.getElem_toArray, List.getElem_cons_succ, List.getElem_cons_zero, List.setIfInBounds_toArray, List.set_cons_zero, List.set_cons_succ]
                  refine wpAnyH_take (i := 6) (v := .pointer (some ⟨b3, o + i * 2, none⟩)) rfl (by kernel_rfl) (by kernel_rfl) (by kernel_rfl) (fun _ _ _ h => h) (Or.inl ⟨by rfl, fun w' hSw => by go_simp⟩) hHeld ?_
                  try simp only [Act.put, List.getElem_toArray, List.getElem_cons_succ, List.getElem_cons_zero, List.setIfInBounds_toArray, List.set_cons_zero, List.set_cons_succ]
                  refine wpAnyH_take (i := 7) (v := .pointer (some ⟨b3, o + i * 2, none⟩)) rfl (by kernel_rfl) (by kernel_rfl) (by kernel_rfl) (fun _ _ _ h => h) (Or.inl ⟨by rfl, fun w' hSw => by go_simp⟩) hHeld ?_
                  try simp only [Act.put, List.getElem_toArray, List.getElem_cons_succ, List.getElem_cons_zero, List.setIfInBounds_toArray, List.set_cons_zero, List.set_cons_succ]
                  refine wpAnyH_take (i := 8) (v := .slice f3 n3 q3) rfl (by kernel_rfl) (by kernel_rfl) (by kernel_rfl) (fun _ _ _ h => h) (Or.inl ⟨by rfl, fun w' hSw => by (have h := hSw.2.2.1; go_simp)⟩) hHeld ?_
                  try simp only [Act.put, List.getElem_toArray, List.getElem_cons_succ, List.getElem_cons_zero, List.setIfInBounds_toArray, List.set_cons_zero, List.set_cons_succ]
                  refine wpAnyH_ready (rs := [9]) (by kernel_rfl) (by simp) ?_
                  refine AllReadyH.cons rfl (fun K hK => ?_) AllReadyH.nil
                  go_simp
                  refine Calls.mono (same_yes (w := wr.drew) (HB.out.1.keepN (HK.out.drew)) (HB.out.2.2.1.keepN (HK.out.drew)) HB.out.2.2.2.2.1) ?_
                  rintro e wq1 ⟨rfl, kk⟩
                  have HK1 : Hid (Kep (fun _ => False) w9 wq1) := (HK.out.drew).trans kk (fun _ _ h => h)
                  refine hK.out _ _ (HSS.out _ HK1.out) (fun hHeld1 => ?_)
                  clear hK kk hHeld
                  try simp only [Act.put, List.getElem_toArray, List.getElem_cons_succ, List.getElem_cons_zero, List.setIfInBounds_toArray, List.set_cons_zero, List.set_cons_succ]
                  refine wpAnyH_take (i := 10) (v := .bool false) rfl (by kernel_rfl) (by kernel_rfl) (by kernel_rfl) (fun _ _ _ h => h) (Or.inl ⟨by rfl, fun w' hSw => by kernel_rfl⟩) hHeld1 ?_
                  try simp only [Act.put, List.getElem_toArray, List.getElem_cons_succ, List.getElem_cons_zero, List.setIfInBounds_toArray, List.set_cons_zero, List.set_cons_succ]
                  refine wpAnyH_take (i := 11) (v := .bool false) rfl (by kernel_rfl) (by kernel_rfl) (by kernel_rfl) (fun _ _ _ h => h) (Or.inl ⟨by rfl, fun w' hSw => by kernel_rfl⟩) hHeld1 ?_
                  try simp only [Act.put, List.getElem_toArray, List.getElem_cons_succ, List.getElem_cons_zero, List.setIfInBounds_toArray, List.set_cons_zero, List.set_cons_succ]
                  refine wpAnyH_take (i := 12) (v := .slice (some ⟨b2, 0, none⟩) m uc) rfl (by kernel_rfl) (by kernel_rfl) (by kernel_rfl) (fun _ _ _ h => h) (Or.inl ⟨by rfl, fun w' hSw => by kernel_rfl⟩) hHeld1 ?_
                  try simp only [Act.put, List.getElem_toArray, List.getElem_cons_succ, List.getElem_cons_zero, List.setIfInBounds_toArray, List.set_cons_zero, List.set_cons_succ]
                  refine wpAnyH_take (i := 13) (v := .int .i64 (j : Int)) rfl (by kernel_rfl) (by kernel_rfl) (by kernel_rfl) (fun _ _ _ h => h) (Or.inl ⟨by rfl, fun w' hSw => by kernel_rfl⟩) hHeld1 ?_
                  try simp only [Act.put, List.getElem_toArray, List.getElem_cons_succ, List.getElem_cons_zero, List.setIfInBounds_toArray, List.set_cons_zero, List.set_cons_succ]
                  refine wpAnyH_take (i := 14) (v := .pointer (some ⟨b2, j, none⟩)) rfl (by kernel_rfl) (by kernel_rfl) (by kernel_rfl) (fun _ _ _ h => h) (Or.inl ⟨by rfl, fun w' hSw => by go_simp⟩) hHeld1 ?_
                  try simp only [Act.put, List.getElem_toArray, List.getElem_cons_succ, List.getElem_cons_zero, List.setIfInBounds_toArray, List.set_cons_zero, List.set_cons_succ]
                  refine wpAnyH_take (i := 15) (v := .slice f2 n2 q2) rfl (by kernel_rfl) (by kernel_rfl) (by kernel_rfl) (fun _ _ _ h => h) (Or.inl ⟨by rfl, fun w' hSw => by (have h := hSw.2.1; go_simp)⟩) hHeld1 ?_
                  try simp only [Act.put, List.getElem_toArray, List.getElem_cons_succ, List.getElem_cons_zero, List.setIfInBounds_toArray, List.set_cons_zero, List.set_cons_succ]
                  refine wpAnyH_take (i := 16) (v := .slice (some ⟨b3, o, none⟩) m wc) rfl (by kernel_rfl) (by kernel_rfl) (by kernel_rfl) (fun _ _ _ h => h) (Or.inl ⟨by rfl, fun w' hSw => by kernel_rfl⟩) hHeld1 ?_
                  try simp only [Act.put, List.getElem_toArray, List.getElem_cons_succ, List.getElem_cons_zero, List.setIfInBounds_toArray, List.set_cons_zero, List.set_cons_succ]
                  refine wpAnyH_take (i := 17) (v := .int .i64 (i : Int)) rfl (by kernel_rfl) (by kernel_rfl) (by kernel_rfl) (fun _ _ _ h => h) (Or.inl ⟨by rfl, fun w' hSw => by kernel_rfl⟩) hHeld1 ?_
                  try simp only [Act.put, List.getElem_toArray, List.getElem_cons_succ, List.getElem_cons_zero, List.setIfInBounds_toArray, List.set_cons_zero, List.set_cons_succ]
                  refine wpAnyH_take (i := 18) (v := .pointer (some ⟨b3, o + i * 2, none⟩)) rfl (by kernel_rfl) (by kernel_rfl) (by kernel_rfl) (fun _ _ _ h => h) (Or.inl ⟨by rfl, fun w' hSw => by go_simp⟩) hHeld1 ?_
                  try simp only [Act.put, List.getElem_toArray, List.getElem_cons_succ, List.getElem_cons_zero, List.setIfInBounds_toArray, List.set_cons_zero, List.set_cons_succ]
                  refine wpAnyH_take (i := 19) (v := .pointer (some ⟨b3, o + i * 2 + 1, none⟩)) rfl (by kernel_rfl) (by kernel_rfl) (by kernel_rfl) (fun _ _ _ h => h) (Or.inl ⟨by rfl, fun w' hSw => by go_simp⟩) hHeld1 ?_
                  try simp only [Act.put, List.getElem_toArray, List.getElem_cons_succ, List.getElem_cons_zero, List.setIfInBounds_toArray, List.set_cons_zero, List.set_cons_succ]
                  refine wpAnyH_take (i := 20) (v := .slice f4 n4 q4) rfl (by kernel_rfl) (by kernel_rfl) (by kernel_rfl) (fun _ _ _ h => h) (Or.inl ⟨by rfl, fun w' hSw => by (have h := hSw.2.2.2; go_simp)⟩) hHeld1 ?_
                  try simp only [Act.put, List.getElem_toArray, List.getElem_cons_succ, List.getElem_cons_zero, List.setIfInBounds_toArray, List.set_cons_zero, List.set_cons_succ]
                  refine wpAnyH_ready (rs := [21]) (by kernel_rfl) (by simp) ?_
                  refine AllReadyH.cons rfl (fun K hK => ?_) AllReadyH.nil
                  go_simp
                  refine Calls.mono (bound_yes (w := wq1) (HB.out.2.1.keepN (HK1.out)) (HB.out.2.2.2.1.keepN (HK1.out)) HB.out.2.2.2.2.2) ?_
                  rintro e wq2 ⟨rfl, kk⟩
                  have HK2 : Hid (Kep (fun _ => False) w9 wq2) := (HK1.out).trans kk (fun _ _ h => h)
                  refine hK.out _ _ (HSS.out _ HK2.out) (fun hHeld2 => ?_)
                  clear hK kk hHeld1
                  try simp only [Act.put, List.getElem_toArray, List.getElem_cons_succ, List.getElem_cons_zero, List.setIfInBounds_toArray, List.set_cons_zero, List.set_cons_succ]
                  refine wpAnyH_take (i := 22) (v := .bool false) rfl (by kernel_rfl) (by kernel_rfl) (by kernel_rfl) (fun _ _ _ h => h) (Or.inl ⟨by rfl, fun w' hSw => by kernel_rfl⟩) hHeld2 ?_
                  try simp only [Act.put, List.getElem_toArray, List.getElem_cons_succ, List.getElem_cons_zero, List.setIfInBounds_toArray, List.set_cons_zero, List.set_cons_succ]
                  refine wpAnyH_take (i := 23) (v := .bool false) rfl (by kernel_rfl) (by kernel_rfl) (by kernel_rfl) (fun _ _ _ h => h) (Or.inl ⟨by rfl, fun w' hSw => by kernel_rfl⟩) hHeld2 ?_
                  try simp only [Act.put, List.getElem_toArray, List.getElem_cons_succ, List.getElem_cons_zero, List.setIfInBounds_toArray, List.set_cons_zero, List.set_cons_succ]
                  refine wpAnyH_done (by kernel_rfl) ?_ _
                  refine NoPanic.normal ?_
                  clear hHeld2
                  go_wp2
                  go_roundw
                  case rel => exact ⟨⟨i + 1, by omega, by go_num⟩, HK2.out⟩
                  case measure => simp [intOf]; omega
                · have hinI : ¬ (i : Int) < (m : Int) := by omega
                  go_wp2
                  go_ret
                  exact ⟨rfl, HE.out.1.trans HK.out (fun _ _ h => h)⟩
end Go.Proofs.Qxb6615764a
