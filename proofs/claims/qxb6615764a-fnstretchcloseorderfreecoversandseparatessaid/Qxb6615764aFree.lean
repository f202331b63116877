/-
  The walk of FnStretchCloseOrderFreeCoversAndSeparates (4).
-/
import Derived.Test.Qxb6615764aLem
namespace Go.Proofs.Qxb6615764a
open Go.RowKit
set_option linter.unusedVariables false
set_option linter.unusedSimpArgs false
set_option linter.unusedSectionVars false

set_option maxHeartbeats 4000000 in
set_option maxRecDepth 100000 in
theorem free_any {w : World} {v : Value} {L : List Iv} (hv : Sts w v L) : Calls Try.prog 4 #[v] w fun e w' => TrueK w e w' := by
  obtain ⟨n, hn⟩ : ∃ n, n = L.length := ⟨_, rfl⟩
  obtain ⟨a, c, rfl⟩ : ∃ a c, v = .slice a n c := by obtain ⟨a, c, e, _⟩ := hv; exact ⟨a, c, by rw [hn]; exact e⟩
  have HS : Hid (Sts w (.slice a n c) L ∧ n = L.length) := ⟨hv, hn⟩
  clear hv hn
  go_enter Try.func4, Try.ntmps4
  go_wp2_with fail
  refine (zzBytes15_any HS.out.1).mono ?_
  rintro e w' ⟨b, rfl, hb, k, rfl⟩
  cases b with
  | false =>
    clear hb
    go_wp2
    go_ret
    exact ⟨rfl, (Kep.refl _ _).drewN _⟩
  | true =>
    have HM : Hid (Small L ∧ Sts (w.drewN k) (.slice a n c) L ∧ Kep (fun _ => False) w (w.drewN k)) := ⟨hb rfl, HS.out.1.keepN ((Kep.refl _ _).drewN _), (Kep.refl _ _).drewN _⟩
    clear hb
    generalize w.drewN k = w1 at *
    by_cases hbig : (4096 : Int) < (n : Int)
    · go_wp2
      go_ret
      exact ⟨rfl, HM.out.2.2⟩
    · go_wp2_with fail
      refine (zzBytesOK_any HM.out.2.1 HM.out.1).mono ?_
      rintro e w' ⟨b, rfl, hb, k, rfl⟩
      clear hb
      have HM2 : Hid (Small L ∧ Sts (w1.drewN k) (.slice a n c) L ∧ Kep (fun _ => False) w (w1.drewN k)) := ⟨HM.out.1, HM.out.2.1.keepN ((Kep.refl _ _).drewN _), HM.out.2.2.drewN _⟩
      clear HM
      generalize w1.drewN k = w2 at *
      cases b with
      | false =>
        go_wp2
        go_ret
        exact ⟨rfl, HM2.out.2.2⟩
      | true =>
        go_wp2_with fail
        refine (zzValid_any HM2.out.2.1 HM2.out.1).mono ?_
        rintro e w' ⟨b, rfl, hb, k, rfl⟩
        have HM3 : Hid (Small L ∧ Sts (w2.drewN k) (.slice a n c) L ∧ Kep (fun _ => False) w (w2.drewN k)) := ⟨HM2.out.1, HM2.out.2.1.keepN ((Kep.refl _ _).drewN _), HM2.out.2.2.drewN _⟩
        clear HM2
        generalize w2.drewN k = w3 at *
        cases b with
        | false =>
          clear hb
          go_wp2
          go_ret
          exact ⟨rfl, HM3.out.2.2⟩
        | true =>
          have HV : Hid (AllV L) := hb rfl
          have hnI : (n : Int) ≤ 4096 := by omega
          clear hb hbig
          go_wp2_with fail
          refine (zzCS_any HM3.out.2.1 HM3.out.1).mono ?_
          rintro e w4 ⟨v1, rfl, hy1, k1⟩
          obtain ⟨a1, c1, rfl⟩ : ∃ a1 c1, v1 = .slice a1 n c1 := by obtain ⟨a1, c1, e, _⟩ := hy1; exact ⟨a1, c1, by rw [HS.out.2]; exact e⟩
          have HM4 : Hid (StsY w4 (.slice a1 n c1) L ∧ Kep (fun _ => False) w w4 ∧ Sts w4 (.slice a n c) L ∧ Small L) := ⟨hy1, HM3.out.2.2.trans k1 (fun _ _ h => h), HM3.out.2.1.keepN k1, HM3.out.1⟩
          clear hy1 k1 HM3
          go_wp2_with fail
          refine (zzCS_any HM4.out.2.2.1 HM4.out.2.2.2).mono ?_
          rintro e w5 ⟨v2, rfl, hy2, k2⟩
          obtain ⟨a2, c2, rfl⟩ : ∃ a2 c2, v2 = .slice a2 n c2 := by obtain ⟨a2, c2, e, _⟩ := hy2; exact ⟨a2, c2, by rw [HS.out.2]; exact e⟩
          have HM5 : Hid (StsY w5 (.slice a1 n c1) L ∧ StsY w5 (.slice a2 n c2) L ∧ Kep (fun _ => False) w w5 ∧ Sts w5 (.slice a n c) L ∧ Small L) := ⟨HM4.out.1.keepN k2, hy2, HM4.out.2.1.trans k2 (fun _ _ h => h), HM4.out.2.2.1.keepN k2, HM4.out.2.2.2⟩
          clear hy2 k2 HM4
          go_wp2_with fail
          refine (clNew_any w5).mono ?_
          rintro e w6 ⟨xb, rfl, hc⟩
          have HX : Hid (ClInv w5 xb [] w6) := hc
          clear hc
          go_wp2
          go_loopg [6] n (fun k q wr => ∃ i : Nat, i ≤ n ∧ k = n - i ∧ q = .int .i64 (i : Int) ∧ ClInv w5 xb (L.take i).reverse wr)
          case atStart => exact ⟨0, Nat.zero_le _, rfl, rfl, HX.out⟩
          case round =>
            obtain ⟨i, hi, rfl, rfl, hinv⟩ := hrel
            have HI : Hid (ClInv w5 xb (L.take i).reverse wr) := hinv
            clear hinv
            by_cases hin : i < n
            · have hinI : (i : Int) < (n : Int) := by omega
              obtain ⟨fb, c0, r, fa, fc, ta, tc, ev, h1, h2, h3, h4, h5, h6, h7⟩ := StsY.at HM5.out.1 (by have := HS.out.2; omega : i < L.length)
              obtain ⟨ea, ec⟩ : a1 = some ⟨fb, 0, none⟩ ∧ c1 = c0 := by injection ev with e1 e2 e3; exact ⟨e1, e3⟩
              subst ea
              subst ec
              obtain ⟨lf, hlf⟩ : ∃ lf, lf = r.1.length := ⟨_, rfl⟩
              obtain ⟨lt, hlt⟩ : ∃ lt, lt = bdLen r.2 := ⟨_, rfl⟩
              rw [← hlf] at h2 h4 h6
              rw [← hlt] at h3 h5 h7
              have HF : Hid (Bs w5 (.slice fa lf fc) r.1 ∧ Bnd w5 (.slice ta lt tc) r.2 ∧ By w5 (.slice fa lf fc) ∧ By w5 (.slice ta lt tc) ∧ Valid r) := ⟨h4, h5, h6, h7, HV.out r (List.mem_of_getElem? h1)⟩
              have HC : Hid (w5.cell? ⟨fb, i * 2, none⟩ = some (.slice fa lf fc) ∧ w5.cell? ⟨fb, i * 2 + 1, none⟩ = some (.slice ta lt tc)) := ⟨h2, h3⟩
              have HR : Hid (L[i]? = some r) := h1
              have g1 : wr.cell? ⟨fb, i * 2, none⟩ = some (.slice fa lf fc) := by
                obtain ⟨_, _, _, _, _, kk⟩ := HI.out
                exact (kk.cell (World.block_lt_of_cell? _ _ h2) id).trans h2
              have g2 : wr.cell? ⟨fb, i * 2 + 1, none⟩ = some (.slice ta lt tc) := by
                obtain ⟨_, _, _, _, _, kk⟩ := HI.out
                exact (kk.cell (World.block_lt_of_cell? _ _ h3) id).trans h3
              clear h1 h2 h3 h4 h5 h6 h7 hlf hlt ev
              go_upto_region 15 with fail
              refine wp_region_noPanic ?_
              refine wp_region_held_drew (S := fun w' => w'.cell? ⟨fb, i * 2, none⟩ = some (.slice fa lf fc) ∧ w'.cell? ⟨fb, i * 2 + 1, none⟩ = some (.slice ta lt tc)) (by kernel_rfl) ⟨g1, g2⟩ (fun hHeld => ?_)
              refine wpAnyH_take (i := 0) (v := .pointer (some ⟨xb, 0, none⟩)) rfl (by kernel_rfl) (by kernel_rfl) (by kernel_rfl) (fun _ _ _ h => h) (Or.inl ⟨by rfl, fun w' hSw => by kernel_rfl⟩) hHeld ?_
              try simp only [Act.put, List.getElem_toArray, List.getElem_cons_succ, List.getElem_cons_zero, List.setIfInBounds_toArray, List.set_cons_zero, List.set_cons_succ]
              refine wpAnyH_take (i := 1) (v := .slice (some ⟨fb, 0, none⟩) n c1) rfl (by kernel_rfl) (by kernel_rfl) (by kernel_rfl) (fun _ _ _ h => h) (Or.inl ⟨by rfl, fun w' hSw => by kernel_rfl⟩) hHeld ?_
              try simp only [Act.put, List.getElem_toArray, List.getElem_cons_succ, List.getElem_cons_zero, List.setIfInBounds_toArray, List.set_cons_zero, List.set_cons_succ]
              refine wpAnyH_take (i := 2) (v := .int .i64 (i : Int)) rfl (by kernel_rfl) (by kernel_rfl) (by kernel_rfl) (fun _ _ _ h => h) (Or.inl ⟨by rfl, fun w' hSw => by kernel_rfl⟩) hHeld ?_
              try simp only [Act.put, List.getElem_toArray, List.getElem_cons_succ, List.getElem_cons_zero, List.setIfInBounds_toArray, List.set_cons_zero, List.set_cons_succ]
              refine wpAnyH_take (i := 3) (v := .pointer (some ⟨fb, i * 2, none⟩)) rfl (by kernel_rfl) (by kernel_rfl) (by kernel_rfl) (fun _ _ _ h => h) (Or.inl ⟨by rfl, fun w' hSw => by go_simp⟩) hHeld ?_
              try simp only [Act.put, List.getElem_toArray, List.getElem_cons_succ, List.getElem_cons_zero, List.setIfInBounds_toArray, List.set_cons_zero, List.set_cons_succ]
              refine wpAnyH_take (i := 4) (v := .pointer (some ⟨fb, i * 2, none⟩)) rfl (by kernel_rfl) (by kernel_rfl) (by kernel_rfl) (fun _ _ _ h => h) (Or.inl ⟨by rfl, fun w' hSw => by go_simp⟩) hHeld ?_
              try simp only [Act.put, List.getElem_toArray, List.getElem_cons_succ, List.getElem_cons_zero, List.setIfInBounds_toArray, List.set_cons_zero, List.set_cons_succ]
              refine wpAnyH_take (i := 5) (v := .slice fa lf fc) rfl (by kernel_rfl) (by kernel_rfl) (by kernel_rfl) (fun _ _ _ h => h) (Or.inl ⟨by rfl, fun w' hSw => by (have h := hSw.1; go_simp)⟩) hHeld ?_
              try simp only [Act.put, List.getElem_toArray, List.getElem_cons_succ, List.getElem_cons_zero, List.setIfInBounds_toArray, List.set_cons_zero, List.set_cons_succ]
              refine wpAnyH_take (i := 6) (v := .slice (some ⟨fb, 0, none⟩) n c1) rfl (by kernel_rfl) (by kernel_rfl) (by kernel_rfl) (fun _ _ _ h => h) (Or.inl ⟨by rfl, fun w' hSw => by kernel_rfl⟩) hHeld ?_
              try simp only [Act.put, List.getElem_toArray, List.getElem_cons_succ, List.getElem_cons_zero, List.setIfInBounds_toArray, List.set_cons_zero, List.set_cons_succ]
              refine wpAnyH_take (i := 7) (v := .int .i64 (i : Int)) rfl (by kernel_rfl) (by kernel_rfl) (by kernel_rfl) (fun _ _ _ h => h) (Or.inl ⟨by rfl, fun w' hSw => by kernel_rfl⟩) hHeld ?_
              try simp only [Act.put, List.getElem_toArray, List.getElem_cons_succ, List.getElem_cons_zero, List.setIfInBounds_toArray, List.set_cons_zero, List.set_cons_succ]
              refine wpAnyH_take (i := 8) (v := .pointer (some ⟨fb, i * 2, none⟩)) rfl (by kernel_rfl) (by kernel_rfl) (by kernel_rfl) (fun _ _ _ h => h) (Or.inl ⟨by rfl, fun w' hSw => by go_simp⟩) hHeld ?_
              try simp only [Act.put, List.getElem_toArray, List.getElem_cons_succ, List.getElem_cons_zero, List.setIfInBounds_toArray, List.set_cons_zero, List.set_cons_succ]
              refine wpAnyH_take (i := 9) (v := .pointer (some ⟨fb, i * 2 + 1, none⟩)) rfl (by kernel_rfl) (by kernel_rfl) (by kernel_rfl) (fun _ _ _ h => h) (Or.inl ⟨by rfl, fun w' hSw => by go_simp⟩) hHeld ?_
              try simp only [Act.put, List.getElem_toArray, List.getElem_cons_succ, List.getElem_cons_zero, List.setIfInBounds_toArray, List.set_cons_zero, List.set_cons_succ]
              refine wpAnyH_take (i := 10) (v := .slice ta lt tc) rfl (by kernel_rfl) (by kernel_rfl) (by kernel_rfl) (fun _ _ _ h => h) (Or.inl ⟨by rfl, fun w' hSw => by (have h := hSw.2; go_simp)⟩) hHeld ?_
              try simp only [Act.put, List.getElem_toArray, List.getElem_cons_succ, List.getElem_cons_zero, List.setIfInBounds_toArray, List.set_cons_zero, List.set_cons_succ]
              refine wpAnyH_ready (rs := [11]) (by kernel_rfl) (by simp) ?_
              refine AllReadyH.cons rfl (fun K hK => ?_) AllReadyH.nil
              go_simp
              refine Calls.mono (clStep_any (w := wr.drew) (HI.out.keepN ((Kep.refl _ _).drew)) HF.out.1 HF.out.2.1 HF.out.2.2.1 HF.out.2.2.2.1 HF.out.2.2.2.2) ?_
              rintro e w' ⟨rfl, hcl⟩
              have hs2 : w'.cell? ⟨fb, i * 2, none⟩ = some (.slice fa lf fc) ∧ w'.cell? ⟨fb, i * 2 + 1, none⟩ = some (.slice ta lt tc) := by
                obtain ⟨_, _, _, _, _, kk⟩ := hcl
                exact ⟨(kk.cell (World.block_lt_of_cell? _ _ HC.out.1) id).trans HC.out.1, (kk.cell (World.block_lt_of_cell? _ _ HC.out.2) id).trans HC.out.2⟩
              refine hK.out _ _ hs2 (fun hHeld2 => ?_)
              have HNEW : Hid (ClInv w5 xb (r :: (L.take i).reverse) w') := hcl
              clear hK hHeld hHeld2 hcl hs2 g1 g2
              try simp only [Act.put, List.getElem_toArray, List.getElem_cons_succ, List.getElem_cons_zero, List.setIfInBounds_toArray, List.set_cons_zero, List.set_cons_succ]
              refine wpAnyH_done (by kernel_rfl) ?_ _
              refine NoPanic.normal ?_
              go_wp2
              go_roundg (n - (i + 1))
              case measure => omega
              case rel => exact ⟨i + 1, by omega, by omega, by go_num, by rw [take_rev HR.out]; exact HNEW.out⟩
            · have hinI : ¬ (i : Int) < (n : Int) := by omega
              have hie : i = n := by omega
              have HX3 : Hid (ClInv w5 xb L.reverse wr) := by
                have := HI.out
                rw [hie, HS.out.2, List.take_length] at this
                exact this
              clear HI HX hie
              go_wp2_with fail
              refine (clNew_any wr).mono ?_
              rintro e w7 ⟨yb, rfl, hc⟩
              have HM7 : Hid (ClInv w5 xb L.reverse wr ∧ StsY wr (.slice a2 n c2) L ∧ Sts wr (.slice a n c) L ∧ Kep (fun _ => False) w wr ∧ Small L) := by
                obtain ⟨_, _, _, _, _, kk⟩ := HX3.out
                exact ⟨HX3.out, HM5.out.2.1.keepN kk, HM5.out.2.2.2.1.keepN kk, HM5.out.2.2.1.trans kk (fun _ _ h => h), HM5.out.2.2.2.2⟩
              have HY : Hid (ClInv wr yb [] w7) := hc
              clear hc HX3 HM5
              generalize wr = w6 at *
              go_wp2
              go_loopg [8] n (fun k q wr => ∃ i : Nat, i ≤ n ∧ k = i ∧ q = .int .i64 ((i : Int) - 1) ∧ ClInv w6 yb (L.drop i) wr)
              case atStart => exact ⟨n, Nat.le_refl _, rfl, by go_num, by rw [HS.out.2, List.drop_length]; exact HY.out⟩
              case round =>
                obtain ⟨m, hm, hkm, rfl, hinv⟩ := hrel
                cases m with
                | zero =>
                  have HY3 : Hid (ClInv w6 yb L wr) := hinv
                  have ez : ((0 : Nat) : Int) - 1 = -1 := by omega
                  rw [ez]
                  clear hinv hkm hm ez HY
                  have hlen : L.length ≤ 1000000 := by have := HS.out.2; omega
                  have k67 : Kep (fun _ => False) w6 wr := by
                    obtain ⟨_, _, _, _, _, kk⟩ := HY3.out
                    exact kk
                  have HQ : Hid (ClInv w5 xb L.reverse wr ∧ L.length ≤ 1000000 ∧ Sts wr (.slice a n c) L ∧ Kep (fun _ => False) w wr) := ⟨HM7.out.1.keepN k67, hlen, HM7.out.2.2.1.keepN k67, HM7.out.2.2.2.1.trans k67 (fun _ _ h => h)⟩
                  have HSM : Hid (Small L) := HM7.out.2.2.2.2
                  clear hlen k67 HM7
                  go_wp2_with fail
                  refine (clDesc_any HQ.out.1 (by simpa using HQ.out.2.1)).mono ?_
                  rintro e w8 ⟨fx, tx, R, rfl, hl, hF, hT, k8⟩
                  obtain ⟨m, hm⟩ : ∃ m, m = R.length := ⟨_, rfl⟩
                  obtain ⟨xa, xc, rfl⟩ : ∃ a c, fx = .slice a m c := by obtain ⟨a, c, e, _⟩ := hF; exact ⟨a, c, by rw [hm]; exact e⟩
                  obtain ⟨ua, uc, rfl⟩ : ∃ a c, tx = .slice a m c := by obtain ⟨a, c, e, _⟩ := hT; exact ⟨a, c, by rw [hm]; exact e⟩
                  have HD : Hid (Listed R L.reverse ∧ Fr w8 (.slice xa m xc) R ∧ Tt w8 (.slice ua m uc) R ∧ Kep (fun _ => False) wr w8 ∧ m = R.length) := ⟨hl, hF, hT, k8, hm⟩
                  clear hl hF hT k8 hm
                  go_wp2_with fail
                  refine (clDesc_any (HY3.out.keepN HD.out.2.2.2.1) HQ.out.2.1).mono ?_
                  rintro e w9 ⟨fy, ty, S, rfl, hl, hF, hT, k9⟩
                  have hsr : S = R := hl.same HD.out.1 (fun r => by simp)
                  subst hsr
                  obtain ⟨ya, yc, rfl⟩ : ∃ a c, fy = .slice a m c := by obtain ⟨a, c, e, _⟩ := hF; exact ⟨a, c, by rw [HD.out.2.2.2.2]; exact e⟩
                  obtain ⟨va, vc, rfl⟩ : ∃ a c, ty = .slice a m c := by obtain ⟨a, c, e, _⟩ := hT; exact ⟨a, c, by rw [HD.out.2.2.2.2]; exact e⟩
                  have HW : Hid (Fr w9 (.slice xa m xc) S ∧ Tt w9 (.slice ua m uc) S ∧ Fr w9 (.slice ya m yc) S ∧ Tt w9 (.slice va m vc) S) := ⟨HD.out.2.1.keepN k9, HD.out.2.2.1.keepN k9, hF, hT⟩
                  have HE : Hid (Sts w9 (.slice a n c) L ∧ Kep (fun _ => False) w w9 ∧ Listed S L.reverse ∧ m = S.length) := ⟨(HQ.out.2.2.1.keepN HD.out.2.2.2.1).keepN k9, (HQ.out.2.2.2.trans HD.out.2.2.2.1 (fun _ _ h => h)).trans k9 (fun _ _ h => h), HD.out.1, HD.out.2.2.2.2⟩
                  have HZ : Hid (∀ x ∈ S, x.1.length ≤ 2097152 ∧ bdLen x.2 ≤ 2097152) := fun x hx => by
                    obtain ⟨⟨r1, h1, e1⟩, r2, h2, e2⟩ := HE.out.2.2.1.mem hx
                    have g1 := HSM.out.2 r1 (by simpa using h1)
                    have g2 := HSM.out.2 r2 (by simpa using h2)
                    rw [← e1, ← e2]; omega
                  have hmI : (m : Int) ≤ 4096 := by have := HE.out.2.2.1.len; have := HE.out.2.2.2; have := HS.out.2; simp at *; omega
                  clear hl hF hT k9 HD HQ HY3
                  go_wp2
                  go_loopw [13] (fun q wr => (∃ i : Nat, i ≤ m ∧ q = .int .i64 (i : Int)) ∧ Kep (fun _ => False) w9 wr) (fun q _ => m - (intOf q).toNat)
                  case atStart => exact ⟨⟨0, Nat.zero_le _, rfl⟩, Kep.refl _ _⟩
                  case round =>
                    obtain ⟨⟨i, hi, rfl⟩, hk⟩ := hrel
                    have HK : Hid (Kep (fun _ => False) w9 wr) := hk
                    clear hk
                    by_cases hin : i < m
                    · have hinI : (i : Int) < (m : Int) := by omega
                      obtain ⟨r, hr⟩ := ex_at HE.out.2.2.2 hin
                      obtain ⟨b1, f1, n1, q1, rfl, g1, k1⟩ := fr_at HW.out.1 hr
                      obtain ⟨b2, f2, n2, q2, rfl, g2, k2⟩ := tt_at HW.out.2.1 hr
                      obtain ⟨b3, f3, n3, q3, rfl, g3, k3⟩ := fr_at HW.out.2.2.1 hr
                      obtain ⟨b4, f4, n4, q4, rfl, g4, k4⟩ := tt_at HW.out.2.2.2 hr
                      have HSS : Hid (∀ w', Kep (fun _ => False) w9 w' → w'.cell? ⟨b1, i, none⟩ = some (.slice f1 n1 q1) ∧ w'.cell? ⟨b2, i, none⟩ = some (.slice f2 n2 q2) ∧ w'.cell? ⟨b3, i, none⟩ = some (.slice f3 n3 q3) ∧ w'.cell? ⟨b4, i, none⟩ = some (.slice f4 n4 q4)) := fun w' k => ⟨kcell k g1, kcell k g2, kcell k g3, kcell k g4⟩
                      have HB : Hid (Bs w9 (.slice f1 n1 q1) r.1 ∧ Bnd w9 (.slice f2 n2 q2) r.2 ∧ Bs w9 (.slice f3 n3 q3) r.1 ∧ Bnd w9 (.slice f4 n4 q4) r.2 ∧ r.1.length ≤ 2097152 ∧ bdLen r.2 ≤ 2097152) := ⟨k1, k2, k3, k4, HZ.out r (List.mem_of_getElem? hr)⟩
                      clear g1 g2 g3 g4 k1 k2 k3 k4 hr
                      go_upto_region 28 with fail
                      refine wp_region_noPanic ?_
                      refine wp_region_held_drew (S := fun w' => w'.cell? ⟨b1, i, none⟩ = some (.slice f1 n1 q1) ∧ w'.cell? ⟨b2, i, none⟩ = some (.slice f2 n2 q2) ∧ w'.cell? ⟨b3, i, none⟩ = some (.slice f3 n3 q3) ∧ w'.cell? ⟨b4, i, none⟩ = some (.slice f4 n4 q4)) (by kernel_rfl) (HSS.out _ HK.out.drew) (fun hHeld => ?_)
                      refine wpAnyH_take (i := 0) (v := .slice (some ⟨b1, 0, none⟩) m xc) rfl (by kernel_rfl) (by kernel_rfl) (by kernel_rfl) (fun _ _ _ h => h) (Or.inl ⟨by rfl, fun w' hSw => by kernel_rfl⟩) hHeld ?_
                      try simp only [Act.put, List.getElem_toArray, List.getElem_cons_succ, List.getElem_cons_zero, List.setIfInBounds_toArray, List.set_cons_zero, List.set_cons_succ]
                      refine wpAnyH_take (i := 1) (v := .int .i64 (i : Int)) rfl (by kernel_rfl) (by kernel_rfl) (by kernel_rfl) (fun _ _ _ h => h) (Or.inl ⟨by rfl, fun w' hSw => by kernel_rfl⟩) hHeld ?_
                      try simp only [Act.put, List.getElem_toArray, List.getElem_cons_succ, List.getElem_cons_zero, List.setIfInBounds_toArray, List.set_cons_zero, List.set_cons_succ]
                      refine wpAnyH_take (i := 2) (v := .pointer (some ⟨b1, i, none⟩)) rfl (by kernel_rfl) (by kernel_rfl) (by kernel_rfl) (fun _ _ _ h => h) (Or.inl ⟨by rfl, fun w' hSw => by go_simp⟩) hHeld ?_
                      try simp only [Act.put, List.getElem_toArray, List.getElem_cons_succ, List.getElem_cons_zero, List.setIfInBounds_toArray, List.set_cons_zero, List.set_cons_succ]
                      refine wpAnyH_take (i := 3) (v := .slice f1 n1 q1) rfl (by kernel_rfl) (by kernel_rfl) (by kernel_rfl) (fun _ _ _ h => h) (Or.inl ⟨by rfl, fun w' hSw => by (have h := hSw.1; go_simp)⟩) hHeld ?_
                      try simp only [Act.put, List.getElem_toArray, List.getElem_cons_succ, List.getElem_cons_zero, List.setIfInBounds_toArray, List.set_cons_zero, List.set_cons_succ]
                      refine wpAnyH_take (i := 4) (v := .slice (some ⟨b3, 0, none⟩) m yc) rfl (by kernel_rfl) (by kernel_rfl) (by kernel_rfl) (fun _ _ _ h => h) (Or.inl ⟨by rfl, fun w' hSw => by kernel_rfl⟩) hHeld ?_
                      try simp only [Act.put, List.getElem_toArray, List.getElem_cons_succ, List.getElem_cons_zero, List.setIfInBounds_toArray, List.set_cons_zero, List.set_cons_succ]
                      refine wpAnyH_take (i := 5) (v := .int .i64 (i : Int)) rfl (by kernel_rfl) (by kernel_rfl) (by kernel_rfl) (fun _ _ _ h => h) (Or.inl ⟨by rfl, fun w' hSw => by kernel_rfl⟩) hHeld ?_
                      try simp only [Act.put, List.getElem_toArray, List.getElem_cons_succ, List.getElem_cons_zero, List.setIfInBounds_toArray, List.set_cons_zero, List.set_cons_succ]
                      refine wpAnyH_take (i := 6) (v := .pointer (some ⟨b3, i, none⟩)) rfl (by kernel_rfl) (by kernel_rfl) (by kernel_rfl) (fun _ _ _ h => h) (Or.inl ⟨by rfl, fun w' hSw => by go_simp⟩) hHeld ?_
                      try simp only [Act.put, List.getElem_toArray, List.getElem_cons_succ, List.getElem_cons_zero, List.setIfInBounds_toArray, List.set_cons_zero, List.set_cons_succ]
                      refine wpAnyH_take (i := 7) (v := .slice f3 n3 q3) rfl (by kernel_rfl) (by kernel_rfl) (by kernel_rfl) (fun _ _ _ h => h) (Or.inl ⟨by rfl, fun w' hSw => by (have h := hSw.2.2.1; go_simp)⟩) hHeld ?_
                      try simp only [Act.put, List.getElem_toArray, List.getElem_cons_succ, List.getElem_cons_zero, List.setIfInBounds_toArray, List.set_cons_zero, List.set_cons_succ]
                      refine wpAnyH_ready (rs := [8]) (by kernel_rfl) (by simp) ?_
                      refine AllReadyH.cons rfl (fun K hK => ?_) AllReadyH.nil
                      go_simp
                      refine Calls.mono (same_yes (w := wr.drew) (HB.out.1.keepN (HK.out.drew)) (HB.out.2.2.1.keepN (HK.out.drew)) HB.out.2.2.2.2.1) ?_
                      rintro e wq1 ⟨rfl, kk⟩
                      have HK1 : Hid (Kep (fun _ => False) w9 wq1) := (HK.out.drew).trans kk (fun _ _ h => h)
                      refine hK.out _ _ (HSS.out _ HK1.out) (fun hHeld1 => ?_)
                      clear hK kk hHeld
                      try simp only [Act.put, List.getElem_toArray, List.getElem_cons_succ, List.getElem_cons_zero, List.setIfInBounds_toArray, List.set_cons_zero, List.set_cons_succ]
                      refine wpAnyH_take (i := 9) (v := .bool false) rfl (by kernel_rfl) (by kernel_rfl) (by kernel_rfl) (fun _ _ _ h => h) (Or.inl ⟨by rfl, fun w' hSw => by kernel_rfl⟩) hHeld1 ?_
                      try simp only [Act.put, List.getElem_toArray, List.getElem_cons_succ, List.getElem_cons_zero, List.setIfInBounds_toArray, List.set_cons_zero, List.set_cons_succ]
                      refine wpAnyH_take (i := 10) (v := .bool false) rfl (by kernel_rfl) (by kernel_rfl) (by kernel_rfl) (fun _ _ _ h => h) (Or.inl ⟨by rfl, fun w' hSw => by kernel_rfl⟩) hHeld1 ?_
                      try simp only [Act.put, List.getElem_toArray, List.getElem_cons_succ, List.getElem_cons_zero, List.setIfInBounds_toArray, List.set_cons_zero, List.set_cons_succ]
                      refine wpAnyH_take (i := 11) (v := .slice (some ⟨b2, 0, none⟩) m uc) rfl (by kernel_rfl) (by kernel_rfl) (by kernel_rfl) (fun _ _ _ h => h) (Or.inl ⟨by rfl, fun w' hSw => by kernel_rfl⟩) hHeld1 ?_
                      try simp only [Act.put, List.getElem_toArray, List.getElem_cons_succ, List.getElem_cons_zero, List.setIfInBounds_toArray, List.set_cons_zero, List.set_cons_succ]
                      refine wpAnyH_take (i := 12) (v := .int .i64 (i : Int)) rfl (by kernel_rfl) (by kernel_rfl) (by kernel_rfl) (fun _ _ _ h => h) (Or.inl ⟨by rfl, fun w' hSw => by kernel_rfl⟩) hHeld1 ?_
                      try simp only [Act.put, List.getElem_toArray, List.getElem_cons_succ, List.getElem_cons_zero, List.setIfInBounds_toArray, List.set_cons_zero, List.set_cons_succ]
                      refine wpAnyH_take (i := 13) (v := .pointer (some ⟨b2, i, none⟩)) rfl (by kernel_rfl) (by kernel_rfl) (by kernel_rfl) (fun _ _ _ h => h) (Or.inl ⟨by rfl, fun w' hSw => by go_simp⟩) hHeld1 ?_
                      try simp only [Act.put, List.getElem_toArray, List.getElem_cons_succ, List.getElem_cons_zero, List.setIfInBounds_toArray, List.set_cons_zero, List.set_cons_succ]
                      refine wpAnyH_take (i := 14) (v := .slice f2 n2 q2) rfl (by kernel_rfl) (by kernel_rfl) (by kernel_rfl) (fun _ _ _ h => h) (Or.inl ⟨by rfl, fun w' hSw => by (have h := hSw.2.1; go_simp)⟩) hHeld1 ?_
                      try simp only [Act.put, List.getElem_toArray, List.getElem_cons_succ, List.getElem_cons_zero, List.setIfInBounds_toArray, List.set_cons_zero, List.set_cons_succ]
                      refine wpAnyH_take (i := 15) (v := .slice (some ⟨b4, 0, none⟩) m vc) rfl (by kernel_rfl) (by kernel_rfl) (by kernel_rfl) (fun _ _ _ h => h) (Or.inl ⟨by rfl, fun w' hSw => by kernel_rfl⟩) hHeld1 ?_
                      try simp only [Act.put, List.getElem_toArray, List.getElem_cons_succ, List.getElem_cons_zero, List.setIfInBounds_toArray, List.set_cons_zero, List.set_cons_succ]
                      refine wpAnyH_take (i := 16) (v := .int .i64 (i : Int)) rfl (by kernel_rfl) (by kernel_rfl) (by kernel_rfl) (fun _ _ _ h => h) (Or.inl ⟨by rfl, fun w' hSw => by kernel_rfl⟩) hHeld1 ?_
                      try simp only [Act.put, List.getElem_toArray, List.getElem_cons_succ, List.getElem_cons_zero, List.setIfInBounds_toArray, List.set_cons_zero, List.set_cons_succ]
                      refine wpAnyH_take (i := 17) (v := .pointer (some ⟨b4, i, none⟩)) rfl (by kernel_rfl) (by kernel_rfl) (by kernel_rfl) (fun _ _ _ h => h) (Or.inl ⟨by rfl, fun w' hSw => by go_simp⟩) hHeld1 ?_
                      try simp only [Act.put, List.getElem_toArray, List.getElem_cons_succ, List.getElem_cons_zero, List.setIfInBounds_toArray, List.set_cons_zero, List.set_cons_succ]
                      refine wpAnyH_take (i := 18) (v := .slice f4 n4 q4) rfl (by kernel_rfl) (by kernel_rfl) (by kernel_rfl) (fun _ _ _ h => h) (Or.inl ⟨by rfl, fun w' hSw => by (have h := hSw.2.2.2; go_simp)⟩) hHeld1 ?_
                      try simp only [Act.put, List.getElem_toArray, List.getElem_cons_succ, List.getElem_cons_zero, List.setIfInBounds_toArray, List.set_cons_zero, List.set_cons_succ]
                      refine wpAnyH_ready (rs := [19]) (by kernel_rfl) (by simp) ?_
                      refine AllReadyH.cons rfl (fun K hK => ?_) AllReadyH.nil
                      go_simp
                      refine Calls.mono (bound_yes (w := wq1) (HB.out.2.1.keepN (HK1.out)) (HB.out.2.2.2.1.keepN (HK1.out)) HB.out.2.2.2.2.2) ?_
                      rintro e wq2 ⟨rfl, kk⟩
                      have HK2 : Hid (Kep (fun _ => False) w9 wq2) := (HK1.out).trans kk (fun _ _ h => h)
                      refine hK.out _ _ (HSS.out _ HK2.out) (fun hHeld2 => ?_)
                      clear hK kk hHeld1
                      try simp only [Act.put, List.getElem_toArray, List.getElem_cons_succ, List.getElem_cons_zero, List.setIfInBounds_toArray, List.set_cons_zero, List.set_cons_succ]
                      refine wpAnyH_take (i := 20) (v := .bool false) rfl (by kernel_rfl) (by kernel_rfl) (by kernel_rfl) (fun _ _ _ h => h) (Or.inl ⟨by rfl, fun w' hSw => by kernel_rfl⟩) hHeld2 ?_
                      try simp only [Act.put, List.getElem_toArray, List.getElem_cons_succ, List.getElem_cons_zero, List.setIfInBounds_toArray, List.set_cons_zero, List.set_cons_succ]
                      refine wpAnyH_take (i := 21) (v := .bool false) rfl (by kernel_rfl) (by kernel_rfl) (by kernel_rfl) (fun _ _ _ h => h) (Or.inl ⟨by rfl, fun w' hSw => by kernel_rfl⟩) hHeld2 ?_
                      try simp only [Act.put, List.getElem_toArray, List.getElem_cons_succ, List.getElem_cons_zero, List.setIfInBounds_toArray, List.set_cons_zero, List.set_cons_succ]
                      refine wpAnyH_done (by kernel_rfl) ?_ _
                      refine NoPanic.normal ?_
                      clear hHeld2
                      go_wp2
                      go_roundw
                      case rel => exact ⟨⟨i + 1, by omega, by go_num⟩, HK2.out⟩
                      case measure => simp [intOf]; omega
                    · have hinI : ¬ (i : Int) < (m : Int) := by omega
                      clear hin hi
                      go_wp2
                      go_loopw [14] (fun q wr => (∃ i : Nat, (i ≤ m ∨ m ≤ 1) ∧ i ≤ 4097 ∧ q = .int .i64 (i : Int)) ∧ Kep (fun _ => False) w9 wr) (fun q _ => m - (intOf q).toNat)
                      case atStart => exact ⟨⟨0, .inl (Nat.zero_le _), by omega, rfl⟩, HK.out⟩
                      case round =>
                        clear hinI HK
                        obtain ⟨⟨i, hi, hi2, rfl⟩, hk⟩ := hrel
                        have HK : Hid (Kep (fun _ => False) w9 wr) := hk
                        clear hk
                        have hiI : (i : Int) ≤ 4097 := by omega
                        by_cases hin : i + 1 < m
                        · have hinI : (i : Int) + 1 < (m : Int) := by omega
                          obtain ⟨x, hx⟩ := ex_at HE.out.2.2.2 (by omega : i < m)
                          obtain ⟨z, hz⟩ := ex_at HE.out.2.2.2 hin
                          obtain ⟨t, et, hlt⟩ := HE.out.2.2.1.apart hx hz
                          obtain ⟨b1, f1, n1, q1, rfl, g1, k1⟩ := fr_at HW.out.1 hx
                          obtain ⟨b2, f2, n2, q2, rfl, g2, k2⟩ := tt_at HW.out.2.1 hz
                          rw [et] at k2
                          obtain ⟨k2, d, n2', q2', e2⟩ := k2
                          rw [e2] at g2 k2
                          clear e2
                          have hwr : IntKind.i64.wrap ((i : Int) + 1) = (i : Int) + 1 := by rw [IntKind.wrap_i64]; omega
                          have hn0 : ¬ (i : Int) + 1 < 0 := by omega
                          have hmi : ¬ m ≤ i := by omega
                          have hcm : ¬ (0 : Int) ≤ cmpK t x.1 := by have := cmpK_neg.2 hlt; omega
                          have HSS : Hid (∀ w', Kep (fun _ => False) w9 w' → w'.cell? ⟨b1, i, none⟩ = some (.slice f1 n1 q1) ∧ w'.cell? ⟨b2, i + 1, none⟩ = some (.slice (some d) n2' q2')) := fun w' k => ⟨kcell k g1, kcell k g2⟩
                          have HB : Hid (Bs w9 (.slice f1 n1 q1) x.1 ∧ Bs w9 (.slice (some d) n2' q2') t ∧ x.1.length ≤ 2097152 ∧ t.length ≤ 2097152) := ⟨k1, k2, (HZ.out x (List.mem_of_getElem? hx)).1, by have := (HZ.out z (List.mem_of_getElem? hz)).2; rw [et] at this; exact this⟩
                          clear g1 g2 k1 k2 hx hz et hlt
                          go_upto_region 33 with fail
                          refine wp_region_noPanic ?_
                          refine wp_region_held_drew (S := fun w' => w'.cell? ⟨b1, i, none⟩ = some (.slice f1 n1 q1) ∧ w'.cell? ⟨b2, i + 1, none⟩ = some (.slice (some d) n2' q2')) (by kernel_rfl) (HSS.out _ HK.out.drew) (fun hHeld => ?_)
                          refine wpAnyH_take (i := 0) (v := .slice (some ⟨b2, 0, none⟩) m uc) rfl (by kernel_rfl) (by kernel_rfl) (by kernel_rfl) (fun _ _ _ h => h) (Or.inl ⟨by rfl, fun w' hSw => by kernel_rfl⟩) hHeld ?_
                          try simp only [Act.put, List.getElem_toArray, List.getElem_cons_succ, List.getElem_cons_zero, List.setIfInBounds_toArray, List.set_cons_zero, List.set_cons_succ]
                          refine wpAnyH_take (i := 1) (v := .int .i64 (i : Int)) rfl (by kernel_rfl) (by kernel_rfl) (by kernel_rfl) (fun _ _ _ h => h) (Or.inl ⟨by rfl, fun w' hSw => by kernel_rfl⟩) hHeld ?_
                          try simp only [Act.put, List.getElem_toArray, List.getElem_cons_succ, List.getElem_cons_zero, List.setIfInBounds_toArray, List.set_cons_zero, List.set_cons_succ]
                          refine wpAnyH_take (i := 2) (v := .int .i64 ((i : Int) + 1)) rfl (by kernel_rfl) (by kernel_rfl) (by kernel_rfl) (fun _ _ _ h => h) (Or.inl ⟨by rfl, fun w' hSw => by go_simp⟩) hHeld ?_
                          try simp only [Act.put, List.getElem_toArray, List.getElem_cons_succ, List.getElem_cons_zero, List.setIfInBounds_toArray, List.set_cons_zero, List.set_cons_succ]
                          refine wpAnyH_take (i := 3) (v := .pointer (some ⟨b2, i + 1, none⟩)) rfl (by kernel_rfl) (by kernel_rfl) (by kernel_rfl) (fun _ _ _ h => h) (Or.inl ⟨by rfl, fun w' hSw => by go_simp⟩) hHeld ?_
                          try simp only [Act.put, List.getElem_toArray, List.getElem_cons_succ, List.getElem_cons_zero, List.setIfInBounds_toArray, List.set_cons_zero, List.set_cons_succ]
                          refine wpAnyH_take (i := 4) (v := .slice (some d) n2' q2') rfl (by kernel_rfl) (by kernel_rfl) (by kernel_rfl) (fun _ _ _ h => h) (Or.inl ⟨by rfl, fun w' hSw => by (have h := hSw.2; go_simp)⟩) hHeld ?_
                          try simp only [Act.put, List.getElem_toArray, List.getElem_cons_succ, List.getElem_cons_zero, List.setIfInBounds_toArray, List.set_cons_zero, List.set_cons_succ]
                          refine wpAnyH_take (i := 5) (v := .bool false) rfl (by kernel_rfl) (by kernel_rfl) (by kernel_rfl) (fun _ _ _ h => h) (Or.inl ⟨by rfl, fun w' hSw => by go_simp⟩) hHeld ?_
                          try simp only [Act.put, List.getElem_toArray, List.getElem_cons_succ, List.getElem_cons_zero, List.setIfInBounds_toArray, List.set_cons_zero, List.set_cons_succ]
                          refine wpAnyH_take (i := 6) (v := .bool false) rfl (by kernel_rfl) (by kernel_rfl) (by kernel_rfl) (fun _ _ _ h => h) (Or.inl ⟨by rfl, fun w' hSw => by kernel_rfl⟩) hHeld ?_
                          try simp only [Act.put, List.getElem_toArray, List.getElem_cons_succ, List.getElem_cons_zero, List.setIfInBounds_toArray, List.set_cons_zero, List.set_cons_succ]
                          refine wpAnyH_take (i := 7) (v := .slice (some ⟨b2, 0, none⟩) m uc) rfl (by kernel_rfl) (by kernel_rfl) (by kernel_rfl) (fun _ _ _ h => h) (Or.inl ⟨by rfl, fun w' hSw => by kernel_rfl⟩) hHeld ?_
                          try simp only [Act.put, List.getElem_toArray, List.getElem_cons_succ, List.getElem_cons_zero, List.setIfInBounds_toArray, List.set_cons_zero, List.set_cons_succ]
                          refine wpAnyH_take (i := 8) (v := .int .i64 (i : Int)) rfl (by kernel_rfl) (by kernel_rfl) (by kernel_rfl) (fun _ _ _ h => h) (Or.inl ⟨by rfl, fun w' hSw => by kernel_rfl⟩) hHeld ?_
                          try simp only [Act.put, List.getElem_toArray, List.getElem_cons_succ, List.getElem_cons_zero, List.setIfInBounds_toArray, List.set_cons_zero, List.set_cons_succ]
                          refine wpAnyH_take (i := 9) (v := .int .i64 ((i : Int) + 1)) rfl (by kernel_rfl) (by kernel_rfl) (by kernel_rfl) (fun _ _ _ h => h) (Or.inl ⟨by rfl, fun w' hSw => by go_simp⟩) hHeld ?_
                          try simp only [Act.put, List.getElem_toArray, List.getElem_cons_succ, List.getElem_cons_zero, List.setIfInBounds_toArray, List.set_cons_zero, List.set_cons_succ]
                          refine wpAnyH_take (i := 10) (v := .pointer (some ⟨b2, i + 1, none⟩)) rfl (by kernel_rfl) (by kernel_rfl) (by kernel_rfl) (fun _ _ _ h => h) (Or.inl ⟨by rfl, fun w' hSw => by go_simp⟩) hHeld ?_
                          try simp only [Act.put, List.getElem_toArray, List.getElem_cons_succ, List.getElem_cons_zero, List.setIfInBounds_toArray, List.set_cons_zero, List.set_cons_succ]
                          refine wpAnyH_take (i := 11) (v := .slice (some d) n2' q2') rfl (by kernel_rfl) (by kernel_rfl) (by kernel_rfl) (fun _ _ _ h => h) (Or.inl ⟨by rfl, fun w' hSw => by (have h := hSw.2; go_simp)⟩) hHeld ?_
                          try simp only [Act.put, List.getElem_toArray, List.getElem_cons_succ, List.getElem_cons_zero, List.setIfInBounds_toArray, List.set_cons_zero, List.set_cons_succ]
                          refine wpAnyH_take (i := 12) (v := .slice (some ⟨b1, 0, none⟩) m xc) rfl (by kernel_rfl) (by kernel_rfl) (by kernel_rfl) (fun _ _ _ h => h) (Or.inl ⟨by rfl, fun w' hSw => by kernel_rfl⟩) hHeld ?_
                          try simp only [Act.put, List.getElem_toArray, List.getElem_cons_succ, List.getElem_cons_zero, List.setIfInBounds_toArray, List.set_cons_zero, List.set_cons_succ]
                          refine wpAnyH_take (i := 13) (v := .int .i64 (i : Int)) rfl (by kernel_rfl) (by kernel_rfl) (by kernel_rfl) (fun _ _ _ h => h) (Or.inl ⟨by rfl, fun w' hSw => by kernel_rfl⟩) hHeld ?_
                          try simp only [Act.put, List.getElem_toArray, List.getElem_cons_succ, List.getElem_cons_zero, List.setIfInBounds_toArray, List.set_cons_zero, List.set_cons_succ]
                          refine wpAnyH_take (i := 14) (v := .pointer (some ⟨b1, i, none⟩)) rfl (by kernel_rfl) (by kernel_rfl) (by kernel_rfl) (fun _ _ _ h => h) (Or.inl ⟨by rfl, fun w' hSw => by go_simp⟩) hHeld ?_
                          try simp only [Act.put, List.getElem_toArray, List.getElem_cons_succ, List.getElem_cons_zero, List.setIfInBounds_toArray, List.set_cons_zero, List.set_cons_succ]
                          refine wpAnyH_take (i := 15) (v := .slice f1 n1 q1) rfl (by kernel_rfl) (by kernel_rfl) (by kernel_rfl) (fun _ _ _ h => h) (Or.inl ⟨by rfl, fun w' hSw => by (have h := hSw.1; go_simp)⟩) hHeld ?_
                          try simp only [Act.put, List.getElem_toArray, List.getElem_cons_succ, List.getElem_cons_zero, List.setIfInBounds_toArray, List.set_cons_zero, List.set_cons_succ]
                          refine wpAnyH_ready (rs := [16]) (by kernel_rfl) (by simp) ?_
                          refine AllReadyH.cons rfl (fun K hK => ?_) AllReadyH.nil
                          go_simp
                          refine Calls.mono (cmp_k (w := wr.drew) (HB.out.2.1.keepN (HK.out.drew)) (HB.out.1.keepN (HK.out.drew)) HB.out.2.2.2 HB.out.2.2.1) ?_
                          rintro e wq1 ⟨rfl, kk⟩
                          have HK1 : Hid (Kep (fun _ => False) w9 wq1) := (HK.out.drew).trans kk (fun _ _ h => h)
                          refine hK.out _ _ (HSS.out _ HK1.out) (fun hHeld1 => ?_)
                          clear hK kk hHeld
                          try simp only [Act.put, List.getElem_toArray, List.getElem_cons_succ, List.getElem_cons_zero, List.setIfInBounds_toArray, List.set_cons_zero, List.set_cons_succ]
                          refine wpAnyH_take (i := 17) (v := .bool false) rfl (by kernel_rfl) (by kernel_rfl) (by kernel_rfl) (fun _ _ _ h => h) (Or.inl ⟨by rfl, fun w' hSw => by go_simp⟩) hHeld1 ?_
                          try simp only [Act.put, List.getElem_toArray, List.getElem_cons_succ, List.getElem_cons_zero, List.setIfInBounds_toArray, List.set_cons_zero, List.set_cons_succ]
                          refine wpAnyH_take (i := 18) (v := .bool false) rfl (by kernel_rfl) (by kernel_rfl) (by kernel_rfl) (fun _ _ _ h => h) (Or.inl ⟨by rfl, fun w' hSw => by kernel_rfl⟩) hHeld1 ?_
                          try simp only [Act.put, List.getElem_toArray, List.getElem_cons_succ, List.getElem_cons_zero, List.setIfInBounds_toArray, List.set_cons_zero, List.set_cons_succ]
                          refine wpAnyH_done (by kernel_rfl) ?_ _
                          refine NoPanic.normal ?_
                          clear hHeld1
                          go_wp2
                          go_roundw
                          case rel => exact ⟨⟨i + 1, by omega, by omega, by go_num⟩, HK1.out⟩
                          case measure => simp [intOf]; omega
                        · have hinI : ¬ (i : Int) + 1 < (m : Int) := by omega
                          clear hin hi
                          go_wp2
                          clear hinI hi2 hiI
                          go_loopw [15] (fun q wr => (∃ i : Nat, i ≤ n ∧ q = .int .i64 (i : Int)) ∧ Kep (fun _ => False) w9 wr) (fun q _ => n - (intOf q).toNat)
                          case atStart => exact ⟨⟨0, Nat.zero_le _, rfl⟩, HK.out⟩
                          case round =>
                            clear HK
                            obtain ⟨⟨i, hi, rfl⟩, hk⟩ := hrel
                            have HK : Hid (Kep (fun _ => False) w9 wr) := hk
                            clear hk
                            by_cases hin : i < n
                            · have hinI : (i : Int) < (n : Int) := by omega
                              obtain ⟨r, hr⟩ := ex_at HS.out.2 hin
                              have HC : Hid (∃ x ∈ S, x.1 ≤ r.1 ∧ (x.2 = none ∨ ∃ t, r.2 = some t ∧ leB t x.2 = true)) := HE.out.2.2.1.covers (fun r hr => HV.out r (by simpa using hr)) (by simpa using List.mem_of_getElem? hr)
                              obtain ⟨br, o, f3, n3, q3, f4, n4, q4, rfl, g3, g4, k3, k4⟩ := sts_at HE.out.1 hr
                              have HG : Hid (w9.cell? ⟨br, o + i * 2, none⟩ = some (.slice f3 n3 q3) ∧ w9.cell? ⟨br, o + i * 2 + 1, none⟩ = some (.slice f4 n4 q4) ∧ Bs w9 (.slice f3 n3 q3) r.1 ∧ Bnd w9 (.slice f4 n4 q4) r.2 ∧ r.1.length ≤ 2097152 ∧ bdLen r.2 ≤ 2097152) := ⟨g3, g4, k3, k4, by have := (HSM.out.2 r (List.mem_of_getElem? hr)).1; omega, by have := (HSM.out.2 r (List.mem_of_getElem? hr)).2; omega⟩
                              clear g3 g4 k3 k4 hr
                              go_wp2
                              go_loopw [17] (fun q wr => (∃ j : Nat, j ≤ m ∧ (∀ j' x, j' < j → S[j']? = some x → ¬ (x.1 ≤ r.1 ∧ (x.2 = none ∨ ∃ t, r.2 = some t ∧ leB t x.2 = true))) ∧ q = .int .i64 (j : Int)) ∧ Kep (fun _ => False) w9 wr) (fun q _ => m - (intOf q).toNat)
                              case atStart => exact ⟨⟨0, Nat.zero_le _, fun j' x h => absurd h (Nat.not_lt_zero _), rfl⟩, HK.out⟩
                              case round =>
                                clear HK
                                obtain ⟨⟨j, hj, hall, rfl⟩, hk⟩ := hrel
                                have HK : Hid (Kep (fun _ => False) w9 wr) := hk
                                have HA : Hid (∀ j' x, j' < j → S[j']? = some x → ¬ (x.1 ≤ r.1 ∧ (x.2 = none ∨ ∃ t, r.2 = some t ∧ leB t x.2 = true))) := hall
                                clear hk hall
                                by_cases hjn : j < m
                                · have hjnI : (j : Int) < (m : Int) := by omega
                                  obtain ⟨x, hx⟩ := ex_at HE.out.2.2.2 hjn
                                  obtain ⟨b1, f1, n1, q1, rfl, g1, k1⟩ := fr_at HW.out.1 hx
                                  obtain ⟨b2, f2, n2, q2, rfl, g2, k2⟩ := tt_at HW.out.2.1 hx
                                  have hlen := HZ.out x (List.mem_of_getElem? hx)
                                  have HNO : Hid (¬ (x.1 ≤ r.1 ∧ (x.2 = none ∨ ∃ t, r.2 = some t ∧ leB t x.2 = true)) → ∀ j' x', j' < j + 1 → S[j']? = some x' → ¬ (x'.1 ≤ r.1 ∧ (x'.2 = none ∨ ∃ t, r.2 = some t ∧ leB t x'.2 = true))) := fun hno j' x' hj' hx' => by
                                    by_cases e : j' = j
                                    · subst e; rw [hx] at hx'; injection hx' with hx'; subst hx'; exact hno
                                    · exact HA.out j' x' (by omega) hx'
                                  have HB : Hid (Bs w9 (.slice f1 n1 q1) x.1 ∧ x.1.length ≤ 2097152 ∧ bdLen x.2 ≤ 2097152) := ⟨k1, hlen⟩
                                  obtain ⟨g3, g4, k3, k4, l3, l4⟩ := HG.out
                                  by_cases hle : cmpK x.1 r.1 ≤ 0
                                  · rcases k2.shape with ⟨e1, e2⟩ | ⟨kt, at', nt, ct, e1, e2, e3⟩
                                    · rw [e2] at g2
                                      have HSS : Hid (∀ w', Kep (fun _ => False) w9 w' → w'.cell? ⟨b1, j, none⟩ = some (.slice f1 n1 q1) ∧ w'.cell? ⟨b2, j, none⟩ = some (.slice none 0 0) ∧ w'.cell? ⟨br, o + i * 2, none⟩ = some (.slice f3 n3 q3) ∧ w'.cell? ⟨br, o + i * 2 + 1, none⟩ = some (.slice f4 n4 q4)) := fun w' k => ⟨kcell k g1, kcell k g2, kcell k g3, kcell k g4⟩
                                      clear g1 g2 g3 g4 k1 k2 k3 k4 l3 l4 hlen hx HA e1 e2
                                      go_upto_region 42 with fail
                                      refine wp_region_noPanic ?_
                                      refine wp_region_held_drew (S := fun w' => w'.cell? ⟨b1, j, none⟩ = some (.slice f1 n1 q1) ∧ w'.cell? ⟨b2, j, none⟩ = some (.slice none 0 0) ∧ w'.cell? ⟨br, o + i * 2, none⟩ = some (.slice f3 n3 q3) ∧ w'.cell? ⟨br, o + i * 2 + 1, none⟩ = some (.slice f4 n4 q4)) (by kernel_rfl) (HSS.out _ HK.out.drew) (fun hHeld => ?_)
                                      refine wpAnyH_take (i := 0) (v := .slice (some ⟨b1, 0, none⟩) m xc) rfl (by kernel_rfl) (by kernel_rfl) (by kernel_rfl) (fun _ _ _ h => h) (Or.inl ⟨by rfl, fun w' hSw => by kernel_rfl⟩) hHeld ?_
                                      try simp only [Act.put, List.getElem_toArray, List.getElem_cons_succ, List.getElem_cons_zero, List.setIfInBounds_toArray, List.set_cons_zero, List.set_cons_succ]
                                      refine wpAnyH_take (i := 1) (v := .int .i64 (j : Int)) rfl (by kernel_rfl) (by kernel_rfl) (by kernel_rfl) (fun _ _ _ h => h) (Or.inl ⟨by rfl, fun w' hSw => by kernel_rfl⟩) hHeld ?_
                                      try simp only [Act.put, List.getElem_toArray, List.getElem_cons_succ, List.getElem_cons_zero, List.setIfInBounds_toArray, List.set_cons_zero, List.set_cons_succ]
                                      refine wpAnyH_take (i := 2) (v := .pointer (some ⟨b1, j, none⟩)) rfl (by kernel_rfl) (by kernel_rfl) (by kernel_rfl) (fun _ _ _ h => h) (Or.inl ⟨by rfl, fun w' hSw => by go_simp⟩) hHeld ?_
                                      try simp only [Act.put, List.getElem_toArray, List.getElem_cons_succ, List.getElem_cons_zero, List.setIfInBounds_toArray, List.set_cons_zero, List.set_cons_succ]
                                      refine wpAnyH_take (i := 3) (v := .slice f1 n1 q1) rfl (by kernel_rfl) (by kernel_rfl) (by kernel_rfl) (fun _ _ _ h => h) (Or.inl ⟨by rfl, fun w' hSw => by (have h := hSw.1; go_simp)⟩) hHeld ?_
                                      try simp only [Act.put, List.getElem_toArray, List.getElem_cons_succ, List.getElem_cons_zero, List.setIfInBounds_toArray, List.set_cons_zero, List.set_cons_succ]
                                      refine wpAnyH_take (i := 4) (v := .slice (some ⟨br, o, none⟩) n c) rfl (by kernel_rfl) (by kernel_rfl) (by kernel_rfl) (fun _ _ _ h => h) (Or.inl ⟨by rfl, fun w' hSw => by kernel_rfl⟩) hHeld ?_
                                      try simp only [Act.put, List.getElem_toArray, List.getElem_cons_succ, List.getElem_cons_zero, List.setIfInBounds_toArray, List.set_cons_zero, List.set_cons_succ]
                                      refine wpAnyH_take (i := 5) (v := .int .i64 (i : Int)) rfl (by kernel_rfl) (by kernel_rfl) (by kernel_rfl) (fun _ _ _ h => h) (Or.inl ⟨by rfl, fun w' hSw => by kernel_rfl⟩) hHeld ?_
                                      try simp only [Act.put, List.getElem_toArray, List.getElem_cons_succ, List.getElem_cons_zero, List.setIfInBounds_toArray, List.set_cons_zero, List.set_cons_succ]
                                      refine wpAnyH_take (i := 6) (v := .pointer (some ⟨br, o + i * 2, none⟩)) rfl (by kernel_rfl) (by kernel_rfl) (by kernel_rfl) (fun _ _ _ h => h) (Or.inl ⟨by rfl, fun w' hSw => by go_simp⟩) hHeld ?_
                                      try simp only [Act.put, List.getElem_toArray, List.getElem_cons_succ, List.getElem_cons_zero, List.setIfInBounds_toArray, List.set_cons_zero, List.set_cons_succ]
                                      refine wpAnyH_take (i := 7) (v := .pointer (some ⟨br, o + i * 2, none⟩)) rfl (by kernel_rfl) (by kernel_rfl) (by kernel_rfl) (fun _ _ _ h => h) (Or.inl ⟨by rfl, fun w' hSw => by go_simp⟩) hHeld ?_
                                      try simp only [Act.put, List.getElem_toArray, List.getElem_cons_succ, List.getElem_cons_zero, List.setIfInBounds_toArray, List.set_cons_zero, List.set_cons_succ]
                                      refine wpAnyH_take (i := 8) (v := .slice f3 n3 q3) rfl (by kernel_rfl) (by kernel_rfl) (by kernel_rfl) (fun _ _ _ h => h) (Or.inl ⟨by rfl, fun w' hSw => by (have h := hSw.2.2.1; go_simp)⟩) hHeld ?_
                                      try simp only [Act.put, List.getElem_toArray, List.getElem_cons_succ, List.getElem_cons_zero, List.setIfInBounds_toArray, List.set_cons_zero, List.set_cons_succ]
                                      refine wpAnyH_ready (rs := [9]) (by kernel_rfl) (by simp) ?_
                                      refine AllReadyH.cons rfl (fun K hK => ?_) AllReadyH.nil
                                      go_simp
                                      refine Calls.mono (cmp_k (w := wr.drew) (HB.out.1.keepN (HK.out.drew)) (HG.out.2.2.1.keepN (HK.out.drew)) HB.out.2.1 HG.out.2.2.2.2.1) ?_
                                      rintro e wq1 ⟨rfl, kk⟩
                                      have HK1 : Hid (Kep (fun _ => False) w9 wq1) := (HK.out.drew).trans kk (fun _ _ h => h)
                                      refine hK.out _ _ (HSS.out _ HK1.out) (fun hHeld1 => ?_)
                                      clear hK kk hHeld
                                      try simp only [Act.put, List.getElem_toArray, List.getElem_cons_succ, List.getElem_cons_zero, List.setIfInBounds_toArray, List.set_cons_zero, List.set_cons_succ]
                                      refine wpAnyH_take (i := 10) (v := .bool true) rfl (by kernel_rfl) (by kernel_rfl) (by kernel_rfl) (fun _ _ _ h => h) (Or.inl ⟨by rfl, fun w' hSw => by go_simp⟩) hHeld1 ?_
                                      try simp only [Act.put, List.getElem_toArray, List.getElem_cons_succ, List.getElem_cons_zero, List.setIfInBounds_toArray, List.set_cons_zero, List.set_cons_succ]
                                      refine wpAnyH_take (i := 11) (v := .bool true) rfl (by kernel_rfl) (by kernel_rfl) (by kernel_rfl) (fun _ _ _ h => h) (Or.inl ⟨by rfl, fun w' hSw => by kernel_rfl⟩) hHeld1 ?_
                                      try simp only [Act.put, List.getElem_toArray, List.getElem_cons_succ, List.getElem_cons_zero, List.setIfInBounds_toArray, List.set_cons_zero, List.set_cons_succ]
                                      refine wpAnyH_take (i := 12) (v := .slice (some ⟨b2, 0, none⟩) m uc) rfl (by kernel_rfl) (by kernel_rfl) (by kernel_rfl) (fun _ _ _ h => h) (Or.inl ⟨by rfl, fun w' hSw => by kernel_rfl⟩) hHeld1 ?_
                                      try simp only [Act.put, List.getElem_toArray, List.getElem_cons_succ, List.getElem_cons_zero, List.setIfInBounds_toArray, List.set_cons_zero, List.set_cons_succ]
                                      refine wpAnyH_take (i := 13) (v := .int .i64 (j : Int)) rfl (by kernel_rfl) (by kernel_rfl) (by kernel_rfl) (fun _ _ _ h => h) (Or.inl ⟨by rfl, fun w' hSw => by kernel_rfl⟩) hHeld1 ?_
                                      try simp only [Act.put, List.getElem_toArray, List.getElem_cons_succ, List.getElem_cons_zero, List.setIfInBounds_toArray, List.set_cons_zero, List.set_cons_succ]
                                      refine wpAnyH_take (i := 14) (v := .pointer (some ⟨b2, j, none⟩)) rfl (by kernel_rfl) (by kernel_rfl) (by kernel_rfl) (fun _ _ _ h => h) (Or.inl ⟨by rfl, fun w' hSw => by go_simp⟩) hHeld1 ?_
                                      try simp only [Act.put, List.getElem_toArray, List.getElem_cons_succ, List.getElem_cons_zero, List.setIfInBounds_toArray, List.set_cons_zero, List.set_cons_succ]
                                      refine wpAnyH_take (i := 15) (v := .slice none 0 0) rfl (by kernel_rfl) (by kernel_rfl) (by kernel_rfl) (fun _ _ _ h => h) (Or.inl ⟨by rfl, fun w' hSw => by (have h := hSw.2.1; go_simp)⟩) hHeld1 ?_
                                      try simp only [Act.put, List.getElem_toArray, List.getElem_cons_succ, List.getElem_cons_zero, List.setIfInBounds_toArray, List.set_cons_zero, List.set_cons_succ]
                                      refine wpAnyH_take (i := 16) (v := .bool true) rfl (by kernel_rfl) (by kernel_rfl) (by kernel_rfl) (fun _ _ _ h => h) (Or.inl ⟨by rfl, fun w' hSw => by go_simp⟩) hHeld1 ?_
                                      try simp only [Act.put, List.getElem_toArray, List.getElem_cons_succ, List.getElem_cons_zero, List.setIfInBounds_toArray, List.set_cons_zero, List.set_cons_succ]
                                      refine wpAnyH_take (i := 17) (v := .bool true) rfl (by kernel_rfl) (by kernel_rfl) (by kernel_rfl) (fun _ _ _ h => h) (Or.inl ⟨by rfl, fun w' hSw => by kernel_rfl⟩) hHeld1 ?_
                                      try simp only [Act.put, List.getElem_toArray, List.getElem_cons_succ, List.getElem_cons_zero, List.setIfInBounds_toArray, List.set_cons_zero, List.set_cons_succ]
                                      refine wpAnyH_take (i := 18) (v := undef) rfl (by kernel_rfl) (by kernel_rfl) (by kernel_rfl) (fun _ _ _ h => h) (Or.inr ⟨by kernel_rfl, rfl⟩) hHeld1 ?_
                                      try simp only [Act.put, List.getElem_toArray, List.getElem_cons_succ, List.getElem_cons_zero, List.setIfInBounds_toArray, List.set_cons_zero, List.set_cons_succ]
                                      refine wpAnyH_take (i := 19) (v := undef) rfl (by kernel_rfl) (by kernel_rfl) (by kernel_rfl) (fun _ _ _ h => h) (Or.inr ⟨by kernel_rfl, rfl⟩) hHeld1 ?_
                                      try simp only [Act.put, List.getElem_toArray, List.getElem_cons_succ, List.getElem_cons_zero, List.setIfInBounds_toArray, List.set_cons_zero, List.set_cons_succ]
                                      refine wpAnyH_take (i := 20) (v := undef) rfl (by kernel_rfl) (by kernel_rfl) (by kernel_rfl) (fun _ _ _ h => h) (Or.inr ⟨by kernel_rfl, rfl⟩) hHeld1 ?_
                                      try simp only [Act.put, List.getElem_toArray, List.getElem_cons_succ, List.getElem_cons_zero, List.setIfInBounds_toArray, List.set_cons_zero, List.set_cons_succ]
                                      refine wpAnyH_take (i := 21) (v := undef) rfl (by kernel_rfl) (by kernel_rfl) (by kernel_rfl) (fun _ _ _ h => h) (Or.inr ⟨by kernel_rfl, rfl⟩) hHeld1 ?_
                                      try simp only [Act.put, List.getElem_toArray, List.getElem_cons_succ, List.getElem_cons_zero, List.setIfInBounds_toArray, List.set_cons_zero, List.set_cons_succ]
                                      refine wpAnyH_take (i := 22) (v := undef) rfl (by kernel_rfl) (by kernel_rfl) (by kernel_rfl) (fun _ _ _ h => h) (Or.inr ⟨by kernel_rfl, rfl⟩) hHeld1 ?_
                                      try simp only [Act.put, List.getElem_toArray, List.getElem_cons_succ, List.getElem_cons_zero, List.setIfInBounds_toArray, List.set_cons_zero, List.set_cons_succ]
                                      refine wpAnyH_take (i := 23) (v := undef) rfl (by kernel_rfl) (by kernel_rfl) (by kernel_rfl) (fun _ _ _ h => h) (Or.inr ⟨by kernel_rfl, rfl⟩) hHeld1 ?_
                                      try simp only [Act.put, List.getElem_toArray, List.getElem_cons_succ, List.getElem_cons_zero, List.setIfInBounds_toArray, List.set_cons_zero, List.set_cons_succ]
                                      refine wpAnyH_take (i := 24) (v := undef) rfl (by kernel_rfl) (by kernel_rfl) (by kernel_rfl) (fun _ _ _ h => h) (Or.inr ⟨by kernel_rfl, rfl⟩) hHeld1 ?_
                                      try simp only [Act.put, List.getElem_toArray, List.getElem_cons_succ, List.getElem_cons_zero, List.setIfInBounds_toArray, List.set_cons_zero, List.set_cons_succ]
                                      refine wpAnyH_take (i := 25) (v := undef) rfl (by kernel_rfl) (by kernel_rfl) (by kernel_rfl) (fun _ _ _ h => h) (Or.inr ⟨by kernel_rfl, rfl⟩) hHeld1 ?_
                                      try simp only [Act.put, List.getElem_toArray, List.getElem_cons_succ, List.getElem_cons_zero, List.setIfInBounds_toArray, List.set_cons_zero, List.set_cons_succ]
                                      refine wpAnyH_take (i := 26) (v := undef) rfl (by kernel_rfl) (by kernel_rfl) (by kernel_rfl) (fun _ _ _ h => h) (Or.inr ⟨by kernel_rfl, rfl⟩) hHeld1 ?_
                                      try simp only [Act.put, List.getElem_toArray, List.getElem_cons_succ, List.getElem_cons_zero, List.setIfInBounds_toArray, List.set_cons_zero, List.set_cons_succ]
                                      refine wpAnyH_take (i := 27) (v := undef) rfl (by kernel_rfl) (by kernel_rfl) (by kernel_rfl) (fun _ _ _ h => h) (Or.inr ⟨by kernel_rfl, rfl⟩) hHeld1 ?_
                                      try simp only [Act.put, List.getElem_toArray, List.getElem_cons_succ, List.getElem_cons_zero, List.setIfInBounds_toArray, List.set_cons_zero, List.set_cons_succ]
                                      refine wpAnyH_take (i := 28) (v := undef) rfl (by kernel_rfl) (by kernel_rfl) (by kernel_rfl) (fun _ _ _ h => h) (Or.inr ⟨by kernel_rfl, rfl⟩) hHeld1 ?_
                                      try simp only [Act.put, List.getElem_toArray, List.getElem_cons_succ, List.getElem_cons_zero, List.setIfInBounds_toArray, List.set_cons_zero, List.set_cons_succ]
                                      refine wpAnyH_take (i := 29) (v := undef) rfl (by kernel_rfl) (by kernel_rfl) (by kernel_rfl) (fun _ _ _ h => h) (Or.inr ⟨by kernel_rfl, rfl⟩) hHeld1 ?_
                                      try simp only [Act.put, List.getElem_toArray, List.getElem_cons_succ, List.getElem_cons_zero, List.setIfInBounds_toArray, List.set_cons_zero, List.set_cons_succ]
                                      refine wpAnyH_take (i := 30) (v := undef) rfl (by kernel_rfl) (by kernel_rfl) (by kernel_rfl) (fun _ _ _ h => h) (Or.inr ⟨by kernel_rfl, rfl⟩) hHeld1 ?_
                                      try simp only [Act.put, List.getElem_toArray, List.getElem_cons_succ, List.getElem_cons_zero, List.setIfInBounds_toArray, List.set_cons_zero, List.set_cons_succ]
                                      refine wpAnyH_take (i := 31) (v := undef) rfl (by kernel_rfl) (by kernel_rfl) (by kernel_rfl) (fun _ _ _ h => h) (Or.inr ⟨by kernel_rfl, rfl⟩) hHeld1 ?_
                                      try simp only [Act.put, List.getElem_toArray, List.getElem_cons_succ, List.getElem_cons_zero, List.setIfInBounds_toArray, List.set_cons_zero, List.set_cons_succ]
                                      refine wpAnyH_take (i := 32) (v := undef) rfl (by kernel_rfl) (by kernel_rfl) (by kernel_rfl) (fun _ _ _ h => h) (Or.inr ⟨by kernel_rfl, rfl⟩) hHeld1 ?_
                                      try simp only [Act.put, List.getElem_toArray, List.getElem_cons_succ, List.getElem_cons_zero, List.setIfInBounds_toArray, List.set_cons_zero, List.set_cons_succ]
                                      refine wpAnyH_take (i := 33) (v := undef) rfl (by kernel_rfl) (by kernel_rfl) (by kernel_rfl) (fun _ _ _ h => h) (Or.inr ⟨by kernel_rfl, rfl⟩) hHeld1 ?_
                                      try simp only [Act.put, List.getElem_toArray, List.getElem_cons_succ, List.getElem_cons_zero, List.setIfInBounds_toArray, List.set_cons_zero, List.set_cons_succ]
                                      refine wpAnyH_take (i := 34) (v := undef) rfl (by kernel_rfl) (by kernel_rfl) (by kernel_rfl) (fun _ _ _ h => h) (Or.inr ⟨by kernel_rfl, rfl⟩) hHeld1 ?_
                                      try simp only [Act.put, List.getElem_toArray, List.getElem_cons_succ, List.getElem_cons_zero, List.setIfInBounds_toArray, List.set_cons_zero, List.set_cons_succ]
                                      refine wpAnyH_take (i := 35) (v := undef) rfl (by kernel_rfl) (by kernel_rfl) (by kernel_rfl) (fun _ _ _ h => h) (Or.inr ⟨by kernel_rfl, rfl⟩) hHeld1 ?_
                                      try simp only [Act.put, List.getElem_toArray, List.getElem_cons_succ, List.getElem_cons_zero, List.setIfInBounds_toArray, List.set_cons_zero, List.set_cons_succ]
                                      refine wpAnyH_take (i := 36) (v := undef) rfl (by kernel_rfl) (by kernel_rfl) (by kernel_rfl) (fun _ _ _ h => h) (Or.inr ⟨by kernel_rfl, rfl⟩) hHeld1 ?_
                                      try simp only [Act.put, List.getElem_toArray, List.getElem_cons_succ, List.getElem_cons_zero, List.setIfInBounds_toArray, List.set_cons_zero, List.set_cons_succ]
                                      refine wpAnyH_take (i := 37) (v := .bool true) rfl (by kernel_rfl) (by kernel_rfl) (by kernel_rfl) (fun _ _ _ h => h) (Or.inl ⟨by rfl, fun w' hSw => by kernel_rfl⟩) hHeld1 ?_
                                      try simp only [Act.put, List.getElem_toArray, List.getElem_cons_succ, List.getElem_cons_zero, List.setIfInBounds_toArray, List.set_cons_zero, List.set_cons_succ]
                                      refine wpAnyH_take (i := 38) (v := .bool true) rfl (by kernel_rfl) (by kernel_rfl) (by kernel_rfl) (fun _ _ _ h => h) (Or.inl ⟨by rfl, fun w' hSw => by kernel_rfl⟩) hHeld1 ?_
                                      try simp only [Act.put, List.getElem_toArray, List.getElem_cons_succ, List.getElem_cons_zero, List.setIfInBounds_toArray, List.set_cons_zero, List.set_cons_succ]
                                      refine wpAnyH_done (by kernel_rfl) ?_ _
                                      refine NoPanic.normal ?_
                                      clear hHeld1
                                      go_wp2
                                      go_roundw
                                      case rel => exact ⟨⟨i + 1, by omega, by go_num⟩, HK1.out⟩
                                      case measure => simp [intOf]; omega
                                    · rw [e2] at g2 e3
                                      rcases k4.shape with ⟨d1, d2⟩ | ⟨kr, ar, nr, cr, d1, d2, d3⟩
                                      · rw [d2] at g4
                                        have HSS : Hid (∀ w', Kep (fun _ => False) w9 w' → w'.cell? ⟨b1, j, none⟩ = some (.slice f1 n1 q1) ∧ w'.cell? ⟨b2, j, none⟩ = some (.slice (some at') nt ct) ∧ w'.cell? ⟨br, o + i * 2, none⟩ = some (.slice f3 n3 q3) ∧ w'.cell? ⟨br, o + i * 2 + 1, none⟩ = some (.slice none 0 0)) := fun w' k => ⟨kcell k g1, kcell k g2, kcell k g3, kcell k g4⟩
                                        have HN2 := (HNO.out (fun h => no_c e1 d1 h.2) : _)
                                        have HN2 : Hid (∀ j' x', j' < j + 1 → S[j']? = some x' → ¬ (x'.1 ≤ r.1 ∧ (x'.2 = none ∨ ∃ t, r.2 = some t ∧ leB t x'.2 = true))) := HN2
                                        clear g1 g2 g3 g4 k1 k2 k3 k4 l3 l4 hlen hx HA e1 e2 e3 d1 d2
                                        go_upto_region 42 with fail
                                        refine wp_region_noPanic ?_
                                        refine wp_region_held_drew (S := fun w' => w'.cell? ⟨b1, j, none⟩ = some (.slice f1 n1 q1) ∧ w'.cell? ⟨b2, j, none⟩ = some (.slice (some at') nt ct) ∧ w'.cell? ⟨br, o + i * 2, none⟩ = some (.slice f3 n3 q3) ∧ w'.cell? ⟨br, o + i * 2 + 1, none⟩ = some (.slice none 0 0)) (by kernel_rfl) (HSS.out _ HK.out.drew) (fun hHeld => ?_)
                                        refine wpAnyH_take (i := 0) (v := .slice (some ⟨b1, 0, none⟩) m xc) rfl (by kernel_rfl) (by kernel_rfl) (by kernel_rfl) (fun _ _ _ h => h) (Or.inl ⟨by rfl, fun w' hSw => by kernel_rfl⟩) hHeld ?_
                                        try simp only [Act.put, List.getElem_toArray, List.getElem_cons_succ, List.getElem_cons_zero, List.setIfInBounds_toArray, List.set_cons_zero, List.set_cons_succ]
                                        refine wpAnyH_take (i := 1) (v := .int .i64 (j : Int)) rfl (by kernel_rfl) (by kernel_rfl) (by kernel_rfl) (fun _ _ _ h => h) (Or.inl ⟨by rfl, fun w' hSw => by kernel_rfl⟩) hHeld ?_
                                        try simp only [Act.put, List.getElem_toArray, List.getElem_cons_succ, List.getElem_cons_zero, List.setIfInBounds_toArray, List.set_cons_zero, List.set_cons_succ]
                                        refine wpAnyH_take (i := 2) (v := .pointer (some ⟨b1, j, none⟩)) rfl (by kernel_rfl) (by kernel_rfl) (by kernel_rfl) (fun _ _ _ h => h) (Or.inl ⟨by rfl, fun w' hSw => by go_simp⟩) hHeld ?_
                                        try simp only [Act.put, List.getElem_toArray, List.getElem_cons_succ, List.getElem_cons_zero, List.setIfInBounds_toArray, List.set_cons_zero, List.set_cons_succ]
                                        refine wpAnyH_take (i := 3) (v := .slice f1 n1 q1) rfl (by kernel_rfl) (by kernel_rfl) (by kernel_rfl) (fun _ _ _ h => h) (Or.inl ⟨by rfl, fun w' hSw => by (have h := hSw.1; go_simp)⟩) hHeld ?_
                                        try simp only [Act.put, List.getElem_toArray, List.getElem_cons_succ, List.getElem_cons_zero, List.setIfInBounds_toArray, List.set_cons_zero, List.set_cons_succ]
                                        refine wpAnyH_take (i := 4) (v := .slice (some ⟨br, o, none⟩) n c) rfl (by kernel_rfl) (by kernel_rfl) (by kernel_rfl) (fun _ _ _ h => h) (Or.inl ⟨by rfl, fun w' hSw => by kernel_rfl⟩) hHeld ?_
                                        try simp only [Act.put, List.getElem_toArray, List.getElem_cons_succ, List.getElem_cons_zero, List.setIfInBounds_toArray, List.set_cons_zero, List.set_cons_succ]
                                        refine wpAnyH_take (i := 5) (v := .int .i64 (i : Int)) rfl (by kernel_rfl) (by kernel_rfl) (by kernel_rfl) (fun _ _ _ h => h) (Or.inl ⟨by rfl, fun w' hSw => by kernel_rfl⟩) hHeld ?_
                                        try simp only [Act.put, List.getElem_toArray, List.getElem_cons_succ, List.getElem_cons_zero, List.setIfInBounds_toArray, List.set_cons_zero, List.set_cons_succ]
                                        refine wpAnyH_take (i := 6) (v := .pointer (some ⟨br, o + i * 2, none⟩)) rfl (by kernel_rfl) (by kernel_rfl) (by kernel_rfl) (fun _ _ _ h => h) (Or.inl ⟨by rfl, fun w' hSw => by go_simp⟩) hHeld ?_
                                        try simp only [Act.put, List.getElem_toArray, List.getElem_cons_succ, List.getElem_cons_zero, List.setIfInBounds_toArray, List.set_cons_zero, List.set_cons_succ]
                                        refine wpAnyH_take (i := 7) (v := .pointer (some ⟨br, o + i * 2, none⟩)) rfl (by kernel_rfl) (by kernel_rfl) (by kernel_rfl) (fun _ _ _ h => h) (Or.inl ⟨by rfl, fun w' hSw => by go_simp⟩) hHeld ?_
                                        try simp only [Act.put, List.getElem_toArray, List.getElem_cons_succ, List.getElem_cons_zero, List.setIfInBounds_toArray, List.set_cons_zero, List.set_cons_succ]
                                        refine wpAnyH_take (i := 8) (v := .slice f3 n3 q3) rfl (by kernel_rfl) (by kernel_rfl) (by kernel_rfl) (fun _ _ _ h => h) (Or.inl ⟨by rfl, fun w' hSw => by (have h := hSw.2.2.1; go_simp)⟩) hHeld ?_
                                        try simp only [Act.put, List.getElem_toArray, List.getElem_cons_succ, List.getElem_cons_zero, List.setIfInBounds_toArray, List.set_cons_zero, List.set_cons_succ]
                                        refine wpAnyH_ready (rs := [9]) (by kernel_rfl) (by simp) ?_
                                        refine AllReadyH.cons rfl (fun K hK => ?_) AllReadyH.nil
                                        go_simp
                                        refine Calls.mono (cmp_k (w := wr.drew) (HB.out.1.keepN (HK.out.drew)) (HG.out.2.2.1.keepN (HK.out.drew)) HB.out.2.1 HG.out.2.2.2.2.1) ?_
                                        rintro e wq1 ⟨rfl, kk⟩
                                        have HK1 : Hid (Kep (fun _ => False) w9 wq1) := (HK.out.drew).trans kk (fun _ _ h => h)
                                        refine hK.out _ _ (HSS.out _ HK1.out) (fun hHeld1 => ?_)
                                        clear hK kk hHeld
                                        try simp only [Act.put, List.getElem_toArray, List.getElem_cons_succ, List.getElem_cons_zero, List.setIfInBounds_toArray, List.set_cons_zero, List.set_cons_succ]
                                        refine wpAnyH_take (i := 10) (v := .bool true) rfl (by kernel_rfl) (by kernel_rfl) (by kernel_rfl) (fun _ _ _ h => h) (Or.inl ⟨by rfl, fun w' hSw => by go_simp⟩) hHeld1 ?_
                                        try simp only [Act.put, List.getElem_toArray, List.getElem_cons_succ, List.getElem_cons_zero, List.setIfInBounds_toArray, List.set_cons_zero, List.set_cons_succ]
                                        refine wpAnyH_take (i := 11) (v := .bool true) rfl (by kernel_rfl) (by kernel_rfl) (by kernel_rfl) (fun _ _ _ h => h) (Or.inl ⟨by rfl, fun w' hSw => by kernel_rfl⟩) hHeld1 ?_
                                        try simp only [Act.put, List.getElem_toArray, List.getElem_cons_succ, List.getElem_cons_zero, List.setIfInBounds_toArray, List.set_cons_zero, List.set_cons_succ]
                                        refine wpAnyH_take (i := 12) (v := .slice (some ⟨b2, 0, none⟩) m uc) rfl (by kernel_rfl) (by kernel_rfl) (by kernel_rfl) (fun _ _ _ h => h) (Or.inl ⟨by rfl, fun w' hSw => by kernel_rfl⟩) hHeld1 ?_
                                        try simp only [Act.put, List.getElem_toArray, List.getElem_cons_succ, List.getElem_cons_zero, List.setIfInBounds_toArray, List.set_cons_zero, List.set_cons_succ]
                                        refine wpAnyH_take (i := 13) (v := .int .i64 (j : Int)) rfl (by kernel_rfl) (by kernel_rfl) (by kernel_rfl) (fun _ _ _ h => h) (Or.inl ⟨by rfl, fun w' hSw => by kernel_rfl⟩) hHeld1 ?_
                                        try simp only [Act.put, List.getElem_toArray, List.getElem_cons_succ, List.getElem_cons_zero, List.setIfInBounds_toArray, List.set_cons_zero, List.set_cons_succ]
                                        refine wpAnyH_take (i := 14) (v := .pointer (some ⟨b2, j, none⟩)) rfl (by kernel_rfl) (by kernel_rfl) (by kernel_rfl) (fun _ _ _ h => h) (Or.inl ⟨by rfl, fun w' hSw => by go_simp⟩) hHeld1 ?_
                                        try simp only [Act.put, List.getElem_toArray, List.getElem_cons_succ, List.getElem_cons_zero, List.setIfInBounds_toArray, List.set_cons_zero, List.set_cons_succ]
                                        refine wpAnyH_take (i := 15) (v := .slice (some at') nt ct) rfl (by kernel_rfl) (by kernel_rfl) (by kernel_rfl) (fun _ _ _ h => h) (Or.inl ⟨by rfl, fun w' hSw => by (have h := hSw.2.1; go_simp)⟩) hHeld1 ?_
                                        try simp only [Act.put, List.getElem_toArray, List.getElem_cons_succ, List.getElem_cons_zero, List.setIfInBounds_toArray, List.set_cons_zero, List.set_cons_succ]
                                        refine wpAnyH_take (i := 16) (v := .bool false) rfl (by kernel_rfl) (by kernel_rfl) (by kernel_rfl) (fun _ _ _ h => h) (Or.inl ⟨by rfl, fun w' hSw => by go_simp⟩) hHeld1 ?_
                                        try simp only [Act.put, List.getElem_toArray, List.getElem_cons_succ, List.getElem_cons_zero, List.setIfInBounds_toArray, List.set_cons_zero, List.set_cons_succ]
                                        refine wpAnyH_take (i := 17) (v := .bool false) rfl (by kernel_rfl) (by kernel_rfl) (by kernel_rfl) (fun _ _ _ h => h) (Or.inl ⟨by rfl, fun w' hSw => by kernel_rfl⟩) hHeld1 ?_
                                        try simp only [Act.put, List.getElem_toArray, List.getElem_cons_succ, List.getElem_cons_zero, List.setIfInBounds_toArray, List.set_cons_zero, List.set_cons_succ]
                                        refine wpAnyH_take (i := 18) (v := .slice (some ⟨br, o, none⟩) n c) rfl (by kernel_rfl) (by kernel_rfl) (by kernel_rfl) (fun _ _ _ h => h) (Or.inl ⟨by rfl, fun w' hSw => by kernel_rfl⟩) hHeld1 ?_
                                        try simp only [Act.put, List.getElem_toArray, List.getElem_cons_succ, List.getElem_cons_zero, List.setIfInBounds_toArray, List.set_cons_zero, List.set_cons_succ]
                                        refine wpAnyH_take (i := 19) (v := .int .i64 (i : Int)) rfl (by kernel_rfl) (by kernel_rfl) (by kernel_rfl) (fun _ _ _ h => h) (Or.inl ⟨by rfl, fun w' hSw => by kernel_rfl⟩) hHeld1 ?_
                                        try simp only [Act.put, List.getElem_toArray, List.getElem_cons_succ, List.getElem_cons_zero, List.setIfInBounds_toArray, List.set_cons_zero, List.set_cons_succ]
                                        refine wpAnyH_take (i := 20) (v := .pointer (some ⟨br, o + i * 2, none⟩)) rfl (by kernel_rfl) (by kernel_rfl) (by kernel_rfl) (fun _ _ _ h => h) (Or.inl ⟨by rfl, fun w' hSw => by go_simp⟩) hHeld1 ?_
                                        try simp only [Act.put, List.getElem_toArray, List.getElem_cons_succ, List.getElem_cons_zero, List.setIfInBounds_toArray, List.set_cons_zero, List.set_cons_succ]
                                        refine wpAnyH_take (i := 21) (v := .pointer (some ⟨br, o + i * 2 + 1, none⟩)) rfl (by kernel_rfl) (by kernel_rfl) (by kernel_rfl) (fun _ _ _ h => h) (Or.inl ⟨by rfl, fun w' hSw => by go_simp⟩) hHeld1 ?_
                                        try simp only [Act.put, List.getElem_toArray, List.getElem_cons_succ, List.getElem_cons_zero, List.setIfInBounds_toArray, List.set_cons_zero, List.set_cons_succ]
                                        refine wpAnyH_take (i := 22) (v := .slice none 0 0) rfl (by kernel_rfl) (by kernel_rfl) (by kernel_rfl) (fun _ _ _ h => h) (Or.inl ⟨by rfl, fun w' hSw => by (have h := hSw.2.2.2; go_simp)⟩) hHeld1 ?_
                                        try simp only [Act.put, List.getElem_toArray, List.getElem_cons_succ, List.getElem_cons_zero, List.setIfInBounds_toArray, List.set_cons_zero, List.set_cons_succ]
                                        refine wpAnyH_take (i := 23) (v := .bool false) rfl (by kernel_rfl) (by kernel_rfl) (by kernel_rfl) (fun _ _ _ h => h) (Or.inl ⟨by rfl, fun w' hSw => by go_simp⟩) hHeld1 ?_
                                        try simp only [Act.put, List.getElem_toArray, List.getElem_cons_succ, List.getElem_cons_zero, List.setIfInBounds_toArray, List.set_cons_zero, List.set_cons_succ]
                                        refine wpAnyH_take (i := 24) (v := .bool false) rfl (by kernel_rfl) (by kernel_rfl) (by kernel_rfl) (fun _ _ _ h => h) (Or.inl ⟨by rfl, fun w' hSw => by kernel_rfl⟩) hHeld1 ?_
                                        try simp only [Act.put, List.getElem_toArray, List.getElem_cons_succ, List.getElem_cons_zero, List.setIfInBounds_toArray, List.set_cons_zero, List.set_cons_succ]
                                        refine wpAnyH_take (i := 25) (v := undef) rfl (by kernel_rfl) (by kernel_rfl) (by kernel_rfl) (fun _ _ _ h => h) (Or.inr ⟨by kernel_rfl, rfl⟩) hHeld1 ?_
                                        try simp only [Act.put, List.getElem_toArray, List.getElem_cons_succ, List.getElem_cons_zero, List.setIfInBounds_toArray, List.set_cons_zero, List.set_cons_succ]
                                        refine wpAnyH_take (i := 26) (v := undef) rfl (by kernel_rfl) (by kernel_rfl) (by kernel_rfl) (fun _ _ _ h => h) (Or.inr ⟨by kernel_rfl, rfl⟩) hHeld1 ?_
                                        try simp only [Act.put, List.getElem_toArray, List.getElem_cons_succ, List.getElem_cons_zero, List.setIfInBounds_toArray, List.set_cons_zero, List.set_cons_succ]
                                        refine wpAnyH_take (i := 27) (v := undef) rfl (by kernel_rfl) (by kernel_rfl) (by kernel_rfl) (fun _ _ _ h => h) (Or.inr ⟨by kernel_rfl, rfl⟩) hHeld1 ?_
                                        try simp only [Act.put, List.getElem_toArray, List.getElem_cons_succ, List.getElem_cons_zero, List.setIfInBounds_toArray, List.set_cons_zero, List.set_cons_succ]
                                        refine wpAnyH_take (i := 28) (v := undef) rfl (by kernel_rfl) (by kernel_rfl) (by kernel_rfl) (fun _ _ _ h => h) (Or.inr ⟨by kernel_rfl, rfl⟩) hHeld1 ?_
                                        try simp only [Act.put, List.getElem_toArray, List.getElem_cons_succ, List.getElem_cons_zero, List.setIfInBounds_toArray, List.set_cons_zero, List.set_cons_succ]
                                        refine wpAnyH_take (i := 29) (v := undef) rfl (by kernel_rfl) (by kernel_rfl) (by kernel_rfl) (fun _ _ _ h => h) (Or.inr ⟨by kernel_rfl, rfl⟩) hHeld1 ?_
                                        try simp only [Act.put, List.getElem_toArray, List.getElem_cons_succ, List.getElem_cons_zero, List.setIfInBounds_toArray, List.set_cons_zero, List.set_cons_succ]
                                        refine wpAnyH_take (i := 30) (v := undef) rfl (by kernel_rfl) (by kernel_rfl) (by kernel_rfl) (fun _ _ _ h => h) (Or.inr ⟨by kernel_rfl, rfl⟩) hHeld1 ?_
                                        try simp only [Act.put, List.getElem_toArray, List.getElem_cons_succ, List.getElem_cons_zero, List.setIfInBounds_toArray, List.set_cons_zero, List.set_cons_succ]
                                        refine wpAnyH_take (i := 31) (v := undef) rfl (by kernel_rfl) (by kernel_rfl) (by kernel_rfl) (fun _ _ _ h => h) (Or.inr ⟨by kernel_rfl, rfl⟩) hHeld1 ?_
                                        try simp only [Act.put, List.getElem_toArray, List.getElem_cons_succ, List.getElem_cons_zero, List.setIfInBounds_toArray, List.set_cons_zero, List.set_cons_succ]
                                        refine wpAnyH_take (i := 32) (v := undef) rfl (by kernel_rfl) (by kernel_rfl) (by kernel_rfl) (fun _ _ _ h => h) (Or.inr ⟨by kernel_rfl, rfl⟩) hHeld1 ?_
                                        try simp only [Act.put, List.getElem_toArray, List.getElem_cons_succ, List.getElem_cons_zero, List.setIfInBounds_toArray, List.set_cons_zero, List.set_cons_succ]
                                        refine wpAnyH_take (i := 33) (v := undef) rfl (by kernel_rfl) (by kernel_rfl) (by kernel_rfl) (fun _ _ _ h => h) (Or.inr ⟨by kernel_rfl, rfl⟩) hHeld1 ?_
                                        try simp only [Act.put, List.getElem_toArray, List.getElem_cons_succ, List.getElem_cons_zero, List.setIfInBounds_toArray, List.set_cons_zero, List.set_cons_succ]
                                        refine wpAnyH_take (i := 34) (v := undef) rfl (by kernel_rfl) (by kernel_rfl) (by kernel_rfl) (fun _ _ _ h => h) (Or.inr ⟨by kernel_rfl, rfl⟩) hHeld1 ?_
                                        try simp only [Act.put, List.getElem_toArray, List.getElem_cons_succ, List.getElem_cons_zero, List.setIfInBounds_toArray, List.set_cons_zero, List.set_cons_succ]
                                        refine wpAnyH_take (i := 35) (v := undef) rfl (by kernel_rfl) (by kernel_rfl) (by kernel_rfl) (fun _ _ _ h => h) (Or.inr ⟨by kernel_rfl, rfl⟩) hHeld1 ?_
                                        try simp only [Act.put, List.getElem_toArray, List.getElem_cons_succ, List.getElem_cons_zero, List.setIfInBounds_toArray, List.set_cons_zero, List.set_cons_succ]
                                        refine wpAnyH_take (i := 36) (v := .bool false) rfl (by kernel_rfl) (by kernel_rfl) (by kernel_rfl) (fun _ _ _ h => h) (Or.inl ⟨by rfl, fun w' hSw => by kernel_rfl⟩) hHeld1 ?_
                                        try simp only [Act.put, List.getElem_toArray, List.getElem_cons_succ, List.getElem_cons_zero, List.setIfInBounds_toArray, List.set_cons_zero, List.set_cons_succ]
                                        refine wpAnyH_take (i := 37) (v := .bool false) rfl (by kernel_rfl) (by kernel_rfl) (by kernel_rfl) (fun _ _ _ h => h) (Or.inl ⟨by rfl, fun w' hSw => by kernel_rfl⟩) hHeld1 ?_
                                        try simp only [Act.put, List.getElem_toArray, List.getElem_cons_succ, List.getElem_cons_zero, List.setIfInBounds_toArray, List.set_cons_zero, List.set_cons_succ]
                                        refine wpAnyH_take (i := 38) (v := .bool false) rfl (by kernel_rfl) (by kernel_rfl) (by kernel_rfl) (fun _ _ _ h => h) (Or.inl ⟨by rfl, fun w' hSw => by kernel_rfl⟩) hHeld1 ?_
                                        try simp only [Act.put, List.getElem_toArray, List.getElem_cons_succ, List.getElem_cons_zero, List.setIfInBounds_toArray, List.set_cons_zero, List.set_cons_succ]
                                        refine wpAnyH_done (by kernel_rfl) ?_ _
                                        refine NoPanic.normal ?_
                                        clear hHeld1
                                        go_wp2
                                        go_roundw
                                        case rel => exact ⟨⟨j + 1, by omega, HN2.out, by go_num⟩, HK1.out⟩
                                        case measure => simp [intOf]; omega
                                      · rw [d2] at g4 d3
                                        by_cases hl2 : cmpK kr kt ≤ 0
                                        · have HSS : Hid (∀ w', Kep (fun _ => False) w9 w' → w'.cell? ⟨b1, j, none⟩ = some (.slice f1 n1 q1) ∧ w'.cell? ⟨b2, j, none⟩ = some (.slice (some at') nt ct) ∧ w'.cell? ⟨br, o + i * 2, none⟩ = some (.slice f3 n3 q3) ∧ w'.cell? ⟨br, o + i * 2 + 1, none⟩ = some (.slice (some ar) nr cr)) := fun w' k => ⟨kcell k g1, kcell k g2, kcell k g3, kcell k g4⟩
                                          have HB2 : Hid (Bs w9 (.slice (some ar) nr cr) kr ∧ Bs w9 (.slice (some at') nt ct) kt ∧ kr.length ≤ 2097152 ∧ kt.length ≤ 2097152) := ⟨d3, e3, by rw [d1] at l4; exact l4, by have := HB.out.2.2; rw [e1] at this; exact this⟩
                                          clear g1 g2 g3 g4 k1 k2 k3 k4 l3 l4 hlen hx HA e1 e2 e3 d1 d2 d3
                                          go_upto_region 42 with fail
                                          refine wp_region_noPanic ?_
                                          refine wp_region_held_drew (S := fun w' => w'.cell? ⟨b1, j, none⟩ = some (.slice f1 n1 q1) ∧ w'.cell? ⟨b2, j, none⟩ = some (.slice (some at') nt ct) ∧ w'.cell? ⟨br, o + i * 2, none⟩ = some (.slice f3 n3 q3) ∧ w'.cell? ⟨br, o + i * 2 + 1, none⟩ = some (.slice (some ar) nr cr)) (by kernel_rfl) (HSS.out _ HK.out.drew) (fun hHeld => ?_)
                                          refine wpAnyH_take (i := 0) (v := .slice (some ⟨b1, 0, none⟩) m xc) rfl (by kernel_rfl) (by kernel_rfl) (by kernel_rfl) (fun _ _ _ h => h) (Or.inl ⟨by rfl, fun w' hSw => by kernel_rfl⟩) hHeld ?_
                                          try simp only [Act.put, List.getElem_toArray, List.getElem_cons_succ, List.getElem_cons_zero, List.setIfInBounds_toArray, List.set_cons_zero, List.set_cons_succ]
                                          refine wpAnyH_take (i := 1) (v := .int .i64 (j : Int)) rfl (by kernel_rfl) (by kernel_rfl) (by kernel_rfl) (fun _ _ _ h => h) (Or.inl ⟨by rfl, fun w' hSw => by kernel_rfl⟩) hHeld ?_
                                          try simp only [Act.put, List.getElem_toArray, List.getElem_cons_succ, List.getElem_cons_zero, List.setIfInBounds_toArray, List.set_cons_zero, List.set_cons_succ]
                                          refine wpAnyH_take (i := 2) (v := .pointer (some ⟨b1, j, none⟩)) rfl (by kernel_rfl) (by kernel_rfl) (by kernel_rfl) (fun _ _ _ h => h) (Or.inl ⟨by rfl, fun w' hSw => by go_simp⟩) hHeld ?_
                                          try simp only [Act.put, List.getElem_toArray, List.getElem_cons_succ, List.getElem_cons_zero, List.setIfInBounds_toArray, List.set_cons_zero, List.set_cons_succ]
                                          refine wpAnyH_take (i := 3) (v := .slice f1 n1 q1) rfl (by kernel_rfl) (by kernel_rfl) (by kernel_rfl) (fun _ _ _ h => h) (Or.inl ⟨by rfl, fun w' hSw => by (have h := hSw.1; go_simp)⟩) hHeld ?_
                                          try simp only [Act.put, List.getElem_toArray, List.getElem_cons_succ, List.getElem_cons_zero, List.setIfInBounds_toArray, List.set_cons_zero, List.set_cons_succ]
                                          refine wpAnyH_take (i := 4) (v := .slice (some ⟨br, o, none⟩) n c) rfl (by kernel_rfl) (by kernel_rfl) (by kernel_rfl) (fun _ _ _ h => h) (Or.inl ⟨by rfl, fun w' hSw => by kernel_rfl⟩) hHeld ?_
                                          try simp only [Act.put, List.getElem_toArray, List.getElem_cons_succ, List.getElem_cons_zero, List.setIfInBounds_toArray, List.set_cons_zero, List.set_cons_succ]
                                          refine wpAnyH_take (i := 5) (v := .int .i64 (i : Int)) rfl (by kernel_rfl) (by kernel_rfl) (by kernel_rfl) (fun _ _ _ h => h) (Or.inl ⟨by rfl, fun w' hSw => by kernel_rfl⟩) hHeld ?_
                                          try simp only [Act.put, List.getElem_toArray, List.getElem_cons_succ, List.getElem_cons_zero, List.setIfInBounds_toArray, List.set_cons_zero, List.set_cons_succ]
                                          refine wpAnyH_take (i := 6) (v := .pointer (some ⟨br, o + i * 2, none⟩)) rfl (by kernel_rfl) (by kernel_rfl) (by kernel_rfl) (fun _ _ _ h => h) (Or.inl ⟨by rfl, fun w' hSw => by go_simp⟩) hHeld ?_
                                          try simp only [Act.put, List.getElem_toArray, List.getElem_cons_succ, List.getElem_cons_zero, List.setIfInBounds_toArray, List.set_cons_zero, List.set_cons_succ]
                                          refine wpAnyH_take (i := 7) (v := .pointer (some ⟨br, o + i * 2, none⟩)) rfl (by kernel_rfl) (by kernel_rfl) (by kernel_rfl) (fun _ _ _ h => h) (Or.inl ⟨by rfl, fun w' hSw => by go_simp⟩) hHeld ?_
                                          try simp only [Act.put, List.getElem_toArray, List.getElem_cons_succ, List.getElem_cons_zero, List.setIfInBounds_toArray, List.set_cons_zero, List.set_cons_succ]
                                          refine wpAnyH_take (i := 8) (v := .slice f3 n3 q3) rfl (by kernel_rfl) (by kernel_rfl) (by kernel_rfl) (fun _ _ _ h => h) (Or.inl ⟨by rfl, fun w' hSw => by (have h := hSw.2.2.1; go_simp)⟩) hHeld ?_
                                          try simp only [Act.put, List.getElem_toArray, List.getElem_cons_succ, List.getElem_cons_zero, List.setIfInBounds_toArray, List.set_cons_zero, List.set_cons_succ]
                                          refine wpAnyH_ready (rs := [9]) (by kernel_rfl) (by simp) ?_
                                          refine AllReadyH.cons rfl (fun K hK => ?_) AllReadyH.nil
                                          go_simp
                                          refine Calls.mono (cmp_k (w := wr.drew) (HB.out.1.keepN (HK.out.drew)) (HG.out.2.2.1.keepN (HK.out.drew)) HB.out.2.1 HG.out.2.2.2.2.1) ?_
                                          rintro e wq1 ⟨rfl, kk⟩
                                          have HK1 : Hid (Kep (fun _ => False) w9 wq1) := (HK.out.drew).trans kk (fun _ _ h => h)
                                          refine hK.out _ _ (HSS.out _ HK1.out) (fun hHeld1 => ?_)
                                          clear hK kk hHeld
                                          try simp only [Act.put, List.getElem_toArray, List.getElem_cons_succ, List.getElem_cons_zero, List.setIfInBounds_toArray, List.set_cons_zero, List.set_cons_succ]
                                          refine wpAnyH_take (i := 10) (v := .bool true) rfl (by kernel_rfl) (by kernel_rfl) (by kernel_rfl) (fun _ _ _ h => h) (Or.inl ⟨by rfl, fun w' hSw => by go_simp⟩) hHeld1 ?_
                                          try simp only [Act.put, List.getElem_toArray, List.getElem_cons_succ, List.getElem_cons_zero, List.setIfInBounds_toArray, List.set_cons_zero, List.set_cons_succ]
                                          refine wpAnyH_take (i := 11) (v := .bool true) rfl (by kernel_rfl) (by kernel_rfl) (by kernel_rfl) (fun _ _ _ h => h) (Or.inl ⟨by rfl, fun w' hSw => by kernel_rfl⟩) hHeld1 ?_
                                          try simp only [Act.put, List.getElem_toArray, List.getElem_cons_succ, List.getElem_cons_zero, List.setIfInBounds_toArray, List.set_cons_zero, List.set_cons_succ]
                                          refine wpAnyH_take (i := 12) (v := .slice (some ⟨b2, 0, none⟩) m uc) rfl (by kernel_rfl) (by kernel_rfl) (by kernel_rfl) (fun _ _ _ h => h) (Or.inl ⟨by rfl, fun w' hSw => by kernel_rfl⟩) hHeld1 ?_
                                          try simp only [Act.put, List.getElem_toArray, List.getElem_cons_succ, List.getElem_cons_zero, List.setIfInBounds_toArray, List.set_cons_zero, List.set_cons_succ]
                                          refine wpAnyH_take (i := 13) (v := .int .i64 (j : Int)) rfl (by kernel_rfl) (by kernel_rfl) (by kernel_rfl) (fun _ _ _ h => h) (Or.inl ⟨by rfl, fun w' hSw => by kernel_rfl⟩) hHeld1 ?_
                                          try simp only [Act.put, List.getElem_toArray, List.getElem_cons_succ, List.getElem_cons_zero, List.setIfInBounds_toArray, List.set_cons_zero, List.set_cons_succ]
                                          refine wpAnyH_take (i := 14) (v := .pointer (some ⟨b2, j, none⟩)) rfl (by kernel_rfl) (by kernel_rfl) (by kernel_rfl) (fun _ _ _ h => h) (Or.inl ⟨by rfl, fun w' hSw => by go_simp⟩) hHeld1 ?_
                                          try simp only [Act.put, List.getElem_toArray, List.getElem_cons_succ, List.getElem_cons_zero, List.setIfInBounds_toArray, List.set_cons_zero, List.set_cons_succ]
                                          refine wpAnyH_take (i := 15) (v := .slice (some at') nt ct) rfl (by kernel_rfl) (by kernel_rfl) (by kernel_rfl) (fun _ _ _ h => h) (Or.inl ⟨by rfl, fun w' hSw => by (have h := hSw.2.1; go_simp)⟩) hHeld1 ?_
                                          try simp only [Act.put, List.getElem_toArray, List.getElem_cons_succ, List.getElem_cons_zero, List.setIfInBounds_toArray, List.set_cons_zero, List.set_cons_succ]
                                          refine wpAnyH_take (i := 16) (v := .bool false) rfl (by kernel_rfl) (by kernel_rfl) (by kernel_rfl) (fun _ _ _ h => h) (Or.inl ⟨by rfl, fun w' hSw => by go_simp⟩) hHeld1 ?_
                                          try simp only [Act.put, List.getElem_toArray, List.getElem_cons_succ, List.getElem_cons_zero, List.setIfInBounds_toArray, List.set_cons_zero, List.set_cons_succ]
                                          refine wpAnyH_take (i := 17) (v := .bool false) rfl (by kernel_rfl) (by kernel_rfl) (by kernel_rfl) (fun _ _ _ h => h) (Or.inl ⟨by rfl, fun w' hSw => by kernel_rfl⟩) hHeld1 ?_
                                          try simp only [Act.put, List.getElem_toArray, List.getElem_cons_succ, List.getElem_cons_zero, List.setIfInBounds_toArray, List.set_cons_zero, List.set_cons_succ]
                                          refine wpAnyH_take (i := 18) (v := .slice (some ⟨br, o, none⟩) n c) rfl (by kernel_rfl) (by kernel_rfl) (by kernel_rfl) (fun _ _ _ h => h) (Or.inl ⟨by rfl, fun w' hSw => by kernel_rfl⟩) hHeld1 ?_
                                          try simp only [Act.put, List.getElem_toArray, List.getElem_cons_succ, List.getElem_cons_zero, List.setIfInBounds_toArray, List.set_cons_zero, List.set_cons_succ]
                                          refine wpAnyH_take (i := 19) (v := .int .i64 (i : Int)) rfl (by kernel_rfl) (by kernel_rfl) (by kernel_rfl) (fun _ _ _ h => h) (Or.inl ⟨by rfl, fun w' hSw => by kernel_rfl⟩) hHeld1 ?_
                                          try simp only [Act.put, List.getElem_toArray, List.getElem_cons_succ, List.getElem_cons_zero, List.setIfInBounds_toArray, List.set_cons_zero, List.set_cons_succ]
                                          refine wpAnyH_take (i := 20) (v := .pointer (some ⟨br, o + i * 2, none⟩)) rfl (by kernel_rfl) (by kernel_rfl) (by kernel_rfl) (fun _ _ _ h => h) (Or.inl ⟨by rfl, fun w' hSw => by go_simp⟩) hHeld1 ?_
                                          try simp only [Act.put, List.getElem_toArray, List.getElem_cons_succ, List.getElem_cons_zero, List.setIfInBounds_toArray, List.set_cons_zero, List.set_cons_succ]
                                          refine wpAnyH_take (i := 21) (v := .pointer (some ⟨br, o + i * 2 + 1, none⟩)) rfl (by kernel_rfl) (by kernel_rfl) (by kernel_rfl) (fun _ _ _ h => h) (Or.inl ⟨by rfl, fun w' hSw => by go_simp⟩) hHeld1 ?_
                                          try simp only [Act.put, List.getElem_toArray, List.getElem_cons_succ, List.getElem_cons_zero, List.setIfInBounds_toArray, List.set_cons_zero, List.set_cons_succ]
                                          refine wpAnyH_take (i := 22) (v := .slice (some ar) nr cr) rfl (by kernel_rfl) (by kernel_rfl) (by kernel_rfl) (fun _ _ _ h => h) (Or.inl ⟨by rfl, fun w' hSw => by (have h := hSw.2.2.2; go_simp)⟩) hHeld1 ?_
                                          try simp only [Act.put, List.getElem_toArray, List.getElem_cons_succ, List.getElem_cons_zero, List.setIfInBounds_toArray, List.set_cons_zero, List.set_cons_succ]
                                          refine wpAnyH_take (i := 23) (v := .bool true) rfl (by kernel_rfl) (by kernel_rfl) (by kernel_rfl) (fun _ _ _ h => h) (Or.inl ⟨by rfl, fun w' hSw => by go_simp⟩) hHeld1 ?_
                                          try simp only [Act.put, List.getElem_toArray, List.getElem_cons_succ, List.getElem_cons_zero, List.setIfInBounds_toArray, List.set_cons_zero, List.set_cons_succ]
                                          refine wpAnyH_take (i := 24) (v := .bool true) rfl (by kernel_rfl) (by kernel_rfl) (by kernel_rfl) (fun _ _ _ h => h) (Or.inl ⟨by rfl, fun w' hSw => by kernel_rfl⟩) hHeld1 ?_
                                          try simp only [Act.put, List.getElem_toArray, List.getElem_cons_succ, List.getElem_cons_zero, List.setIfInBounds_toArray, List.set_cons_zero, List.set_cons_succ]
                                          refine wpAnyH_take (i := 25) (v := .slice (some ⟨br, o, none⟩) n c) rfl (by kernel_rfl) (by kernel_rfl) (by kernel_rfl) (fun _ _ _ h => h) (Or.inl ⟨by rfl, fun w' hSw => by kernel_rfl⟩) hHeld1 ?_
                                          try simp only [Act.put, List.getElem_toArray, List.getElem_cons_succ, List.getElem_cons_zero, List.setIfInBounds_toArray, List.set_cons_zero, List.set_cons_succ]
                                          refine wpAnyH_take (i := 26) (v := .int .i64 (i : Int)) rfl (by kernel_rfl) (by kernel_rfl) (by kernel_rfl) (fun _ _ _ h => h) (Or.inl ⟨by rfl, fun w' hSw => by kernel_rfl⟩) hHeld1 ?_
                                          try simp only [Act.put, List.getElem_toArray, List.getElem_cons_succ, List.getElem_cons_zero, List.setIfInBounds_toArray, List.set_cons_zero, List.set_cons_succ]
                                          refine wpAnyH_take (i := 27) (v := .pointer (some ⟨br, o + i * 2, none⟩)) rfl (by kernel_rfl) (by kernel_rfl) (by kernel_rfl) (fun _ _ _ h => h) (Or.inl ⟨by rfl, fun w' hSw => by go_simp⟩) hHeld1 ?_
                                          try simp only [Act.put, List.getElem_toArray, List.getElem_cons_succ, List.getElem_cons_zero, List.setIfInBounds_toArray, List.set_cons_zero, List.set_cons_succ]
                                          refine wpAnyH_take (i := 28) (v := .pointer (some ⟨br, o + i * 2 + 1, none⟩)) rfl (by kernel_rfl) (by kernel_rfl) (by kernel_rfl) (fun _ _ _ h => h) (Or.inl ⟨by rfl, fun w' hSw => by go_simp⟩) hHeld1 ?_
                                          try simp only [Act.put, List.getElem_toArray, List.getElem_cons_succ, List.getElem_cons_zero, List.setIfInBounds_toArray, List.set_cons_zero, List.set_cons_succ]
                                          refine wpAnyH_take (i := 29) (v := .slice (some ar) nr cr) rfl (by kernel_rfl) (by kernel_rfl) (by kernel_rfl) (fun _ _ _ h => h) (Or.inl ⟨by rfl, fun w' hSw => by (have h := hSw.2.2.2; go_simp)⟩) hHeld1 ?_
                                          try simp only [Act.put, List.getElem_toArray, List.getElem_cons_succ, List.getElem_cons_zero, List.setIfInBounds_toArray, List.set_cons_zero, List.set_cons_succ]
                                          refine wpAnyH_take (i := 30) (v := .slice (some ⟨b2, 0, none⟩) m uc) rfl (by kernel_rfl) (by kernel_rfl) (by kernel_rfl) (fun _ _ _ h => h) (Or.inl ⟨by rfl, fun w' hSw => by kernel_rfl⟩) hHeld1 ?_
                                          try simp only [Act.put, List.getElem_toArray, List.getElem_cons_succ, List.getElem_cons_zero, List.setIfInBounds_toArray, List.set_cons_zero, List.set_cons_succ]
                                          refine wpAnyH_take (i := 31) (v := .int .i64 (j : Int)) rfl (by kernel_rfl) (by kernel_rfl) (by kernel_rfl) (fun _ _ _ h => h) (Or.inl ⟨by rfl, fun w' hSw => by kernel_rfl⟩) hHeld1 ?_
                                          try simp only [Act.put, List.getElem_toArray, List.getElem_cons_succ, List.getElem_cons_zero, List.setIfInBounds_toArray, List.set_cons_zero, List.set_cons_succ]
                                          refine wpAnyH_take (i := 32) (v := .pointer (some ⟨b2, j, none⟩)) rfl (by kernel_rfl) (by kernel_rfl) (by kernel_rfl) (fun _ _ _ h => h) (Or.inl ⟨by rfl, fun w' hSw => by go_simp⟩) hHeld1 ?_
                                          try simp only [Act.put, List.getElem_toArray, List.getElem_cons_succ, List.getElem_cons_zero, List.setIfInBounds_toArray, List.set_cons_zero, List.set_cons_succ]
                                          refine wpAnyH_take (i := 33) (v := .slice (some at') nt ct) rfl (by kernel_rfl) (by kernel_rfl) (by kernel_rfl) (fun _ _ _ h => h) (Or.inl ⟨by rfl, fun w' hSw => by (have h := hSw.2.1; go_simp)⟩) hHeld1 ?_
                                          try simp only [Act.put, List.getElem_toArray, List.getElem_cons_succ, List.getElem_cons_zero, List.setIfInBounds_toArray, List.set_cons_zero, List.set_cons_succ]
                                          refine wpAnyH_ready (rs := [34]) (by kernel_rfl) (by simp) ?_
                                          refine AllReadyH.cons rfl (fun K hK => ?_) AllReadyH.nil
                                          go_simp
                                          refine Calls.mono (cmp_k (w := wq1) (HB2.out.1.keepN (HK1.out)) (HB2.out.2.1.keepN (HK1.out)) HB2.out.2.2.1 HB2.out.2.2.2) ?_
                                          rintro e wq2 ⟨rfl, kk⟩
                                          have HK2 : Hid (Kep (fun _ => False) w9 wq2) := (HK1.out).trans kk (fun _ _ h => h)
                                          refine hK.out _ _ (HSS.out _ HK2.out) (fun hHeld2 => ?_)
                                          clear hK kk hHeld1
                                          try simp only [Act.put, List.getElem_toArray, List.getElem_cons_succ, List.getElem_cons_zero, List.setIfInBounds_toArray, List.set_cons_zero, List.set_cons_succ]
                                          refine wpAnyH_take (i := 35) (v := .bool true) rfl (by kernel_rfl) (by kernel_rfl) (by kernel_rfl) (fun _ _ _ h => h) (Or.inl ⟨by rfl, fun w' hSw => by go_simp⟩) hHeld2 ?_
                                          try simp only [Act.put, List.getElem_toArray, List.getElem_cons_succ, List.getElem_cons_zero, List.setIfInBounds_toArray, List.set_cons_zero, List.set_cons_succ]
                                          refine wpAnyH_take (i := 36) (v := .bool true) rfl (by kernel_rfl) (by kernel_rfl) (by kernel_rfl) (fun _ _ _ h => h) (Or.inl ⟨by rfl, fun w' hSw => by kernel_rfl⟩) hHeld2 ?_
                                          try simp only [Act.put, List.getElem_toArray, List.getElem_cons_succ, List.getElem_cons_zero, List.setIfInBounds_toArray, List.set_cons_zero, List.set_cons_succ]
                                          refine wpAnyH_take (i := 37) (v := .bool true) rfl (by kernel_rfl) (by kernel_rfl) (by kernel_rfl) (fun _ _ _ h => h) (Or.inl ⟨by rfl, fun w' hSw => by kernel_rfl⟩) hHeld2 ?_
                                          try simp only [Act.put, List.getElem_toArray, List.getElem_cons_succ, List.getElem_cons_zero, List.setIfInBounds_toArray, List.set_cons_zero, List.set_cons_succ]
                                          refine wpAnyH_take (i := 38) (v := .bool true) rfl (by kernel_rfl) (by kernel_rfl) (by kernel_rfl) (fun _ _ _ h => h) (Or.inl ⟨by rfl, fun w' hSw => by kernel_rfl⟩) hHeld2 ?_
                                          try simp only [Act.put, List.getElem_toArray, List.getElem_cons_succ, List.getElem_cons_zero, List.setIfInBounds_toArray, List.set_cons_zero, List.set_cons_succ]
                                          refine wpAnyH_done (by kernel_rfl) ?_ _
                                          refine NoPanic.normal ?_
                                          clear hHeld2
                                          go_wp2
                                          go_roundw
                                          case rel => exact ⟨⟨i + 1, by omega, by go_num⟩, HK2.out⟩
                                          case measure => simp [intOf]; omega
                                        · have HSS : Hid (∀ w', Kep (fun _ => False) w9 w' → w'.cell? ⟨b1, j, none⟩ = some (.slice f1 n1 q1) ∧ w'.cell? ⟨b2, j, none⟩ = some (.slice (some at') nt ct) ∧ w'.cell? ⟨br, o + i * 2, none⟩ = some (.slice f3 n3 q3) ∧ w'.cell? ⟨br, o + i * 2 + 1, none⟩ = some (.slice (some ar) nr cr)) := fun w' k => ⟨kcell k g1, kcell k g2, kcell k g3, kcell k g4⟩
                                          have HB2 : Hid (Bs w9 (.slice (some ar) nr cr) kr ∧ Bs w9 (.slice (some at') nt ct) kt ∧ kr.length ≤ 2097152 ∧ kt.length ≤ 2097152) := ⟨d3, e3, by rw [d1] at l4; exact l4, by have := HB.out.2.2; rw [e1] at this; exact this⟩
                                          have HN2 := (HNO.out (fun h => no_e e1 d1 hl2 h.2) : _)
                                          have HN2 : Hid (∀ j' x', j' < j + 1 → S[j']? = some x' → ¬ (x'.1 ≤ r.1 ∧ (x'.2 = none ∨ ∃ t, r.2 = some t ∧ leB t x'.2 = true))) := HN2
                                          clear g1 g2 g3 g4 k1 k2 k3 k4 l3 l4 hlen hx HA e1 e2 e3 d1 d2 d3
                                          go_upto_region 42 with fail
                                          refine wp_region_noPanic ?_
                                          refine wp_region_held_drew (S := fun w' => w'.cell? ⟨b1, j, none⟩ = some (.slice f1 n1 q1) ∧ w'.cell? ⟨b2, j, none⟩ = some (.slice (some at') nt ct) ∧ w'.cell? ⟨br, o + i * 2, none⟩ = some (.slice f3 n3 q3) ∧ w'.cell? ⟨br, o + i * 2 + 1, none⟩ = some (.slice (some ar) nr cr)) (by kernel_rfl) (HSS.out _ HK.out.drew) (fun hHeld => ?_)
                                          refine wpAnyH_take (i := 0) (v := .slice (some ⟨b1, 0, none⟩) m xc) rfl (by kernel_rfl) (by kernel_rfl) (by kernel_rfl) (fun _ _ _ h => h) (Or.inl ⟨by rfl, fun w' hSw => by kernel_rfl⟩) hHeld ?_
                                          try simp only [Act.put, List.getElem_toArray, List.getElem_cons_succ, List.getElem_cons_zero, List.setIfInBounds_toArray, List.set_cons_zero, List.set_cons_succ]
                                          refine wpAnyH_take (i := 1) (v := .int .i64 (j : Int)) rfl (by kernel_rfl) (by kernel_rfl) (by kernel_rfl) (fun _ _ _ h => h) (Or.inl ⟨by rfl, fun w' hSw => by kernel_rfl⟩) hHeld ?_
                                          try simp only [Act.put, List.getElem_toArray, List.getElem_cons_succ, List.getElem_cons_zero, List.setIfInBounds_toArray, List.set_cons_zero, List.set_cons_succ]
                                          refine wpAnyH_take (i := 2) (v := .pointer (some ⟨b1, j, none⟩)) rfl (by kernel_rfl) (by kernel_rfl) (by kernel_rfl) (fun _ _ _ h => h) (Or.inl ⟨by rfl, fun w' hSw => by go_simp⟩) hHeld ?_
                                          try simp only [Act.put, List.getElem_toArray, List.getElem_cons_succ, List.getElem_cons_zero, List.setIfInBounds_toArray, List.set_cons_zero, List.set_cons_succ]
                                          refine wpAnyH_take (i := 3) (v := .slice f1 n1 q1) rfl (by kernel_rfl) (by kernel_rfl) (by kernel_rfl) (fun _ _ _ h => h) (Or.inl ⟨by rfl, fun w' hSw => by (have h := hSw.1; go_simp)⟩) hHeld ?_
                                          try simp only [Act.put, List.getElem_toArray, List.getElem_cons_succ, List.getElem_cons_zero, List.setIfInBounds_toArray, List.set_cons_zero, List.set_cons_succ]
                                          refine wpAnyH_take (i := 4) (v := .slice (some ⟨br, o, none⟩) n c) rfl (by kernel_rfl) (by kernel_rfl) (by kernel_rfl) (fun _ _ _ h => h) (Or.inl ⟨by rfl, fun w' hSw => by kernel_rfl⟩) hHeld ?_
                                          try simp only [Act.put, List.getElem_toArray, List.getElem_cons_succ, List.getElem_cons_zero, List.setIfInBounds_toArray, List.set_cons_zero, List.set_cons_succ]
                                          refine wpAnyH_take (i := 5) (v := .int .i64 (i : Int)) rfl (by kernel_rfl) (by kernel_rfl) (by kernel_rfl) (fun _ _ _ h => h) (Or.inl ⟨by rfl, fun w' hSw => by kernel_rfl⟩) hHeld ?_
                                          try simp only [Act.put, List.getElem_toArray, List.getElem_cons_succ, List.getElem_cons_zero, List.setIfInBounds_toArray, List.set_cons_zero, List.set_cons_succ]
                                          refine wpAnyH_take (i := 6) (v := .pointer (some ⟨br, o + i * 2, none⟩)) rfl (by kernel_rfl) (by kernel_rfl) (by kernel_rfl) (fun _ _ _ h => h) (Or.inl ⟨by rfl, fun w' hSw => by go_simp⟩) hHeld ?_
                                          try simp only [Act.put, List.getElem_toArray, List.getElem_cons_succ, List.getElem_cons_zero, List.setIfInBounds_toArray, List.set_cons_zero, List.set_cons_succ]
                                          refine wpAnyH_take (i := 7) (v := .pointer (some ⟨br, o + i * 2, none⟩)) rfl (by kernel_rfl) (by kernel_rfl) (by kernel_rfl) (fun _ _ _ h => h) (Or.inl ⟨by rfl, fun w' hSw => by go_simp⟩) hHeld ?_
                                          try simp only [Act.put, List.getElem_toArray, List.getElem_cons_succ, List.getElem_cons_zero, List.setIfInBounds_toArray, List.set_cons_zero, List.set_cons_succ]
                                          refine wpAnyH_take (i := 8) (v := .slice f3 n3 q3) rfl (by kernel_rfl) (by kernel_rfl) (by kernel_rfl) (fun _ _ _ h => h) (Or.inl ⟨by rfl, fun w' hSw => by (have h := hSw.2.2.1; go_simp)⟩) hHeld ?_
                                          try simp only [Act.put, List.getElem_toArray, List.getElem_cons_succ, List.getElem_cons_zero, List.setIfInBounds_toArray, List.set_cons_zero, List.set_cons_succ]
                                          refine wpAnyH_ready (rs := [9]) (by kernel_rfl) (by simp) ?_
                                          refine AllReadyH.cons rfl (fun K hK => ?_) AllReadyH.nil
                                          go_simp
                                          refine Calls.mono (cmp_k (w := wr.drew) (HB.out.1.keepN (HK.out.drew)) (HG.out.2.2.1.keepN (HK.out.drew)) HB.out.2.1 HG.out.2.2.2.2.1) ?_
                                          rintro e wq1 ⟨rfl, kk⟩
                                          have HK1 : Hid (Kep (fun _ => False) w9 wq1) := (HK.out.drew).trans kk (fun _ _ h => h)
                                          refine hK.out _ _ (HSS.out _ HK1.out) (fun hHeld1 => ?_)
                                          clear hK kk hHeld
                                          try simp only [Act.put, List.getElem_toArray, List.getElem_cons_succ, List.getElem_cons_zero, List.setIfInBounds_toArray, List.set_cons_zero, List.set_cons_succ]
                                          refine wpAnyH_take (i := 10) (v := .bool true) rfl (by kernel_rfl) (by kernel_rfl) (by kernel_rfl) (fun _ _ _ h => h) (Or.inl ⟨by rfl, fun w' hSw => by go_simp⟩) hHeld1 ?_
                                          try simp only [Act.put, List.getElem_toArray, List.getElem_cons_succ, List.getElem_cons_zero, List.setIfInBounds_toArray, List.set_cons_zero, List.set_cons_succ]
                                          refine wpAnyH_take (i := 11) (v := .bool true) rfl (by kernel_rfl) (by kernel_rfl) (by kernel_rfl) (fun _ _ _ h => h) (Or.inl ⟨by rfl, fun w' hSw => by kernel_rfl⟩) hHeld1 ?_
                                          try simp only [Act.put, List.getElem_toArray, List.getElem_cons_succ, List.getElem_cons_zero, List.setIfInBounds_toArray, List.set_cons_zero, List.set_cons_succ]
                                          refine wpAnyH_take (i := 12) (v := .slice (some ⟨b2, 0, none⟩) m uc) rfl (by kernel_rfl) (by kernel_rfl) (by kernel_rfl) (fun _ _ _ h => h) (Or.inl ⟨by rfl, fun w' hSw => by kernel_rfl⟩) hHeld1 ?_
                                          try simp only [Act.put, List.getElem_toArray, List.getElem_cons_succ, List.getElem_cons_zero, List.setIfInBounds_toArray, List.set_cons_zero, List.set_cons_succ]
                                          refine wpAnyH_take (i := 13) (v := .int .i64 (j : Int)) rfl (by kernel_rfl) (by kernel_rfl) (by kernel_rfl) (fun _ _ _ h => h) (Or.inl ⟨by rfl, fun w' hSw => by kernel_rfl⟩) hHeld1 ?_
                                          try simp only [Act.put, List.getElem_toArray, List.getElem_cons_succ, List.getElem_cons_zero, List.setIfInBounds_toArray, List.set_cons_zero, List.set_cons_succ]
                                          refine wpAnyH_take (i := 14) (v := .pointer (some ⟨b2, j, none⟩)) rfl (by kernel_rfl) (by kernel_rfl) (by kernel_rfl) (fun _ _ _ h => h) (Or.inl ⟨by rfl, fun w' hSw => by go_simp⟩) hHeld1 ?_
                                          try simp only [Act.put, List.getElem_toArray, List.getElem_cons_succ, List.getElem_cons_zero, List.setIfInBounds_toArray, List.set_cons_zero, List.set_cons_succ]
                                          refine wpAnyH_take (i := 15) (v := .slice (some at') nt ct) rfl (by kernel_rfl) (by kernel_rfl) (by kernel_rfl) (fun _ _ _ h => h) (Or.inl ⟨by rfl, fun w' hSw => by (have h := hSw.2.1; go_simp)⟩) hHeld1 ?_
                                          try simp only [Act.put, List.getElem_toArray, List.getElem_cons_succ, List.getElem_cons_zero, List.setIfInBounds_toArray, List.set_cons_zero, List.set_cons_succ]
                                          refine wpAnyH_take (i := 16) (v := .bool false) rfl (by kernel_rfl) (by kernel_rfl) (by kernel_rfl) (fun _ _ _ h => h) (Or.inl ⟨by rfl, fun w' hSw => by go_simp⟩) hHeld1 ?_
                                          try simp only [Act.put, List.getElem_toArray, List.getElem_cons_succ, List.getElem_cons_zero, List.setIfInBounds_toArray, List.set_cons_zero, List.set_cons_succ]
                                          refine wpAnyH_take (i := 17) (v := .bool false) rfl (by kernel_rfl) (by kernel_rfl) (by kernel_rfl) (fun _ _ _ h => h) (Or.inl ⟨by rfl, fun w' hSw => by kernel_rfl⟩) hHeld1 ?_
                                          try simp only [Act.put, List.getElem_toArray, List.getElem_cons_succ, List.getElem_cons_zero, List.setIfInBounds_toArray, List.set_cons_zero, List.set_cons_succ]
                                          refine wpAnyH_take (i := 18) (v := .slice (some ⟨br, o, none⟩) n c) rfl (by kernel_rfl) (by kernel_rfl) (by kernel_rfl) (fun _ _ _ h => h) (Or.inl ⟨by rfl, fun w' hSw => by kernel_rfl⟩) hHeld1 ?_
                                          try simp only [Act.put, List.getElem_toArray, List.getElem_cons_succ, List.getElem_cons_zero, List.setIfInBounds_toArray, List.set_cons_zero, List.set_cons_succ]
                                          refine wpAnyH_take (i := 19) (v := .int .i64 (i : Int)) rfl (by kernel_rfl) (by kernel_rfl) (by kernel_rfl) (fun _ _ _ h => h) (Or.inl ⟨by rfl, fun w' hSw => by kernel_rfl⟩) hHeld1 ?_
                                          try simp only [Act.put, List.getElem_toArray, List.getElem_cons_succ, List.getElem_cons_zero, List.setIfInBounds_toArray, List.set_cons_zero, List.set_cons_succ]
                                          refine wpAnyH_take (i := 20) (v := .pointer (some ⟨br, o + i * 2, none⟩)) rfl (by kernel_rfl) (by kernel_rfl) (by kernel_rfl) (fun _ _ _ h => h) (Or.inl ⟨by rfl, fun w' hSw => by go_simp⟩) hHeld1 ?_
                                          try simp only [Act.put, List.getElem_toArray, List.getElem_cons_succ, List.getElem_cons_zero, List.setIfInBounds_toArray, List.set_cons_zero, List.set_cons_succ]
                                          refine wpAnyH_take (i := 21) (v := .pointer (some ⟨br, o + i * 2 + 1, none⟩)) rfl (by kernel_rfl) (by kernel_rfl) (by kernel_rfl) (fun _ _ _ h => h) (Or.inl ⟨by rfl, fun w' hSw => by go_simp⟩) hHeld1 ?_
                                          try simp only [Act.put, List.getElem_toArray, List.getElem_cons_succ, List.getElem_cons_zero, List.setIfInBounds_toArray, List.set_cons_zero, List.set_cons_succ]
                                          refine wpAnyH_take (i := 22) (v := .slice (some ar) nr cr) rfl (by kernel_rfl) (by kernel_rfl) (by kernel_rfl) (fun _ _ _ h => h) (Or.inl ⟨by rfl, fun w' hSw => by (have h := hSw.2.2.2; go_simp)⟩) hHeld1 ?_
                                          try simp only [Act.put, List.getElem_toArray, List.getElem_cons_succ, List.getElem_cons_zero, List.setIfInBounds_toArray, List.set_cons_zero, List.set_cons_succ]
                                          refine wpAnyH_take (i := 23) (v := .bool true) rfl (by kernel_rfl) (by kernel_rfl) (by kernel_rfl) (fun _ _ _ h => h) (Or.inl ⟨by rfl, fun w' hSw => by go_simp⟩) hHeld1 ?_
                                          try simp only [Act.put, List.getElem_toArray, List.getElem_cons_succ, List.getElem_cons_zero, List.setIfInBounds_toArray, List.set_cons_zero, List.set_cons_succ]
                                          refine wpAnyH_take (i := 24) (v := .bool true) rfl (by kernel_rfl) (by kernel_rfl) (by kernel_rfl) (fun _ _ _ h => h) (Or.inl ⟨by rfl, fun w' hSw => by kernel_rfl⟩) hHeld1 ?_
                                          try simp only [Act.put, List.getElem_toArray, List.getElem_cons_succ, List.getElem_cons_zero, List.setIfInBounds_toArray, List.set_cons_zero, List.set_cons_succ]
                                          refine wpAnyH_take (i := 25) (v := .slice (some ⟨br, o, none⟩) n c) rfl (by kernel_rfl) (by kernel_rfl) (by kernel_rfl) (fun _ _ _ h => h) (Or.inl ⟨by rfl, fun w' hSw => by kernel_rfl⟩) hHeld1 ?_
                                          try simp only [Act.put, List.getElem_toArray, List.getElem_cons_succ, List.getElem_cons_zero, List.setIfInBounds_toArray, List.set_cons_zero, List.set_cons_succ]
                                          refine wpAnyH_take (i := 26) (v := .int .i64 (i : Int)) rfl (by kernel_rfl) (by kernel_rfl) (by kernel_rfl) (fun _ _ _ h => h) (Or.inl ⟨by rfl, fun w' hSw => by kernel_rfl⟩) hHeld1 ?_
                                          try simp only [Act.put, List.getElem_toArray, List.getElem_cons_succ, List.getElem_cons_zero, List.setIfInBounds_toArray, List.set_cons_zero, List.set_cons_succ]
                                          refine wpAnyH_take (i := 27) (v := .pointer (some ⟨br, o + i * 2, none⟩)) rfl (by kernel_rfl) (by kernel_rfl) (by kernel_rfl) (fun _ _ _ h => h) (Or.inl ⟨by rfl, fun w' hSw => by go_simp⟩) hHeld1 ?_
                                          try simp only [Act.put, List.getElem_toArray, List.getElem_cons_succ, List.getElem_cons_zero, List.setIfInBounds_toArray, List.set_cons_zero, List.set_cons_succ]
                                          refine wpAnyH_take (i := 28) (v := .pointer (some ⟨br, o + i * 2 + 1, none⟩)) rfl (by kernel_rfl) (by kernel_rfl) (by kernel_rfl) (fun _ _ _ h => h) (Or.inl ⟨by rfl, fun w' hSw => by go_simp⟩) hHeld1 ?_
                                          try simp only [Act.put, List.getElem_toArray, List.getElem_cons_succ, List.getElem_cons_zero, List.setIfInBounds_toArray, List.set_cons_zero, List.set_cons_succ]
                                          refine wpAnyH_take (i := 29) (v := .slice (some ar) nr cr) rfl (by kernel_rfl) (by kernel_rfl) (by kernel_rfl) (fun _ _ _ h => h) (Or.inl ⟨by rfl, fun w' hSw => by (have h := hSw.2.2.2; go_simp)⟩) hHeld1 ?_
                                          try simp only [Act.put, List.getElem_toArray, List.getElem_cons_succ, List.getElem_cons_zero, List.setIfInBounds_toArray, List.set_cons_zero, List.set_cons_succ]
                                          refine wpAnyH_take (i := 30) (v := .slice (some ⟨b2, 0, none⟩) m uc) rfl (by kernel_rfl) (by kernel_rfl) (by kernel_rfl) (fun _ _ _ h => h) (Or.inl ⟨by rfl, fun w' hSw => by kernel_rfl⟩) hHeld1 ?_
                                          try simp only [Act.put, List.getElem_toArray, List.getElem_cons_succ, List.getElem_cons_zero, List.setIfInBounds_toArray, List.set_cons_zero, List.set_cons_succ]
                                          refine wpAnyH_take (i := 31) (v := .int .i64 (j : Int)) rfl (by kernel_rfl) (by kernel_rfl) (by kernel_rfl) (fun _ _ _ h => h) (Or.inl ⟨by rfl, fun w' hSw => by kernel_rfl⟩) hHeld1 ?_
                                          try simp only [Act.put, List.getElem_toArray, List.getElem_cons_succ, List.getElem_cons_zero, List.setIfInBounds_toArray, List.set_cons_zero, List.set_cons_succ]
                                          refine wpAnyH_take (i := 32) (v := .pointer (some ⟨b2, j, none⟩)) rfl (by kernel_rfl) (by kernel_rfl) (by kernel_rfl) (fun _ _ _ h => h) (Or.inl ⟨by rfl, fun w' hSw => by go_simp⟩) hHeld1 ?_
                                          try simp only [Act.put, List.getElem_toArray, List.getElem_cons_succ, List.getElem_cons_zero, List.setIfInBounds_toArray, List.set_cons_zero, List.set_cons_succ]
                                          refine wpAnyH_take (i := 33) (v := .slice (some at') nt ct) rfl (by kernel_rfl) (by kernel_rfl) (by kernel_rfl) (fun _ _ _ h => h) (Or.inl ⟨by rfl, fun w' hSw => by (have h := hSw.2.1; go_simp)⟩) hHeld1 ?_
                                          try simp only [Act.put, List.getElem_toArray, List.getElem_cons_succ, List.getElem_cons_zero, List.setIfInBounds_toArray, List.set_cons_zero, List.set_cons_succ]
                                          refine wpAnyH_ready (rs := [34]) (by kernel_rfl) (by simp) ?_
                                          refine AllReadyH.cons rfl (fun K hK => ?_) AllReadyH.nil
                                          go_simp
                                          refine Calls.mono (cmp_k (w := wq1) (HB2.out.1.keepN (HK1.out)) (HB2.out.2.1.keepN (HK1.out)) HB2.out.2.2.1 HB2.out.2.2.2) ?_
                                          rintro e wq2 ⟨rfl, kk⟩
                                          have HK2 : Hid (Kep (fun _ => False) w9 wq2) := (HK1.out).trans kk (fun _ _ h => h)
                                          refine hK.out _ _ (HSS.out _ HK2.out) (fun hHeld2 => ?_)
                                          clear hK kk hHeld1
                                          try simp only [Act.put, List.getElem_toArray, List.getElem_cons_succ, List.getElem_cons_zero, List.setIfInBounds_toArray, List.set_cons_zero, List.set_cons_succ]
                                          refine wpAnyH_take (i := 35) (v := .bool false) rfl (by kernel_rfl) (by kernel_rfl) (by kernel_rfl) (fun _ _ _ h => h) (Or.inl ⟨by rfl, fun w' hSw => by go_simp⟩) hHeld2 ?_
                                          try simp only [Act.put, List.getElem_toArray, List.getElem_cons_succ, List.getElem_cons_zero, List.setIfInBounds_toArray, List.set_cons_zero, List.set_cons_succ]
                                          refine wpAnyH_take (i := 36) (v := .bool false) rfl (by kernel_rfl) (by kernel_rfl) (by kernel_rfl) (fun _ _ _ h => h) (Or.inl ⟨by rfl, fun w' hSw => by kernel_rfl⟩) hHeld2 ?_
                                          try simp only [Act.put, List.getElem_toArray, List.getElem_cons_succ, List.getElem_cons_zero, List.setIfInBounds_toArray, List.set_cons_zero, List.set_cons_succ]
                                          refine wpAnyH_take (i := 37) (v := .bool false) rfl (by kernel_rfl) (by kernel_rfl) (by kernel_rfl) (fun _ _ _ h => h) (Or.inl ⟨by rfl, fun w' hSw => by kernel_rfl⟩) hHeld2 ?_
                                          try simp only [Act.put, List.getElem_toArray, List.getElem_cons_succ, List.getElem_cons_zero, List.setIfInBounds_toArray, List.set_cons_zero, List.set_cons_succ]
                                          refine wpAnyH_take (i := 38) (v := .bool false) rfl (by kernel_rfl) (by kernel_rfl) (by kernel_rfl) (fun _ _ _ h => h) (Or.inl ⟨by rfl, fun w' hSw => by kernel_rfl⟩) hHeld2 ?_
                                          try simp only [Act.put, List.getElem_toArray, List.getElem_cons_succ, List.getElem_cons_zero, List.setIfInBounds_toArray, List.set_cons_zero, List.set_cons_succ]
                                          refine wpAnyH_done (by kernel_rfl) ?_ _
                                          refine NoPanic.normal ?_
                                          clear hHeld2
                                          go_wp2
                                          go_roundw
                                          case rel => exact ⟨⟨j + 1, by omega, HN2.out, by go_num⟩, HK2.out⟩
                                          case measure => simp [intOf]; omega
                                  · have HSS : Hid (∀ w', Kep (fun _ => False) w9 w' → w'.cell? ⟨b1, j, none⟩ = some (.slice f1 n1 q1) ∧ w'.cell? ⟨b2, j, none⟩ = some (.slice f2 n2 q2) ∧ w'.cell? ⟨br, o + i * 2, none⟩ = some (.slice f3 n3 q3) ∧ w'.cell? ⟨br, o + i * 2 + 1, none⟩ = some (.slice f4 n4 q4)) := fun w' k => ⟨kcell k g1, kcell k g2, kcell k g3, kcell k g4⟩
                                    have HN2 := (HNO.out (fun h => hle (cmpK_le.2 h.1)) : _)
                                    have HN2 : Hid (∀ j' x', j' < j + 1 → S[j']? = some x' → ¬ (x'.1 ≤ r.1 ∧ (x'.2 = none ∨ ∃ t, r.2 = some t ∧ leB t x'.2 = true))) := HN2
                                    clear g1 g2 g3 g4 k1 k2 k3 k4 l3 l4 hlen hx HA
                                    go_upto_region 42 with fail
                                    refine wp_region_noPanic ?_
                                    refine wp_region_held_drew (S := fun w' => w'.cell? ⟨b1, j, none⟩ = some (.slice f1 n1 q1) ∧ w'.cell? ⟨b2, j, none⟩ = some (.slice f2 n2 q2) ∧ w'.cell? ⟨br, o + i * 2, none⟩ = some (.slice f3 n3 q3) ∧ w'.cell? ⟨br, o + i * 2 + 1, none⟩ = some (.slice f4 n4 q4)) (by kernel_rfl) (HSS.out _ HK.out.drew) (fun hHeld => ?_)
                                    refine wpAnyH_take (i := 0) (v := .slice (some ⟨b1, 0, none⟩) m xc) rfl (by kernel_rfl) (by kernel_rfl) (by kernel_rfl) (fun _ _ _ h => h) (Or.inl ⟨by rfl, fun w' hSw => by kernel_rfl⟩) hHeld ?_
                                    try simp only [Act.put, List.getElem_toArray, List.getElem_cons_succ, List.getElem_cons_zero, List.setIfInBounds_toArray, List.set_cons_zero, List.set_cons_succ]
                                    refine wpAnyH_take (i := 1) (v := .int .i64 (j : Int)) rfl (by kernel_rfl) (by kernel_rfl) (by kernel_rfl) (fun _ _ _ h => h) (Or.inl ⟨by rfl, fun w' hSw => by kernel_rfl⟩) hHeld ?_
                                    try simp only [Act.put, List.getElem_toArray, List.getElem_cons_succ, List.getElem_cons_zero, List.setIfInBounds_toArray, List.set_cons_zero, List.set_cons_succ]
                                    refine wpAnyH_take (i := 2) (v := .pointer (some ⟨b1, j, none⟩)) rfl (by kernel_rfl) (by kernel_rfl) (by kernel_rfl) (fun _ _ _ h => h) (Or.inl ⟨by rfl, fun w' hSw => by go_simp⟩) hHeld ?_
                                    try simp only [Act.put, List.getElem_toArray, List.getElem_cons_succ, List.getElem_cons_zero, List.setIfInBounds_toArray, List.set_cons_zero, List.set_cons_succ]
                                    refine wpAnyH_take (i := 3) (v := .slice f1 n1 q1) rfl (by kernel_rfl) (by kernel_rfl) (by kernel_rfl) (fun _ _ _ h => h) (Or.inl ⟨by rfl, fun w' hSw => by (have h := hSw.1; go_simp)⟩) hHeld ?_
                                    try simp only [Act.put, List.getElem_toArray, List.getElem_cons_succ, List.getElem_cons_zero, List.setIfInBounds_toArray, List.set_cons_zero, List.set_cons_succ]
                                    refine wpAnyH_take (i := 4) (v := .slice (some ⟨br, o, none⟩) n c) rfl (by kernel_rfl) (by kernel_rfl) (by kernel_rfl) (fun _ _ _ h => h) (Or.inl ⟨by rfl, fun w' hSw => by kernel_rfl⟩) hHeld ?_
                                    try simp only [Act.put, List.getElem_toArray, List.getElem_cons_succ, List.getElem_cons_zero, List.setIfInBounds_toArray, List.set_cons_zero, List.set_cons_succ]
                                    refine wpAnyH_take (i := 5) (v := .int .i64 (i : Int)) rfl (by kernel_rfl) (by kernel_rfl) (by kernel_rfl) (fun _ _ _ h => h) (Or.inl ⟨by rfl, fun w' hSw => by kernel_rfl⟩) hHeld ?_
                                    try simp only [Act.put, List.getElem_toArray, List.getElem_cons_succ, List.getElem_cons_zero, List.setIfInBounds_toArray, List.set_cons_zero, List.set_cons_succ]
                                    refine wpAnyH_take (i := 6) (v := .pointer (some ⟨br, o + i * 2, none⟩)) rfl (by kernel_rfl) (by kernel_rfl) (by kernel_rfl) (fun _ _ _ h => h) (Or.inl ⟨by rfl, fun w' hSw => by go_simp⟩) hHeld ?_
                                    try simp only [Act.put, List.getElem_toArray, List.getElem_cons_succ, List.getElem_cons_zero, List.setIfInBounds_toArray, List.set_cons_zero, List.set_cons_succ]
                                    refine wpAnyH_take (i := 7) (v := .pointer (some ⟨br, o + i * 2, none⟩)) rfl (by kernel_rfl) (by kernel_rfl) (by kernel_rfl) (fun _ _ _ h => h) (Or.inl ⟨by rfl, fun w' hSw => by go_simp⟩) hHeld ?_
                                    try simp only [Act.put, List.getElem_toArray, List.getElem_cons_succ, List.getElem_cons_zero, List.setIfInBounds_toArray, List.set_cons_zero, List.set_cons_succ]
                                    refine wpAnyH_take (i := 8) (v := .slice f3 n3 q3) rfl (by kernel_rfl) (by kernel_rfl) (by kernel_rfl) (fun _ _ _ h => h) (Or.inl ⟨by rfl, fun w' hSw => by (have h := hSw.2.2.1; go_simp)⟩) hHeld ?_
                                    try simp only [Act.put, List.getElem_toArray, List.getElem_cons_succ, List.getElem_cons_zero, List.setIfInBounds_toArray, List.set_cons_zero, List.set_cons_succ]
                                    refine wpAnyH_ready (rs := [9]) (by kernel_rfl) (by simp) ?_
                                    refine AllReadyH.cons rfl (fun K hK => ?_) AllReadyH.nil
                                    go_simp
                                    refine Calls.mono (cmp_k (w := wr.drew) (HB.out.1.keepN (HK.out.drew)) (HG.out.2.2.1.keepN (HK.out.drew)) HB.out.2.1 HG.out.2.2.2.2.1) ?_
                                    rintro e wq1 ⟨rfl, kk⟩
                                    have HK1 : Hid (Kep (fun _ => False) w9 wq1) := (HK.out.drew).trans kk (fun _ _ h => h)
                                    refine hK.out _ _ (HSS.out _ HK1.out) (fun hHeld1 => ?_)
                                    clear hK kk hHeld
                                    try simp only [Act.put, List.getElem_toArray, List.getElem_cons_succ, List.getElem_cons_zero, List.setIfInBounds_toArray, List.set_cons_zero, List.set_cons_succ]
                                    refine wpAnyH_take (i := 10) (v := .bool false) rfl (by kernel_rfl) (by kernel_rfl) (by kernel_rfl) (fun _ _ _ h => h) (Or.inl ⟨by rfl, fun w' hSw => by go_simp⟩) hHeld1 ?_
                                    try simp only [Act.put, List.getElem_toArray, List.getElem_cons_succ, List.getElem_cons_zero, List.setIfInBounds_toArray, List.set_cons_zero, List.set_cons_succ]
                                    refine wpAnyH_take (i := 11) (v := .bool false) rfl (by kernel_rfl) (by kernel_rfl) (by kernel_rfl) (fun _ _ _ h => h) (Or.inl ⟨by rfl, fun w' hSw => by kernel_rfl⟩) hHeld1 ?_
                                    try simp only [Act.put, List.getElem_toArray, List.getElem_cons_succ, List.getElem_cons_zero, List.setIfInBounds_toArray, List.set_cons_zero, List.set_cons_succ]
                                    refine wpAnyH_take (i := 12) (v := undef) rfl (by kernel_rfl) (by kernel_rfl) (by kernel_rfl) (fun _ _ _ h => h) (Or.inr ⟨by kernel_rfl, rfl⟩) hHeld1 ?_
                                    try simp only [Act.put, List.getElem_toArray, List.getElem_cons_succ, List.getElem_cons_zero, List.setIfInBounds_toArray, List.set_cons_zero, List.set_cons_succ]
                                    refine wpAnyH_take (i := 13) (v := undef) rfl (by kernel_rfl) (by kernel_rfl) (by kernel_rfl) (fun _ _ _ h => h) (Or.inr ⟨by kernel_rfl, rfl⟩) hHeld1 ?_
                                    try simp only [Act.put, List.getElem_toArray, List.getElem_cons_succ, List.getElem_cons_zero, List.setIfInBounds_toArray, List.set_cons_zero, List.set_cons_succ]
                                    refine wpAnyH_take (i := 14) (v := undef) rfl (by kernel_rfl) (by kernel_rfl) (by kernel_rfl) (fun _ _ _ h => h) (Or.inr ⟨by kernel_rfl, rfl⟩) hHeld1 ?_
                                    try simp only [Act.put, List.getElem_toArray, List.getElem_cons_succ, List.getElem_cons_zero, List.setIfInBounds_toArray, List.set_cons_zero, List.set_cons_succ]
                                    refine wpAnyH_take (i := 15) (v := undef) rfl (by kernel_rfl) (by kernel_rfl) (by kernel_rfl) (fun _ _ _ h => h) (Or.inr ⟨by kernel_rfl, rfl⟩) hHeld1 ?_
                                    try simp only [Act.put, List.getElem_toArray, List.getElem_cons_succ, List.getElem_cons_zero, List.setIfInBounds_toArray, List.set_cons_zero, List.set_cons_succ]
                                    refine wpAnyH_take (i := 16) (v := undef) rfl (by kernel_rfl) (by kernel_rfl) (by kernel_rfl) (fun _ _ _ h => h) (Or.inr ⟨by kernel_rfl, rfl⟩) hHeld1 ?_
                                    try simp only [Act.put, List.getElem_toArray, List.getElem_cons_succ, List.getElem_cons_zero, List.setIfInBounds_toArray, List.set_cons_zero, List.set_cons_succ]
                                    refine wpAnyH_take (i := 17) (v := undef) rfl (by kernel_rfl) (by kernel_rfl) (by kernel_rfl) (fun _ _ _ h => h) (Or.inr ⟨by kernel_rfl, rfl⟩) hHeld1 ?_
                                    try simp only [Act.put, List.getElem_toArray, List.getElem_cons_succ, List.getElem_cons_zero, List.setIfInBounds_toArray, List.set_cons_zero, List.set_cons_succ]
                                    refine wpAnyH_take (i := 18) (v := undef) rfl (by kernel_rfl) (by kernel_rfl) (by kernel_rfl) (fun _ _ _ h => h) (Or.inr ⟨by kernel_rfl, rfl⟩) hHeld1 ?_
                                    try simp only [Act.put, List.getElem_toArray, List.getElem_cons_succ, List.getElem_cons_zero, List.setIfInBounds_toArray, List.set_cons_zero, List.set_cons_succ]
                                    refine wpAnyH_take (i := 19) (v := undef) rfl (by kernel_rfl) (by kernel_rfl) (by kernel_rfl) (fun _ _ _ h => h) (Or.inr ⟨by kernel_rfl, rfl⟩) hHeld1 ?_
                                    try simp only [Act.put, List.getElem_toArray, List.getElem_cons_succ, List.getElem_cons_zero, List.setIfInBounds_toArray, List.set_cons_zero, List.set_cons_succ]
                                    refine wpAnyH_take (i := 20) (v := undef) rfl (by kernel_rfl) (by kernel_rfl) (by kernel_rfl) (fun _ _ _ h => h) (Or.inr ⟨by kernel_rfl, rfl⟩) hHeld1 ?_
                                    try simp only [Act.put, List.getElem_toArray, List.getElem_cons_succ, List.getElem_cons_zero, List.setIfInBounds_toArray, List.set_cons_zero, List.set_cons_succ]
                                    refine wpAnyH_take (i := 21) (v := undef) rfl (by kernel_rfl) (by kernel_rfl) (by kernel_rfl) (fun _ _ _ h => h) (Or.inr ⟨by kernel_rfl, rfl⟩) hHeld1 ?_
                                    try simp only [Act.put, List.getElem_toArray, List.getElem_cons_succ, List.getElem_cons_zero, List.setIfInBounds_toArray, List.set_cons_zero, List.set_cons_succ]
                                    refine wpAnyH_take (i := 22) (v := undef) rfl (by kernel_rfl) (by kernel_rfl) (by kernel_rfl) (fun _ _ _ h => h) (Or.inr ⟨by kernel_rfl, rfl⟩) hHeld1 ?_
                                    try simp only [Act.put, List.getElem_toArray, List.getElem_cons_succ, List.getElem_cons_zero, List.setIfInBounds_toArray, List.set_cons_zero, List.set_cons_succ]
                                    refine wpAnyH_take (i := 23) (v := undef) rfl (by kernel_rfl) (by kernel_rfl) (by kernel_rfl) (fun _ _ _ h => h) (Or.inr ⟨by kernel_rfl, rfl⟩) hHeld1 ?_
                                    try simp only [Act.put, List.getElem_toArray, List.getElem_cons_succ, List.getElem_cons_zero, List.setIfInBounds_toArray, List.set_cons_zero, List.set_cons_succ]
                                    refine wpAnyH_take (i := 24) (v := undef) rfl (by kernel_rfl) (by kernel_rfl) (by kernel_rfl) (fun _ _ _ h => h) (Or.inr ⟨by kernel_rfl, rfl⟩) hHeld1 ?_
                                    try simp only [Act.put, List.getElem_toArray, List.getElem_cons_succ, List.getElem_cons_zero, List.setIfInBounds_toArray, List.set_cons_zero, List.set_cons_succ]
                                    refine wpAnyH_take (i := 25) (v := undef) rfl (by kernel_rfl) (by kernel_rfl) (by kernel_rfl) (fun _ _ _ h => h) (Or.inr ⟨by kernel_rfl, rfl⟩) hHeld1 ?_
                                    try simp only [Act.put, List.getElem_toArray, List.getElem_cons_succ, List.getElem_cons_zero, List.setIfInBounds_toArray, List.set_cons_zero, List.set_cons_succ]
                                    refine wpAnyH_take (i := 26) (v := undef) rfl (by kernel_rfl) (by kernel_rfl) (by kernel_rfl) (fun _ _ _ h => h) (Or.inr ⟨by kernel_rfl, rfl⟩) hHeld1 ?_
                                    try simp only [Act.put, List.getElem_toArray, List.getElem_cons_succ, List.getElem_cons_zero, List.setIfInBounds_toArray, List.set_cons_zero, List.set_cons_succ]
                                    refine wpAnyH_take (i := 27) (v := undef) rfl (by kernel_rfl) (by kernel_rfl) (by kernel_rfl) (fun _ _ _ h => h) (Or.inr ⟨by kernel_rfl, rfl⟩) hHeld1 ?_
                                    try simp only [Act.put, List.getElem_toArray, List.getElem_cons_succ, List.getElem_cons_zero, List.setIfInBounds_toArray, List.set_cons_zero, List.set_cons_succ]
                                    refine wpAnyH_take (i := 28) (v := undef) rfl (by kernel_rfl) (by kernel_rfl) (by kernel_rfl) (fun _ _ _ h => h) (Or.inr ⟨by kernel_rfl, rfl⟩) hHeld1 ?_
                                    try simp only [Act.put, List.getElem_toArray, List.getElem_cons_succ, List.getElem_cons_zero, List.setIfInBounds_toArray, List.set_cons_zero, List.set_cons_succ]
                                    refine wpAnyH_take (i := 29) (v := undef) rfl (by kernel_rfl) (by kernel_rfl) (by kernel_rfl) (fun _ _ _ h => h) (Or.inr ⟨by kernel_rfl, rfl⟩) hHeld1 ?_
                                    try simp only [Act.put, List.getElem_toArray, List.getElem_cons_succ, List.getElem_cons_zero, List.setIfInBounds_toArray, List.set_cons_zero, List.set_cons_succ]
                                    refine wpAnyH_take (i := 30) (v := undef) rfl (by kernel_rfl) (by kernel_rfl) (by kernel_rfl) (fun _ _ _ h => h) (Or.inr ⟨by kernel_rfl, rfl⟩) hHeld1 ?_
                                    try simp only [Act.put, List.getElem_toArray, List.getElem_cons_succ, List.getElem_cons_zero, List.setIfInBounds_toArray, List.set_cons_zero, List.set_cons_succ]
                                    refine wpAnyH_take (i := 31) (v := undef) rfl (by kernel_rfl) (by kernel_rfl) (by kernel_rfl) (fun _ _ _ h => h) (Or.inr ⟨by kernel_rfl, rfl⟩) hHeld1 ?_
                                    try simp only [Act.put, List.getElem_toArray, List.getElem_cons_succ, List.getElem_cons_zero, List.setIfInBounds_toArray, List.set_cons_zero, List.set_cons_succ]
                                    refine wpAnyH_take (i := 32) (v := undef) rfl (by kernel_rfl) (by kernel_rfl) (by kernel_rfl) (fun _ _ _ h => h) (Or.inr ⟨by kernel_rfl, rfl⟩) hHeld1 ?_
                                    try simp only [Act.put, List.getElem_toArray, List.getElem_cons_succ, List.getElem_cons_zero, List.setIfInBounds_toArray, List.set_cons_zero, List.set_cons_succ]
                                    refine wpAnyH_take (i := 33) (v := undef) rfl (by kernel_rfl) (by kernel_rfl) (by kernel_rfl) (fun _ _ _ h => h) (Or.inr ⟨by kernel_rfl, rfl⟩) hHeld1 ?_
                                    try simp only [Act.put, List.getElem_toArray, List.getElem_cons_succ, List.getElem_cons_zero, List.setIfInBounds_toArray, List.set_cons_zero, List.set_cons_succ]
                                    refine wpAnyH_take (i := 34) (v := undef) rfl (by kernel_rfl) (by kernel_rfl) (by kernel_rfl) (fun _ _ _ h => h) (Or.inr ⟨by kernel_rfl, rfl⟩) hHeld1 ?_
                                    try simp only [Act.put, List.getElem_toArray, List.getElem_cons_succ, List.getElem_cons_zero, List.setIfInBounds_toArray, List.set_cons_zero, List.set_cons_succ]
                                    refine wpAnyH_take (i := 35) (v := undef) rfl (by kernel_rfl) (by kernel_rfl) (by kernel_rfl) (fun _ _ _ h => h) (Or.inr ⟨by kernel_rfl, rfl⟩) hHeld1 ?_
                                    try simp only [Act.put, List.getElem_toArray, List.getElem_cons_succ, List.getElem_cons_zero, List.setIfInBounds_toArray, List.set_cons_zero, List.set_cons_succ]
                                    refine wpAnyH_take (i := 36) (v := undef) rfl (by kernel_rfl) (by kernel_rfl) (by kernel_rfl) (fun _ _ _ h => h) (Or.inr ⟨by kernel_rfl, rfl⟩) hHeld1 ?_
                                    try simp only [Act.put, List.getElem_toArray, List.getElem_cons_succ, List.getElem_cons_zero, List.setIfInBounds_toArray, List.set_cons_zero, List.set_cons_succ]
                                    refine wpAnyH_take (i := 37) (v := undef) rfl (by kernel_rfl) (by kernel_rfl) (by kernel_rfl) (fun _ _ _ h => h) (Or.inr ⟨by kernel_rfl, rfl⟩) hHeld1 ?_
                                    try simp only [Act.put, List.getElem_toArray, List.getElem_cons_succ, List.getElem_cons_zero, List.setIfInBounds_toArray, List.set_cons_zero, List.set_cons_succ]
                                    refine wpAnyH_take (i := 38) (v := .bool false) rfl (by kernel_rfl) (by kernel_rfl) (by kernel_rfl) (fun _ _ _ h => h) (Or.inl ⟨by rfl, fun w' hSw => by kernel_rfl⟩) hHeld1 ?_
                                    try simp only [Act.put, List.getElem_toArray, List.getElem_cons_succ, List.getElem_cons_zero, List.setIfInBounds_toArray, List.set_cons_zero, List.set_cons_succ]
                                    refine wpAnyH_done (by kernel_rfl) ?_ _
                                    refine NoPanic.normal ?_
                                    clear hHeld1
                                    go_wp2
                                    go_roundw
                                    case rel => exact ⟨⟨j + 1, by omega, HN2.out, by go_num⟩, HK1.out⟩
                                    case measure => simp [intOf]; omega
                                · have hjnI : ¬ (j : Int) < (m : Int) := by omega
                                  exfalso
                                  obtain ⟨x, hx, h⟩ := HC.out
                                  obtain ⟨j', hj', rfl⟩ := List.mem_iff_getElem.1 hx
                                  exact HA.out j' _ (by have := HE.out.2.2.2; omega) (by simp [hj']) h
                            · have hinI : ¬ (i : Int) < (n : Int) := by omega
                              clear hin hi
                              go_wp2
                              clear hinI
                              go_loopw [18] (fun q wr => (∃ j : Nat, j ≤ m ∧ q = .int .i64 (j : Int)) ∧ Kep (fun _ => False) w9 wr) (fun q _ => m - (intOf q).toNat)
                              case atStart => exact ⟨⟨0, Nat.zero_le _, rfl⟩, HK.out⟩
                              case round =>
                                clear HK
                                obtain ⟨⟨j, hj, rfl⟩, hk⟩ := hrel
                                have HK : Hid (Kep (fun _ => False) w9 wr) := hk
                                clear hk
                                by_cases hjn : j < m
                                · have hjnI : (j : Int) < (m : Int) := by omega
                                  obtain ⟨x, hx⟩ := ex_at HE.out.2.2.2 hjn
                                  obtain ⟨b1, f1, n1, q1, rfl, g1, k1⟩ := fr_at HW.out.1 hx
                                  obtain ⟨b2, f2, n2, q2, rfl, g2, k2⟩ := tt_at HW.out.2.1 hx
                                  have HB : Hid (Bs w9 (.slice f1 n1 q1) x.1 ∧ Bnd w9 (.slice f2 n2 q2) x.2 ∧ x.1.length ≤ 2097152 ∧ bdLen x.2 ≤ 2097152) := ⟨k1, k2, HZ.out x (List.mem_of_getElem? hx)⟩
                                  have HP : Hid (w9.cell? ⟨b1, j, none⟩ = some (.slice f1 n1 q1) ∧ w9.cell? ⟨b2, j, none⟩ = some (.slice f2 n2 q2)) := ⟨g1, g2⟩
                                  have HSE : Hid (seenF L x n = true ∧ seenT L x n = true) := by
                                    have := HE.out.2.2.1.mem (List.mem_of_getElem? hx)
                                    rw [HS.out.2]
                                    exact ⟨seenF_all this.1, seenT_all this.2⟩
                                  clear k1 k2 g1 g2 hx
                                  go_wp2
                                  go_loopw [19, 20, 21] (fun p q s wr => (∃ i : Nat, i ≤ n ∧ p = .bool (seenF L x i) ∧ q = .bool (seenT L x i) ∧ s = .int .i64 (i : Int)) ∧ Kep (fun _ => False) w9 wr) (fun _ _ s _ => n - (intOf s).toNat)
                                  case atStart => exact ⟨⟨0, Nat.zero_le _, rfl, rfl, rfl⟩, HK.out⟩
                                  case round =>
                                    clear HK
                                    obtain ⟨⟨i, hi, rfl, rfl, rfl⟩, hk⟩ := hrel
                                    have HK : Hid (Kep (fun _ => False) w9 wr) := hk
                                    clear hk
                                    by_cases hin : i < n
                                    · have hinI : (i : Int) < (n : Int) := by omega
                                      obtain ⟨r, hr⟩ := ex_at HS.out.2 hin
                                      obtain ⟨br, o, f3, n3, q3, f4, n4, q4, rfl, g3, g4, k3, k4⟩ := sts_at HE.out.1 hr
                                      have HG : Hid (Bs w9 (.slice f3 n3 q3) r.1 ∧ Bnd w9 (.slice f4 n4 q4) r.2 ∧ r.1.length ≤ 2097152 ∧ bdLen r.2 ≤ 2097152) := ⟨k3, k4, by have := (HSM.out.2 r (List.mem_of_getElem? hr)).1; omega, by have := (HSM.out.2 r (List.mem_of_getElem? hr)).2; omega⟩
                                      have HSS : Hid (∀ w', Kep (fun _ => False) w9 w' → w'.cell? ⟨b1, j, none⟩ = some (.slice f1 n1 q1) ∧ w'.cell? ⟨b2, j, none⟩ = some (.slice f2 n2 q2) ∧ w'.cell? ⟨br, o + i * 2, none⟩ = some (.slice f3 n3 q3) ∧ w'.cell? ⟨br, o + i * 2 + 1, none⟩ = some (.slice f4 n4 q4)) := fun w' k => ⟨kcell k HP.out.1, kcell k HP.out.2, kcell k g3, kcell k g4⟩
                                      have HFH : Hid (x.1 = r.1 → seenF L x (i + 1) = true) := fun e => seenF_hit hr e
                                      have HFM : Hid (x.1 ≠ r.1 → seenF L x (i + 1) = seenF L x i) := fun e => seenF_miss hr e
                                      have HTH : Hid (x.2 = r.2 → seenT L x (i + 1) = true) := fun e => seenT_hit hr e
                                      have HTM : Hid (x.2 ≠ r.2 → seenT L x (i + 1) = seenT L x i) := fun e => seenT_miss hr e
                                      clear g3 g4 k3 k4 hr
                                      by_cases e1 : x.1 = r.1
                                      · have HE1 : Hid (x.1 = r.1) := e1
                                        clear e1
                                        go_upto_region 54 with fail
                                        refine wp_region_noPanic ?_
                                        refine wp_region_held_drew (S := fun w' => w'.cell? ⟨b1, j, none⟩ = some (.slice f1 n1 q1) ∧ w'.cell? ⟨b2, j, none⟩ = some (.slice f2 n2 q2) ∧ w'.cell? ⟨br, o + i * 2, none⟩ = some (.slice f3 n3 q3) ∧ w'.cell? ⟨br, o + i * 2 + 1, none⟩ = some (.slice f4 n4 q4)) (by kernel_rfl) (HSS.out _ HK.out.drew) (fun hHeld => ?_)
                                        refine wpAnyH_take (i := 0) (v := .slice (some ⟨b1, 0, none⟩) m xc) rfl (by kernel_rfl) (by kernel_rfl) (by kernel_rfl) (fun _ _ _ h => h) (Or.inl ⟨by rfl, fun w' hSw => by kernel_rfl⟩) hHeld ?_
                                        try simp only [Act.put, List.getElem_toArray, List.getElem_cons_succ, List.getElem_cons_zero, List.setIfInBounds_toArray, List.set_cons_zero, List.set_cons_succ]
                                        refine wpAnyH_take (i := 1) (v := .int .i64 (j : Int)) rfl (by kernel_rfl) (by kernel_rfl) (by kernel_rfl) (fun _ _ _ h => h) (Or.inl ⟨by rfl, fun w' hSw => by kernel_rfl⟩) hHeld ?_
                                        try simp only [Act.put, List.getElem_toArray, List.getElem_cons_succ, List.getElem_cons_zero, List.setIfInBounds_toArray, List.set_cons_zero, List.set_cons_succ]
                                        refine wpAnyH_take (i := 2) (v := .pointer (some ⟨b1, j, none⟩)) rfl (by kernel_rfl) (by kernel_rfl) (by kernel_rfl) (fun _ _ _ h => h) (Or.inl ⟨by rfl, fun w' hSw => by go_simp⟩) hHeld ?_
                                        try simp only [Act.put, List.getElem_toArray, List.getElem_cons_succ, List.getElem_cons_zero, List.setIfInBounds_toArray, List.set_cons_zero, List.set_cons_succ]
                                        refine wpAnyH_take (i := 3) (v := .slice f1 n1 q1) rfl (by kernel_rfl) (by kernel_rfl) (by kernel_rfl) (fun _ _ _ h => h) (Or.inl ⟨by rfl, fun w' hSw => by (have h := hSw.1; go_simp)⟩) hHeld ?_
                                        try simp only [Act.put, List.getElem_toArray, List.getElem_cons_succ, List.getElem_cons_zero, List.setIfInBounds_toArray, List.set_cons_zero, List.set_cons_succ]
                                        refine wpAnyH_take (i := 4) (v := .slice (some ⟨br, o, none⟩) n c) rfl (by kernel_rfl) (by kernel_rfl) (by kernel_rfl) (fun _ _ _ h => h) (Or.inl ⟨by rfl, fun w' hSw => by kernel_rfl⟩) hHeld ?_
                                        try simp only [Act.put, List.getElem_toArray, List.getElem_cons_succ, List.getElem_cons_zero, List.setIfInBounds_toArray, List.set_cons_zero, List.set_cons_succ]
                                        refine wpAnyH_take (i := 5) (v := .int .i64 (i : Int)) rfl (by kernel_rfl) (by kernel_rfl) (by kernel_rfl) (fun _ _ _ h => h) (Or.inl ⟨by rfl, fun w' hSw => by kernel_rfl⟩) hHeld ?_
                                        try simp only [Act.put, List.getElem_toArray, List.getElem_cons_succ, List.getElem_cons_zero, List.setIfInBounds_toArray, List.set_cons_zero, List.set_cons_succ]
                                        refine wpAnyH_take (i := 6) (v := .pointer (some ⟨br, o + i * 2, none⟩)) rfl (by kernel_rfl) (by kernel_rfl) (by kernel_rfl) (fun _ _ _ h => h) (Or.inl ⟨by rfl, fun w' hSw => by go_simp⟩) hHeld ?_
                                        try simp only [Act.put, List.getElem_toArray, List.getElem_cons_succ, List.getElem_cons_zero, List.setIfInBounds_toArray, List.set_cons_zero, List.set_cons_succ]
                                        refine wpAnyH_take (i := 7) (v := .pointer (some ⟨br, o + i * 2, none⟩)) rfl (by kernel_rfl) (by kernel_rfl) (by kernel_rfl) (fun _ _ _ h => h) (Or.inl ⟨by rfl, fun w' hSw => by go_simp⟩) hHeld ?_
                                        try simp only [Act.put, List.getElem_toArray, List.getElem_cons_succ, List.getElem_cons_zero, List.setIfInBounds_toArray, List.set_cons_zero, List.set_cons_succ]
                                        refine wpAnyH_take (i := 8) (v := .slice f3 n3 q3) rfl (by kernel_rfl) (by kernel_rfl) (by kernel_rfl) (fun _ _ _ h => h) (Or.inl ⟨by rfl, fun w' hSw => by (have h := hSw.2.2.1; go_simp)⟩) hHeld ?_
                                        try simp only [Act.put, List.getElem_toArray, List.getElem_cons_succ, List.getElem_cons_zero, List.setIfInBounds_toArray, List.set_cons_zero, List.set_cons_succ]
                                        refine wpAnyH_ready (rs := [9]) (by kernel_rfl) (by simp) ?_
                                        refine AllReadyH.cons rfl (fun K hK => ?_) AllReadyH.nil
                                        go_simp
                                        refine Calls.mono (same_eq (w := wr.drew) (HB.out.1.keepN (HK.out.drew)) (HG.out.1.keepN (HK.out.drew)) HB.out.2.2.1 HG.out.2.2.1 HE1.out) ?_
                                        rintro e wq1 ⟨rfl, kk⟩
                                        have HK1 : Hid (Kep (fun _ => False) w9 wq1) := (HK.out.drew).trans kk (fun _ _ h => h)
                                        refine hK.out _ _ (HSS.out _ HK1.out) (fun hHeld1 => ?_)
                                        clear hK kk hHeld
                                        try simp only [Act.put, List.getElem_toArray, List.getElem_cons_succ, List.getElem_cons_zero, List.setIfInBounds_toArray, List.set_cons_zero, List.set_cons_succ]
                                        refine wpAnyH_done (by kernel_rfl) ?_ _
                                        refine NoPanic.normal ?_
                                        clear hHeld1
                                        by_cases e2 : x.2 = r.2
                                        · have HE2 : Hid (x.2 = r.2) := e2
                                          clear e2
                                          go_upto_region 56 with fail
                                          refine wp_region_noPanic ?_
                                          refine wp_region_held_drew (S := fun w' => w'.cell? ⟨b1, j, none⟩ = some (.slice f1 n1 q1) ∧ w'.cell? ⟨b2, j, none⟩ = some (.slice f2 n2 q2) ∧ w'.cell? ⟨br, o + i * 2, none⟩ = some (.slice f3 n3 q3) ∧ w'.cell? ⟨br, o + i * 2 + 1, none⟩ = some (.slice f4 n4 q4)) (by kernel_rfl) (HSS.out _ HK1.out.drew) (fun hHeld => ?_)
                                          refine wpAnyH_take (i := 0) (v := .slice (some ⟨b2, 0, none⟩) m uc) rfl (by kernel_rfl) (by kernel_rfl) (by kernel_rfl) (fun _ _ _ h => h) (Or.inl ⟨by rfl, fun w' hSw => by kernel_rfl⟩) hHeld ?_
                                          try simp only [Act.put, List.getElem_toArray, List.getElem_cons_succ, List.getElem_cons_zero, List.setIfInBounds_toArray, List.set_cons_zero, List.set_cons_succ]
                                          refine wpAnyH_take (i := 1) (v := .int .i64 (j : Int)) rfl (by kernel_rfl) (by kernel_rfl) (by kernel_rfl) (fun _ _ _ h => h) (Or.inl ⟨by rfl, fun w' hSw => by kernel_rfl⟩) hHeld ?_
                                          try simp only [Act.put, List.getElem_toArray, List.getElem_cons_succ, List.getElem_cons_zero, List.setIfInBounds_toArray, List.set_cons_zero, List.set_cons_succ]
                                          refine wpAnyH_take (i := 2) (v := .pointer (some ⟨b2, j, none⟩)) rfl (by kernel_rfl) (by kernel_rfl) (by kernel_rfl) (fun _ _ _ h => h) (Or.inl ⟨by rfl, fun w' hSw => by go_simp⟩) hHeld ?_
                                          try simp only [Act.put, List.getElem_toArray, List.getElem_cons_succ, List.getElem_cons_zero, List.setIfInBounds_toArray, List.set_cons_zero, List.set_cons_succ]
                                          refine wpAnyH_take (i := 3) (v := .slice f2 n2 q2) rfl (by kernel_rfl) (by kernel_rfl) (by kernel_rfl) (fun _ _ _ h => h) (Or.inl ⟨by rfl, fun w' hSw => by (have h := hSw.2.1; go_simp)⟩) hHeld ?_
                                          try simp only [Act.put, List.getElem_toArray, List.getElem_cons_succ, List.getElem_cons_zero, List.setIfInBounds_toArray, List.set_cons_zero, List.set_cons_succ]
                                          refine wpAnyH_take (i := 4) (v := .slice (some ⟨br, o, none⟩) n c) rfl (by kernel_rfl) (by kernel_rfl) (by kernel_rfl) (fun _ _ _ h => h) (Or.inl ⟨by rfl, fun w' hSw => by kernel_rfl⟩) hHeld ?_
                                          try simp only [Act.put, List.getElem_toArray, List.getElem_cons_succ, List.getElem_cons_zero, List.setIfInBounds_toArray, List.set_cons_zero, List.set_cons_succ]
                                          refine wpAnyH_take (i := 5) (v := .int .i64 (i : Int)) rfl (by kernel_rfl) (by kernel_rfl) (by kernel_rfl) (fun _ _ _ h => h) (Or.inl ⟨by rfl, fun w' hSw => by kernel_rfl⟩) hHeld ?_
                                          try simp only [Act.put, List.getElem_toArray, List.getElem_cons_succ, List.getElem_cons_zero, List.setIfInBounds_toArray, List.set_cons_zero, List.set_cons_succ]
                                          refine wpAnyH_take (i := 6) (v := .pointer (some ⟨br, o + i * 2, none⟩)) rfl (by kernel_rfl) (by kernel_rfl) (by kernel_rfl) (fun _ _ _ h => h) (Or.inl ⟨by rfl, fun w' hSw => by go_simp⟩) hHeld ?_
                                          try simp only [Act.put, List.getElem_toArray, List.getElem_cons_succ, List.getElem_cons_zero, List.setIfInBounds_toArray, List.set_cons_zero, List.set_cons_succ]
                                          refine wpAnyH_take (i := 7) (v := .pointer (some ⟨br, o + i * 2 + 1, none⟩)) rfl (by kernel_rfl) (by kernel_rfl) (by kernel_rfl) (fun _ _ _ h => h) (Or.inl ⟨by rfl, fun w' hSw => by go_simp⟩) hHeld ?_
                                          try simp only [Act.put, List.getElem_toArray, List.getElem_cons_succ, List.getElem_cons_zero, List.setIfInBounds_toArray, List.set_cons_zero, List.set_cons_succ]
                                          refine wpAnyH_take (i := 8) (v := .slice f4 n4 q4) rfl (by kernel_rfl) (by kernel_rfl) (by kernel_rfl) (fun _ _ _ h => h) (Or.inl ⟨by rfl, fun w' hSw => by (have h := hSw.2.2.2; go_simp)⟩) hHeld ?_
                                          try simp only [Act.put, List.getElem_toArray, List.getElem_cons_succ, List.getElem_cons_zero, List.setIfInBounds_toArray, List.set_cons_zero, List.set_cons_succ]
                                          refine wpAnyH_ready (rs := [9]) (by kernel_rfl) (by simp) ?_
                                          refine AllReadyH.cons rfl (fun K hK => ?_) AllReadyH.nil
                                          go_simp
                                          refine Calls.mono (bound_eq (w := wq1.drew) (HB.out.2.1.keepN (HK1.out.drew)) (HG.out.2.1.keepN (HK1.out.drew)) HB.out.2.2.2 HG.out.2.2.2 HE2.out) ?_
                                          rintro e wq2 ⟨rfl, kk⟩
                                          have HK11 : Hid (Kep (fun _ => False) w9 wq2) := (HK1.out.drew).trans kk (fun _ _ h => h)
                                          refine hK.out _ _ (HSS.out _ HK11.out) (fun hHeld1 => ?_)
                                          clear hK kk hHeld
                                          try simp only [Act.put, List.getElem_toArray, List.getElem_cons_succ, List.getElem_cons_zero, List.setIfInBounds_toArray, List.set_cons_zero, List.set_cons_succ]
                                          refine wpAnyH_done (by kernel_rfl) ?_ _
                                          refine NoPanic.normal ?_
                                          clear hHeld1
                                          go_wp2
                                          go_roundw
                                          case rel => exact ⟨⟨i + 1, by omega, by rw [HFH.out HE1.out], by rw [HTH.out HE2.out], by go_num⟩, HK11.out⟩
                                          case measure => simp [intOf]; omega
                                        · have HE2 : Hid (x.2 ≠ r.2) := e2
                                          clear e2
                                          go_upto_region 56 with fail
                                          refine wp_region_noPanic ?_
                                          refine wp_region_held_drew (S := fun w' => w'.cell? ⟨b1, j, none⟩ = some (.slice f1 n1 q1) ∧ w'.cell? ⟨b2, j, none⟩ = some (.slice f2 n2 q2) ∧ w'.cell? ⟨br, o + i * 2, none⟩ = some (.slice f3 n3 q3) ∧ w'.cell? ⟨br, o + i * 2 + 1, none⟩ = some (.slice f4 n4 q4)) (by kernel_rfl) (HSS.out _ HK1.out.drew) (fun hHeld => ?_)
                                          refine wpAnyH_take (i := 0) (v := .slice (some ⟨b2, 0, none⟩) m uc) rfl (by kernel_rfl) (by kernel_rfl) (by kernel_rfl) (fun _ _ _ h => h) (Or.inl ⟨by rfl, fun w' hSw => by kernel_rfl⟩) hHeld ?_
                                          try simp only [Act.put, List.getElem_toArray, List.getElem_cons_succ, List.getElem_cons_zero, List.setIfInBounds_toArray, List.set_cons_zero, List.set_cons_succ]
                                          refine wpAnyH_take (i := 1) (v := .int .i64 (j : Int)) rfl (by kernel_rfl) (by kernel_rfl) (by kernel_rfl) (fun _ _ _ h => h) (Or.inl ⟨by rfl, fun w' hSw => by kernel_rfl⟩) hHeld ?_
                                          try simp only [Act.put, List.getElem_toArray, List.getElem_cons_succ, List.getElem_cons_zero, List.setIfInBounds_toArray, List.set_cons_zero, List.set_cons_succ]
                                          refine wpAnyH_take (i := 2) (v := .pointer (some ⟨b2, j, none⟩)) rfl (by kernel_rfl) (by kernel_rfl) (by kernel_rfl) (fun _ _ _ h => h) (Or.inl ⟨by rfl, fun w' hSw => by go_simp⟩) hHeld ?_
                                          try simp only [Act.put, List.getElem_toArray, List.getElem_cons_succ, List.getElem_cons_zero, List.setIfInBounds_toArray, List.set_cons_zero, List.set_cons_succ]
                                          refine wpAnyH_take (i := 3) (v := .slice f2 n2 q2) rfl (by kernel_rfl) (by kernel_rfl) (by kernel_rfl) (fun _ _ _ h => h) (Or.inl ⟨by rfl, fun w' hSw => by (have h := hSw.2.1; go_simp)⟩) hHeld ?_
                                          try simp only [Act.put, List.getElem_toArray, List.getElem_cons_succ, List.getElem_cons_zero, List.setIfInBounds_toArray, List.set_cons_zero, List.set_cons_succ]
                                          refine wpAnyH_take (i := 4) (v := .slice (some ⟨br, o, none⟩) n c) rfl (by kernel_rfl) (by kernel_rfl) (by kernel_rfl) (fun _ _ _ h => h) (Or.inl ⟨by rfl, fun w' hSw => by kernel_rfl⟩) hHeld ?_
                                          try simp only [Act.put, List.getElem_toArray, List.getElem_cons_succ, List.getElem_cons_zero, List.setIfInBounds_toArray, List.set_cons_zero, List.set_cons_succ]
                                          refine wpAnyH_take (i := 5) (v := .int .i64 (i : Int)) rfl (by kernel_rfl) (by kernel_rfl) (by kernel_rfl) (fun _ _ _ h => h) (Or.inl ⟨by rfl, fun w' hSw => by kernel_rfl⟩) hHeld ?_
                                          try simp only [Act.put, List.getElem_toArray, List.getElem_cons_succ, List.getElem_cons_zero, List.setIfInBounds_toArray, List.set_cons_zero, List.set_cons_succ]
                                          refine wpAnyH_take (i := 6) (v := .pointer (some ⟨br, o + i * 2, none⟩)) rfl (by kernel_rfl) (by kernel_rfl) (by kernel_rfl) (fun _ _ _ h => h) (Or.inl ⟨by rfl, fun w' hSw => by go_simp⟩) hHeld ?_
                                          try simp only [Act.put, List.getElem_toArray, List.getElem_cons_succ, List.getElem_cons_zero, List.setIfInBounds_toArray, List.set_cons_zero, List.set_cons_succ]
                                          refine wpAnyH_take (i := 7) (v := .pointer (some ⟨br, o + i * 2 + 1, none⟩)) rfl (by kernel_rfl) (by kernel_rfl) (by kernel_rfl) (fun _ _ _ h => h) (Or.inl ⟨by rfl, fun w' hSw => by go_simp⟩) hHeld ?_
                                          try simp only [Act.put, List.getElem_toArray, List.getElem_cons_succ, List.getElem_cons_zero, List.setIfInBounds_toArray, List.set_cons_zero, List.set_cons_succ]
                                          refine wpAnyH_take (i := 8) (v := .slice f4 n4 q4) rfl (by kernel_rfl) (by kernel_rfl) (by kernel_rfl) (fun _ _ _ h => h) (Or.inl ⟨by rfl, fun w' hSw => by (have h := hSw.2.2.2; go_simp)⟩) hHeld ?_
                                          try simp only [Act.put, List.getElem_toArray, List.getElem_cons_succ, List.getElem_cons_zero, List.setIfInBounds_toArray, List.set_cons_zero, List.set_cons_succ]
                                          refine wpAnyH_ready (rs := [9]) (by kernel_rfl) (by simp) ?_
                                          refine AllReadyH.cons rfl (fun K hK => ?_) AllReadyH.nil
                                          go_simp
                                          refine Calls.mono (bound_no (w := wq1.drew) (HB.out.2.1.keepN (HK1.out.drew)) (HG.out.2.1.keepN (HK1.out.drew)) HB.out.2.2.2 HG.out.2.2.2 HE2.out) ?_
                                          rintro e wq2 ⟨rfl, kk⟩
                                          have HK11 : Hid (Kep (fun _ => False) w9 wq2) := (HK1.out.drew).trans kk (fun _ _ h => h)
                                          refine hK.out _ _ (HSS.out _ HK11.out) (fun hHeld1 => ?_)
                                          clear hK kk hHeld
                                          try simp only [Act.put, List.getElem_toArray, List.getElem_cons_succ, List.getElem_cons_zero, List.setIfInBounds_toArray, List.set_cons_zero, List.set_cons_succ]
                                          refine wpAnyH_done (by kernel_rfl) ?_ _
                                          refine NoPanic.normal ?_
                                          clear hHeld1
                                          go_wp2
                                          go_roundw
                                          case rel => exact ⟨⟨i + 1, by omega, by rw [HFH.out HE1.out], by rw [HTM.out HE2.out], by go_num⟩, HK11.out⟩
                                          case measure => simp [intOf]; omega
                                      · have HE1 : Hid (x.1 ≠ r.1) := e1
                                        clear e1
                                        go_upto_region 54 with fail
                                        refine wp_region_noPanic ?_
                                        refine wp_region_held_drew (S := fun w' => w'.cell? ⟨b1, j, none⟩ = some (.slice f1 n1 q1) ∧ w'.cell? ⟨b2, j, none⟩ = some (.slice f2 n2 q2) ∧ w'.cell? ⟨br, o + i * 2, none⟩ = some (.slice f3 n3 q3) ∧ w'.cell? ⟨br, o + i * 2 + 1, none⟩ = some (.slice f4 n4 q4)) (by kernel_rfl) (HSS.out _ HK.out.drew) (fun hHeld => ?_)
                                        refine wpAnyH_take (i := 0) (v := .slice (some ⟨b1, 0, none⟩) m xc) rfl (by kernel_rfl) (by kernel_rfl) (by kernel_rfl) (fun _ _ _ h => h) (Or.inl ⟨by rfl, fun w' hSw => by kernel_rfl⟩) hHeld ?_
                                        try simp only [Act.put, List.getElem_toArray, List.getElem_cons_succ, List.getElem_cons_zero, List.setIfInBounds_toArray, List.set_cons_zero, List.set_cons_succ]
                                        refine wpAnyH_take (i := 1) (v := .int .i64 (j : Int)) rfl (by kernel_rfl) (by kernel_rfl) (by kernel_rfl) (fun _ _ _ h => h) (Or.inl ⟨by rfl, fun w' hSw => by kernel_rfl⟩) hHeld ?_
                                        try simp only [Act.put, List.getElem_toArray, List.getElem_cons_succ, List.getElem_cons_zero, List.setIfInBounds_toArray, List.set_cons_zero, List.set_cons_succ]
                                        refine wpAnyH_take (i := 2) (v := .pointer (some ⟨b1, j, none⟩)) rfl (by kernel_rfl) (by kernel_rfl) (by kernel_rfl) (fun _ _ _ h => h) (Or.inl ⟨by rfl, fun w' hSw => by go_simp⟩) hHeld ?_
                                        try simp only [Act.put, List.getElem_toArray, List.getElem_cons_succ, List.getElem_cons_zero, List.setIfInBounds_toArray, List.set_cons_zero, List.set_cons_succ]
                                        refine wpAnyH_take (i := 3) (v := .slice f1 n1 q1) rfl (by kernel_rfl) (by kernel_rfl) (by kernel_rfl) (fun _ _ _ h => h) (Or.inl ⟨by rfl, fun w' hSw => by (have h := hSw.1; go_simp)⟩) hHeld ?_
                                        try simp only [Act.put, List.getElem_toArray, List.getElem_cons_succ, List.getElem_cons_zero, List.setIfInBounds_toArray, List.set_cons_zero, List.set_cons_succ]
                                        refine wpAnyH_take (i := 4) (v := .slice (some ⟨br, o, none⟩) n c) rfl (by kernel_rfl) (by kernel_rfl) (by kernel_rfl) (fun _ _ _ h => h) (Or.inl ⟨by rfl, fun w' hSw => by kernel_rfl⟩) hHeld ?_
                                        try simp only [Act.put, List.getElem_toArray, List.getElem_cons_succ, List.getElem_cons_zero, List.setIfInBounds_toArray, List.set_cons_zero, List.set_cons_succ]
                                        refine wpAnyH_take (i := 5) (v := .int .i64 (i : Int)) rfl (by kernel_rfl) (by kernel_rfl) (by kernel_rfl) (fun _ _ _ h => h) (Or.inl ⟨by rfl, fun w' hSw => by kernel_rfl⟩) hHeld ?_
                                        try simp only [Act.put, List.getElem_toArray, List.getElem_cons_succ, List.getElem_cons_zero, List.setIfInBounds_toArray, List.set_cons_zero, List.set_cons_succ]
                                        refine wpAnyH_take (i := 6) (v := .pointer (some ⟨br, o + i * 2, none⟩)) rfl (by kernel_rfl) (by kernel_rfl) (by kernel_rfl) (fun _ _ _ h => h) (Or.inl ⟨by rfl, fun w' hSw => by go_simp⟩) hHeld ?_
                                        try simp only [Act.put, List.getElem_toArray, List.getElem_cons_succ, List.getElem_cons_zero, List.setIfInBounds_toArray, List.set_cons_zero, List.set_cons_succ]
                                        refine wpAnyH_take (i := 7) (v := .pointer (some ⟨br, o + i * 2, none⟩)) rfl (by kernel_rfl) (by kernel_rfl) (by kernel_rfl) (fun _ _ _ h => h) (Or.inl ⟨by rfl, fun w' hSw => by go_simp⟩) hHeld ?_
                                        try simp only [Act.put, List.getElem_toArray, List.getElem_cons_succ, List.getElem_cons_zero, List.setIfInBounds_toArray, List.set_cons_zero, List.set_cons_succ]
                                        refine wpAnyH_take (i := 8) (v := .slice f3 n3 q3) rfl (by kernel_rfl) (by kernel_rfl) (by kernel_rfl) (fun _ _ _ h => h) (Or.inl ⟨by rfl, fun w' hSw => by (have h := hSw.2.2.1; go_simp)⟩) hHeld ?_
                                        try simp only [Act.put, List.getElem_toArray, List.getElem_cons_succ, List.getElem_cons_zero, List.setIfInBounds_toArray, List.set_cons_zero, List.set_cons_succ]
                                        refine wpAnyH_ready (rs := [9]) (by kernel_rfl) (by simp) ?_
                                        refine AllReadyH.cons rfl (fun K hK => ?_) AllReadyH.nil
                                        go_simp
                                        refine Calls.mono (same_no (w := wr.drew) (HB.out.1.keepN (HK.out.drew)) (HG.out.1.keepN (HK.out.drew)) HB.out.2.2.1 HG.out.2.2.1 HE1.out) ?_
                                        rintro e wq1 ⟨rfl, kk⟩
                                        have HK1 : Hid (Kep (fun _ => False) w9 wq1) := (HK.out.drew).trans kk (fun _ _ h => h)
                                        refine hK.out _ _ (HSS.out _ HK1.out) (fun hHeld1 => ?_)
                                        clear hK kk hHeld
                                        try simp only [Act.put, List.getElem_toArray, List.getElem_cons_succ, List.getElem_cons_zero, List.setIfInBounds_toArray, List.set_cons_zero, List.set_cons_succ]
                                        refine wpAnyH_done (by kernel_rfl) ?_ _
                                        refine NoPanic.normal ?_
                                        clear hHeld1
                                        by_cases e2 : x.2 = r.2
                                        · have HE2 : Hid (x.2 = r.2) := e2
                                          clear e2
                                          go_upto_region 56 with fail
                                          refine wp_region_noPanic ?_
                                          refine wp_region_held_drew (S := fun w' => w'.cell? ⟨b1, j, none⟩ = some (.slice f1 n1 q1) ∧ w'.cell? ⟨b2, j, none⟩ = some (.slice f2 n2 q2) ∧ w'.cell? ⟨br, o + i * 2, none⟩ = some (.slice f3 n3 q3) ∧ w'.cell? ⟨br, o + i * 2 + 1, none⟩ = some (.slice f4 n4 q4)) (by kernel_rfl) (HSS.out _ HK1.out.drew) (fun hHeld => ?_)
                                          refine wpAnyH_take (i := 0) (v := .slice (some ⟨b2, 0, none⟩) m uc) rfl (by kernel_rfl) (by kernel_rfl) (by kernel_rfl) (fun _ _ _ h => h) (Or.inl ⟨by rfl, fun w' hSw => by kernel_rfl⟩) hHeld ?_
                                          try simp only [Act.put, List.getElem_toArray, List.getElem_cons_succ, List.getElem_cons_zero, List.setIfInBounds_toArray, List.set_cons_zero, List.set_cons_succ]
                                          refine wpAnyH_take (i := 1) (v := .int .i64 (j : Int)) rfl (by kernel_rfl) (by kernel_rfl) (by kernel_rfl) (fun _ _ _ h => h) (Or.inl ⟨by rfl, fun w' hSw => by kernel_rfl⟩) hHeld ?_
                                          try simp only [Act.put, List.getElem_toArray, List.getElem_cons_succ, List.getElem_cons_zero, List.setIfInBounds_toArray, List.set_cons_zero, List.set_cons_succ]
                                          refine wpAnyH_take (i := 2) (v := .pointer (some ⟨b2, j, none⟩)) rfl (by kernel_rfl) (by kernel_rfl) (by kernel_rfl) (fun _ _ _ h => h) (Or.inl ⟨by rfl, fun w' hSw => by go_simp⟩) hHeld ?_
                                          try simp only [Act.put, List.getElem_toArray, List.getElem_cons_succ, List.getElem_cons_zero, List.setIfInBounds_toArray, List.set_cons_zero, List.set_cons_succ]
                                          refine wpAnyH_take (i := 3) (v := .slice f2 n2 q2) rfl (by kernel_rfl) (by kernel_rfl) (by kernel_rfl) (fun _ _ _ h => h) (Or.inl ⟨by rfl, fun w' hSw => by (have h := hSw.2.1; go_simp)⟩) hHeld ?_
                                          try simp only [Act.put, List.getElem_toArray, List.getElem_cons_succ, List.getElem_cons_zero, List.setIfInBounds_toArray, List.set_cons_zero, List.set_cons_succ]
                                          refine wpAnyH_take (i := 4) (v := .slice (some ⟨br, o, none⟩) n c) rfl (by kernel_rfl) (by kernel_rfl) (by kernel_rfl) (fun _ _ _ h => h) (Or.inl ⟨by rfl, fun w' hSw => by kernel_rfl⟩) hHeld ?_
                                          try simp only [Act.put, List.getElem_toArray, List.getElem_cons_succ, List.getElem_cons_zero, List.setIfInBounds_toArray, List.set_cons_zero, List.set_cons_succ]
                                          refine wpAnyH_take (i := 5) (v := .int .i64 (i : Int)) rfl (by kernel_rfl) (by kernel_rfl) (by kernel_rfl) (fun _ _ _ h => h) (Or.inl ⟨by rfl, fun w' hSw => by kernel_rfl⟩) hHeld ?_
                                          try simp only [Act.put, List.getElem_toArray, List.getElem_cons_succ, List.getElem_cons_zero, List.setIfInBounds_toArray, List.set_cons_zero, List.set_cons_succ]
                                          refine wpAnyH_take (i := 6) (v := .pointer (some ⟨br, o + i * 2, none⟩)) rfl (by kernel_rfl) (by kernel_rfl) (by kernel_rfl) (fun _ _ _ h => h) (Or.inl ⟨by rfl, fun w' hSw => by go_simp⟩) hHeld ?_
                                          try simp only [Act.put, List.getElem_toArray, List.getElem_cons_succ, List.getElem_cons_zero, List.setIfInBounds_toArray, List.set_cons_zero, List.set_cons_succ]
                                          refine wpAnyH_take (i := 7) (v := .pointer (some ⟨br, o + i * 2 + 1, none⟩)) rfl (by kernel_rfl) (by kernel_rfl) (by kernel_rfl) (fun _ _ _ h => h) (Or.inl ⟨by rfl, fun w' hSw => by go_simp⟩) hHeld ?_
                                          try simp only [Act.put, List.getElem_toArray, List.getElem_cons_succ, List.getElem_cons_zero, List.setIfInBounds_toArray, List.set_cons_zero, List.set_cons_succ]
                                          refine wpAnyH_take (i := 8) (v := .slice f4 n4 q4) rfl (by kernel_rfl) (by kernel_rfl) (by kernel_rfl) (fun _ _ _ h => h) (Or.inl ⟨by rfl, fun w' hSw => by (have h := hSw.2.2.2; go_simp)⟩) hHeld ?_
                                          try simp only [Act.put, List.getElem_toArray, List.getElem_cons_succ, List.getElem_cons_zero, List.setIfInBounds_toArray, List.set_cons_zero, List.set_cons_succ]
                                          refine wpAnyH_ready (rs := [9]) (by kernel_rfl) (by simp) ?_
                                          refine AllReadyH.cons rfl (fun K hK => ?_) AllReadyH.nil
                                          go_simp
                                          refine Calls.mono (bound_eq (w := wq1.drew) (HB.out.2.1.keepN (HK1.out.drew)) (HG.out.2.1.keepN (HK1.out.drew)) HB.out.2.2.2 HG.out.2.2.2 HE2.out) ?_
                                          rintro e wq2 ⟨rfl, kk⟩
                                          have HK11 : Hid (Kep (fun _ => False) w9 wq2) := (HK1.out.drew).trans kk (fun _ _ h => h)
                                          refine hK.out _ _ (HSS.out _ HK11.out) (fun hHeld1 => ?_)
                                          clear hK kk hHeld
                                          try simp only [Act.put, List.getElem_toArray, List.getElem_cons_succ, List.getElem_cons_zero, List.setIfInBounds_toArray, List.set_cons_zero, List.set_cons_succ]
                                          refine wpAnyH_done (by kernel_rfl) ?_ _
                                          refine NoPanic.normal ?_
                                          clear hHeld1
                                          go_wp2
                                          go_roundw
                                          case rel => exact ⟨⟨i + 1, by omega, by rw [HFM.out HE1.out], by rw [HTH.out HE2.out], by go_num⟩, HK11.out⟩
                                          case measure => simp [intOf]; omega
                                        · have HE2 : Hid (x.2 ≠ r.2) := e2
                                          clear e2
                                          go_upto_region 56 with fail
                                          refine wp_region_noPanic ?_
                                          refine wp_region_held_drew (S := fun w' => w'.cell? ⟨b1, j, none⟩ = some (.slice f1 n1 q1) ∧ w'.cell? ⟨b2, j, none⟩ = some (.slice f2 n2 q2) ∧ w'.cell? ⟨br, o + i * 2, none⟩ = some (.slice f3 n3 q3) ∧ w'.cell? ⟨br, o + i * 2 + 1, none⟩ = some (.slice f4 n4 q4)) (by kernel_rfl) (HSS.out _ HK1.out.drew) (fun hHeld => ?_)
                                          refine wpAnyH_take (i := 0) (v := .slice (some ⟨b2, 0, none⟩) m uc) rfl (by kernel_rfl) (by kernel_rfl) (by kernel_rfl) (fun _ _ _ h => h) (Or.inl ⟨by rfl, fun w' hSw => by kernel_rfl⟩) hHeld ?_
                                          try simp only [Act.put, List.getElem_toArray, List.getElem_cons_succ, List.getElem_cons_zero, List.setIfInBounds_toArray, List.set_cons_zero, List.set_cons_succ]
                                          refine wpAnyH_take (i := 1) (v := .int .i64 (j : Int)) rfl (by kernel_rfl) (by kernel_rfl) (by kernel_rfl) (fun _ _ _ h => h) (Or.inl ⟨by rfl, fun w' hSw => by kernel_rfl⟩) hHeld ?_
                                          try simp only [Act.put, List.getElem_toArray, List.getElem_cons_succ, List.getElem_cons_zero, List.setIfInBounds_toArray, List.set_cons_zero, List.set_cons_succ]
                                          refine wpAnyH_take (i := 2) (v := .pointer (some ⟨b2, j, none⟩)) rfl (by kernel_rfl) (by kernel_rfl) (by kernel_rfl) (fun _ _ _ h => h) (Or.inl ⟨by rfl, fun w' hSw => by go_simp⟩) hHeld ?_
                                          try simp only [Act.put, List.getElem_toArray, List.getElem_cons_succ, List.getElem_cons_zero, List.setIfInBounds_toArray, List.set_cons_zero, List.set_cons_succ]
                                          refine wpAnyH_take (i := 3) (v := .slice f2 n2 q2) rfl (by kernel_rfl) (by kernel_rfl) (by kernel_rfl) (fun _ _ _ h => h) (Or.inl ⟨by rfl, fun w' hSw => by (have h := hSw.2.1; go_simp)⟩) hHeld ?_
                                          try simp only [Act.put, List.getElem_toArray, List.getElem_cons_succ, List.getElem_cons_zero, List.setIfInBounds_toArray, List.set_cons_zero, List.set_cons_succ]
                                          refine wpAnyH_take (i := 4) (v := .slice (some ⟨br, o, none⟩) n c) rfl (by kernel_rfl) (by kernel_rfl) (by kernel_rfl) (fun _ _ _ h => h) (Or.inl ⟨by rfl, fun w' hSw => by kernel_rfl⟩) hHeld ?_
                                          try simp only [Act.put, List.getElem_toArray, List.getElem_cons_succ, List.getElem_cons_zero, List.setIfInBounds_toArray, List.set_cons_zero, List.set_cons_succ]
                                          refine wpAnyH_take (i := 5) (v := .int .i64 (i : Int)) rfl (by kernel_rfl) (by kernel_rfl) (by kernel_rfl) (fun _ _ _ h => h) (Or.inl ⟨by rfl, fun w' hSw => by kernel_rfl⟩) hHeld ?_
                                          try simp only [Act.put, List.getElem_toArray, List.getElem_cons_succ, List.getElem_cons_zero, List.setIfInBounds_toArray, List.set_cons_zero, List.set_cons_succ]
                                          refine wpAnyH_take (i := 6) (v := .pointer (some ⟨br, o + i * 2, none⟩)) rfl (by kernel_rfl) (by kernel_rfl) (by kernel_rfl) (fun _ _ _ h => h) (Or.inl ⟨by rfl, fun w' hSw => by go_simp⟩) hHeld ?_
                                          try simp only [Act.put, List.getElem_toArray, List.getElem_cons_succ, List.getElem_cons_zero, List.setIfInBounds_toArray, List.set_cons_zero, List.set_cons_succ]
                                          refine wpAnyH_take (i := 7) (v := .pointer (some ⟨br, o + i * 2 + 1, none⟩)) rfl (by kernel_rfl) (by kernel_rfl) (by kernel_rfl) (fun _ _ _ h => h) (Or.inl ⟨by rfl, fun w' hSw => by go_simp⟩) hHeld ?_
                                          try simp only [Act.put, List.getElem_toArray, List.getElem_cons_succ, List.getElem_cons_zero, List.setIfInBounds_toArray, List.set_cons_zero, List.set_cons_succ]
                                          refine wpAnyH_take (i := 8) (v := .slice f4 n4 q4) rfl (by kernel_rfl) (by kernel_rfl) (by kernel_rfl) (fun _ _ _ h => h) (Or.inl ⟨by rfl, fun w' hSw => by (have h := hSw.2.2.2; go_simp)⟩) hHeld ?_
                                          try simp only [Act.put, List.getElem_toArray, List.getElem_cons_succ, List.getElem_cons_zero, List.setIfInBounds_toArray, List.set_cons_zero, List.set_cons_succ]
                                          refine wpAnyH_ready (rs := [9]) (by kernel_rfl) (by simp) ?_
                                          refine AllReadyH.cons rfl (fun K hK => ?_) AllReadyH.nil
                                          go_simp
                                          refine Calls.mono (bound_no (w := wq1.drew) (HB.out.2.1.keepN (HK1.out.drew)) (HG.out.2.1.keepN (HK1.out.drew)) HB.out.2.2.2 HG.out.2.2.2 HE2.out) ?_
                                          rintro e wq2 ⟨rfl, kk⟩
                                          have HK11 : Hid (Kep (fun _ => False) w9 wq2) := (HK1.out.drew).trans kk (fun _ _ h => h)
                                          refine hK.out _ _ (HSS.out _ HK11.out) (fun hHeld1 => ?_)
                                          clear hK kk hHeld
                                          try simp only [Act.put, List.getElem_toArray, List.getElem_cons_succ, List.getElem_cons_zero, List.setIfInBounds_toArray, List.set_cons_zero, List.set_cons_succ]
                                          refine wpAnyH_done (by kernel_rfl) ?_ _
                                          refine NoPanic.normal ?_
                                          clear hHeld1
                                          go_wp2
                                          go_roundw
                                          case rel => exact ⟨⟨i + 1, by omega, by rw [HFM.out HE1.out], by rw [HTM.out HE2.out], by go_num⟩, HK11.out⟩
                                          case measure => simp [intOf]; omega
                                    · have hinI : ¬ (i : Int) < (n : Int) := by omega
                                      have hie : i = n := by omega
                                      rw [hie, HSE.out.1, HSE.out.2]
                                      rw [hie] at hinI
                                      clear hie hin hi
                                      go_wp2
                                      go_roundw
                                      case rel => exact ⟨⟨j + 1, by omega, by go_num⟩, HK.out⟩
                                      case measure => simp [intOf]; omega
                                · have hjnI : ¬ (j : Int) < (m : Int) := by omega
                                  go_wp2
                                  go_ret
                                  exact ⟨rfl, HE.out.2.1.trans HK.out (fun _ _ h => h)⟩
                | succ i =>
                  have HI : Hid (ClInv w6 yb (L.drop (i + 1)) wr) := hinv
                  clear hinv
                  have ei : ((i + 1 : Nat) : Int) - 1 = (i : Int) := by omega
                  rw [ei]
                  clear ei
                  have hinI : (0 : Int) ≤ (i : Int) := by omega
                  have hi2 : (i : Int) < (n : Int) := by omega
                  obtain ⟨fb, c0, r, fa, fc, ta, tc, ev, h1, h2, h3, h4, h5, h6, h7⟩ := StsY.at HM7.out.2.1 (by have := HS.out.2; omega : i < L.length)
                  obtain ⟨ea, ec⟩ : a2 = some ⟨fb, 0, none⟩ ∧ c2 = c0 := by injection ev with e1 e2 e3; exact ⟨e1, e3⟩
                  subst ea
                  subst ec
                  obtain ⟨lf, hlf⟩ : ∃ lf, lf = r.1.length := ⟨_, rfl⟩
                  obtain ⟨lt, hlt⟩ : ∃ lt, lt = bdLen r.2 := ⟨_, rfl⟩
                  rw [← hlf] at h2 h4 h6
                  rw [← hlt] at h3 h5 h7
                  have HF : Hid (Bs w6 (.slice fa lf fc) r.1 ∧ Bnd w6 (.slice ta lt tc) r.2 ∧ By w6 (.slice fa lf fc) ∧ By w6 (.slice ta lt tc) ∧ Valid r) := ⟨h4, h5, h6, h7, HV.out r (List.mem_of_getElem? h1)⟩
                  have HC : Hid (w6.cell? ⟨fb, i * 2, none⟩ = some (.slice fa lf fc) ∧ w6.cell? ⟨fb, i * 2 + 1, none⟩ = some (.slice ta lt tc)) := ⟨h2, h3⟩
                  have HR : Hid (L[i]? = some r) := h1
                  have g1 : wr.cell? ⟨fb, i * 2, none⟩ = some (.slice fa lf fc) := by
                    obtain ⟨_, _, _, _, _, kk⟩ := HI.out
                    exact (kk.cell (World.block_lt_of_cell? _ _ h2) id).trans h2
                  have g2 : wr.cell? ⟨fb, i * 2 + 1, none⟩ = some (.slice ta lt tc) := by
                    obtain ⟨_, _, _, _, _, kk⟩ := HI.out
                    exact (kk.cell (World.block_lt_of_cell? _ _ h3) id).trans h3
                  clear h1 h2 h3 h4 h5 h6 h7 hlf hlt ev
                  go_upto_region 20 with fail
                  refine wp_region_noPanic ?_
                  refine wp_region_held_drew (S := fun w' => w'.cell? ⟨fb, i * 2, none⟩ = some (.slice fa lf fc) ∧ w'.cell? ⟨fb, i * 2 + 1, none⟩ = some (.slice ta lt tc)) (by kernel_rfl) ⟨g1, g2⟩ (fun hHeld => ?_)
                  refine wpAnyH_take (i := 0) (v := .pointer (some ⟨yb, 0, none⟩)) rfl (by kernel_rfl) (by kernel_rfl) (by kernel_rfl) (fun _ _ _ h => h) (Or.inl ⟨by rfl, fun w' hSw => by kernel_rfl⟩) hHeld ?_
                  try simp only [Act.put, List.getElem_toArray, List.getElem_cons_succ, List.getElem_cons_zero, List.setIfInBounds_toArray, List.set_cons_zero, List.set_cons_succ]
                  refine wpAnyH_take (i := 1) (v := .slice (some ⟨fb, 0, none⟩) n c2) rfl (by kernel_rfl) (by kernel_rfl) (by kernel_rfl) (fun _ _ _ h => h) (Or.inl ⟨by rfl, fun w' hSw => by kernel_rfl⟩) hHeld ?_
                  try simp only [Act.put, List.getElem_toArray, List.getElem_cons_succ, List.getElem_cons_zero, List.setIfInBounds_toArray, List.set_cons_zero, List.set_cons_succ]
                  refine wpAnyH_take (i := 2) (v := .int .i64 (i : Int)) rfl (by kernel_rfl) (by kernel_rfl) (by kernel_rfl) (fun _ _ _ h => h) (Or.inl ⟨by rfl, fun w' hSw => by kernel_rfl⟩) hHeld ?_
                  try simp only [Act.put, List.getElem_toArray, List.getElem_cons_succ, List.getElem_cons_zero, List.setIfInBounds_toArray, List.set_cons_zero, List.set_cons_succ]
                  refine wpAnyH_take (i := 3) (v := .pointer (some ⟨fb, i * 2, none⟩)) rfl (by kernel_rfl) (by kernel_rfl) (by kernel_rfl) (fun _ _ _ h => h) (Or.inl ⟨by rfl, fun w' hSw => by go_simp⟩) hHeld ?_
                  try simp only [Act.put, List.getElem_toArray, List.getElem_cons_succ, List.getElem_cons_zero, List.setIfInBounds_toArray, List.set_cons_zero, List.set_cons_succ]
                  refine wpAnyH_take (i := 4) (v := .pointer (some ⟨fb, i * 2, none⟩)) rfl (by kernel_rfl) (by kernel_rfl) (by kernel_rfl) (fun _ _ _ h => h) (Or.inl ⟨by rfl, fun w' hSw => by go_simp⟩) hHeld ?_
                  try simp only [Act.put, List.getElem_toArray, List.getElem_cons_succ, List.getElem_cons_zero, List.setIfInBounds_toArray, List.set_cons_zero, List.set_cons_succ]
                  refine wpAnyH_take (i := 5) (v := .slice fa lf fc) rfl (by kernel_rfl) (by kernel_rfl) (by kernel_rfl) (fun _ _ _ h => h) (Or.inl ⟨by rfl, fun w' hSw => by (have h := hSw.1; go_simp)⟩) hHeld ?_
                  try simp only [Act.put, List.getElem_toArray, List.getElem_cons_succ, List.getElem_cons_zero, List.setIfInBounds_toArray, List.set_cons_zero, List.set_cons_succ]
                  refine wpAnyH_take (i := 6) (v := .slice (some ⟨fb, 0, none⟩) n c2) rfl (by kernel_rfl) (by kernel_rfl) (by kernel_rfl) (fun _ _ _ h => h) (Or.inl ⟨by rfl, fun w' hSw => by kernel_rfl⟩) hHeld ?_
                  try simp only [Act.put, List.getElem_toArray, List.getElem_cons_succ, List.getElem_cons_zero, List.setIfInBounds_toArray, List.set_cons_zero, List.set_cons_succ]
                  refine wpAnyH_take (i := 7) (v := .int .i64 (i : Int)) rfl (by kernel_rfl) (by kernel_rfl) (by kernel_rfl) (fun _ _ _ h => h) (Or.inl ⟨by rfl, fun w' hSw => by kernel_rfl⟩) hHeld ?_
                  try simp only [Act.put, List.getElem_toArray, List.getElem_cons_succ, List.getElem_cons_zero, List.setIfInBounds_toArray, List.set_cons_zero, List.set_cons_succ]
                  refine wpAnyH_take (i := 8) (v := .pointer (some ⟨fb, i * 2, none⟩)) rfl (by kernel_rfl) (by kernel_rfl) (by kernel_rfl) (fun _ _ _ h => h) (Or.inl ⟨by rfl, fun w' hSw => by go_simp⟩) hHeld ?_
                  try simp only [Act.put, List.getElem_toArray, List.getElem_cons_succ, List.getElem_cons_zero, List.setIfInBounds_toArray, List.set_cons_zero, List.set_cons_succ]
                  refine wpAnyH_take (i := 9) (v := .pointer (some ⟨fb, i * 2 + 1, none⟩)) rfl (by kernel_rfl) (by kernel_rfl) (by kernel_rfl) (fun _ _ _ h => h) (Or.inl ⟨by rfl, fun w' hSw => by go_simp⟩) hHeld ?_
                  try simp only [Act.put, List.getElem_toArray, List.getElem_cons_succ, List.getElem_cons_zero, List.setIfInBounds_toArray, List.set_cons_zero, List.set_cons_succ]
                  refine wpAnyH_take (i := 10) (v := .slice ta lt tc) rfl (by kernel_rfl) (by kernel_rfl) (by kernel_rfl) (fun _ _ _ h => h) (Or.inl ⟨by rfl, fun w' hSw => by (have h := hSw.2; go_simp)⟩) hHeld ?_
                  try simp only [Act.put, List.getElem_toArray, List.getElem_cons_succ, List.getElem_cons_zero, List.setIfInBounds_toArray, List.set_cons_zero, List.set_cons_succ]
                  refine wpAnyH_ready (rs := [11]) (by kernel_rfl) (by simp) ?_
                  refine AllReadyH.cons rfl (fun K hK => ?_) AllReadyH.nil
                  go_simp
                  refine Calls.mono (clStep_any (w := wr.drew) (HI.out.keepN ((Kep.refl _ _).drew)) HF.out.1 HF.out.2.1 HF.out.2.2.1 HF.out.2.2.2.1 HF.out.2.2.2.2) ?_
                  rintro e w' ⟨rfl, hcl⟩
                  have hs2 : w'.cell? ⟨fb, i * 2, none⟩ = some (.slice fa lf fc) ∧ w'.cell? ⟨fb, i * 2 + 1, none⟩ = some (.slice ta lt tc) := by
                    obtain ⟨_, _, _, _, _, kk⟩ := hcl
                    exact ⟨(kk.cell (World.block_lt_of_cell? _ _ HC.out.1) id).trans HC.out.1, (kk.cell (World.block_lt_of_cell? _ _ HC.out.2) id).trans HC.out.2⟩
                  refine hK.out _ _ hs2 (fun hHeld2 => ?_)
                  have HNEW : Hid (ClInv w6 yb (r :: L.drop (i + 1)) w') := hcl
                  clear hK hHeld hHeld2 hcl hs2 g1 g2
                  try simp only [Act.put, List.getElem_toArray, List.getElem_cons_succ, List.getElem_cons_zero, List.setIfInBounds_toArray, List.set_cons_zero, List.set_cons_succ]
                  refine wpAnyH_done (by kernel_rfl) ?_ _
                  refine NoPanic.normal ?_
                  go_wp2
                  go_roundg i
                  case measure => omega
                  case rel => exact ⟨i, by omega, rfl, by go_num, by rw [← drop_cons HR.out]; exact HNEW.out⟩
end Go.Proofs.Qxb6615764a
