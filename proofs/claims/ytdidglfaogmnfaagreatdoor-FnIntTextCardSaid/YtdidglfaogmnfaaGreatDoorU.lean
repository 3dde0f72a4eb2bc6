/-
  A part of the proof of FnIntText: convertWords.
-/
import Derived.Test.YtdidglfaogmnfaaGreatDoorV
import Derived.StillTailTactics
namespace Go.Proofs.YtdidglfaogmnfaaGreatDoor
open Go.RowKit

set_option maxRecDepth 100000 in
set_option maxHeartbeats 2000000 in
theorem conv_step (t : Nat) (ht : t ≤ 2) (IH : 1 ≤ t → ConvSpec (t - 1)) : ConvSpec t := by
  intro tv bt ct e0 g0 e1 g1 p a b l bq nq cq bs os n cs N X w hpre
  have hl8 := hpre.gl.1
  have hnil := fun (w : World) (a : Option Addr) (n c : Nat) => Go.run_neq_slice_nil_any (P := Tryz.prog) w 75 91 a n c 0 0 Tryz.underlying75
  have hNs := hpre.hs.1
  have hn := hpre.hs.2.1
  have hcs := hpre.hs.2.2
  have hsn := Lib.hid hpre.ds
  have hbsl := Lib.hid hpre.ks.lt
  have K0 := Lib.hid (CvLoop.start (N := N) (os := os) hpre.st hpre.kq hpre.hc hpre.kw hpre.kn hpre.dq hpre.ks hpre.hlt)
  have Ktv : ∃ nb : Bool, (∀ w : World, (binOp .neq 75 tv (.slice none 0 0)).run Tryz.prog w = .ok (.bool nb) w) ∧ ((nb = false ∧ tv = .slice none 0 0 ∧ t = 0) ∨ (nb = true ∧ tv = .slice (some ⟨bt, 0, none⟩) t ct ∧ t ≤ ct)) := by
    rcases hpre.tv with ⟨h1, h2⟩ | ⟨h1, h2⟩
    · exact ⟨false, fun w => by rw [h1]; exact hnil w none 0 0, Or.inl ⟨rfl, h1, h2⟩⟩
    · exact ⟨true, fun w => by rw [h1]; exact hnil w _ t ct, Or.inr ⟨rfl, h1, h2⟩⟩
  obtain ⟨nb, hnb, Ktv⟩ := Ktv
  have heg : ∀ w : World, (eqGuard .neq 75 (.tmp 24) (.const (.slice none 0 0)) tv (.slice none 0 0)).run Tryz.prog w = .ok () w := by
    rcases Ktv with ⟨_, h1, _⟩ | ⟨_, h1, _⟩
    · rw [h1]; exact fun w => rfl
    · rw [h1]; exact fun w => rfl
  clear hnil
  have KP := Lib.hid hpre
  have KI := Lib.hid IH
  clear hpre IH
  go_enter Tryz.func41, Tryz.ntmps41
  go_upto_if 25 with fail
  go_cut [0, 2, 14, 15, 16, 17, 18] from 24 (fun v0 v2 _ _ _ _ _ wx => ∃ b1 y c1 n1 Y : Nat, v0 = .slice (some ⟨b1, 0, none⟩) y c1 ∧ v2 = .slice (some ⟨bs, os, none⟩) n1 cs ∧ y ≤ c1 ∧ y ≤ 8 ∧ n1 ≤ n ∧ b1 ≠ bs ∧
    Hid (∃ rv br a' b', CvLoop w wx p a b l bq bs os n N X rv br a' b' b1 c1 y n1 Y))
  case first =>
    rcases Ktv with ⟨rfl, rfl, rfl⟩ | ⟨rfl, rfl, hct⟩
    · have h8 := KP.out.z0 rfl
      have hq := KP.out.hc.1
      have hne := KP.out.dq.2.2.2
      go_wp2_with fail
      go_meet
      case rel => exact ⟨bq, nq, cq, n, X, rfl, rfl, hq, h8, Nat.le_refl _, hne, Lib.hid ⟨_, _, _, _, K0.out⟩⟩
    · have hcase : t = 0 ∨ t = 1 ∨ t = 2 := by omega
      rcases hcase with rfl | rfl | rfl
      · have h8 := KP.out.z0 rfl
        have hq := KP.out.hc.1
        have hne := KP.out.dq.2.2.2
        go_wp2_with fail
        refine wp_loop_rounds 1 ?_
        rw [rounds_succ]
        go_wp2_with fail
        go_meet
        case rel => exact ⟨bq, nq, cq, n, X, rfl, rfl, hq, h8, Nat.le_refl _, hne, Lib.hid ⟨_, _, _, _, K0.out⟩⟩
      · have hq := KP.out.hc.1
        have hz := KP.out.z1 rfl
        have hne := KP.out.dq.2.2.2
        go_wp2_with fail
        go_loopg [0, 2, 14, 15, 16, 17, 18] X (fun gk v0 v2 v14 v15 _ _ _ wr => ∃ b1 y c1 n1 : Nat, v0 = .slice (some ⟨b1, 0, none⟩) y c1 ∧ v2 = .slice (some ⟨bs, os, none⟩) n1 cs ∧ v15 = .int .i64 0 ∧ y ≤ c1 ∧ y ≤ 17 ∧ n1 ≤ n ∧ b1 ≠ bs ∧
          Hid (∃ br a' b', CvLoop w wr p a b l bq bs os n N X v14 br a' b' b1 c1 y n1 gk))
        case atStart => exact ⟨bq, nq, cq, n, rfl, rfl, rfl, hq, hz, Nat.le_refl _, hne, Lib.hid ⟨_, _, _, K0.out⟩⟩
        case round =>
          obtain ⟨b1, y, c1, n1, rfl, rfl, rfl, hy, hy17, hn1, hne1, HR⟩ := hrel
          obtain ⟨br, a', b', hL⟩ := HR.out
          have hl9 := cv_gl KP.out hL
          have KL := Lib.hid hL
          by_cases h9 : 8 < y
          · have hrow := (cv_tab KP.out hL).r0 (by omega)
            have hc0 := hrow.c0
            have hc1 : wr.cell? ⟨bt, 1, none⟩ = some (.int .i64 512) := hrow.c1
            have hc2 : wr.cell? ⟨bt, 2, none⟩ = some (.int .i64 154) := hrow.c2
            have Kbl := Lib.hid (bitLen_c b1 y c1 gk wr hL.kw (by omega) (by omega) hL.kn)
            have Kdv := Lib.hid (cv_div KP.out hL hrow (KP.out.f0 (by omega)) (by omega) (by omega) d154)
            have hnd : 154 < n1 := digits_ge hL.kn (show 8 < y by omega) ten154 hL.hlt
            have Kg : Hid (gk / D154 < gk) := Lib.hid (div_less hL.kn (by omega) two154)
            clear hL hrow HR
            go_wp2_with fail
            refine Kbl.out.mono ?_
            rintro e w' ⟨L, rfl, hL1, _, hL3, hL4, rfl⟩
            have hLg := bits_gt KL.out.kn (show 8 < y by omega) hL3
            have hLi : ¬ ((L : Int) ≤ 512) := by omega
            clear hL3 Kbl
            go_wp2_with fail
            refine wp_loop_rounds 1 ?_
            rw [rounds_succ]
            go_wp2_with fail
            refine Kdv.out.mono ?_
            rintro e w2 ⟨b2, kq, cq2, r2, kr, cr, a2, b2', rfl, hP⟩
            have hc3 : w2.cell? ⟨bt, 2, none⟩ = some (.int .i64 154) := cv_row2 KP.out KL.out hP (by omega) hc2
            have hkq : kq ≤ y - 8 + 1 := nrm_le hP.nq (quo_lt KL.out.kn.1 d154.1 (by omega) (by omega))
            have hkc := hP.hkq.1
            have hpre2 : CvPre w2.drew 0 (.slice (some ⟨bt, 0, none⟩) 0 ct) bt ct e0 g0 e1 g1 p a2 b2' l r2 kr cr bs (os + (n1 - 154)) 154 (cs - (n1 - 154)) N (gk % D154) := cv_sub KP.out KL.out D154_e (by omega) (by omega) (fun _ => nrm_le hP.nr (Nat.lt_trans (Nat.mod_lt _ pos154) d154.2.1)) (fun h => absurd h (by omega)) (by omega) (by omega) hP
            have KIH := Lib.hid ((KI.out (by omega) : ConvSpec 0) _ _ _ _ _ _ _ _ _ _ _ _ _ _ _ _ _ _ _ _ _ hpre2)
            have K2 := Lib.hid hP
            have hb2s : b2 ≠ bs := cv_bs KP.out KL.out hP
            clear hP hpre2 Kdv hc0 hc1 hc2
            go_upto_region 14 with fail
            have s1 : (154 : Int) ≤ (n1 : Int) := by omega
            have s2 : (n1 : Int) - 154 ≤ (n1 : Int) := by omega
            have s3 : ((n1 : Int) - 154).toNat = n1 - 154 := by omega
            have s4 : ¬ cs = n1 - 154 := by omega
            have s5 : n1 - 154 ≤ n1 := by omega
            have s6 : n1 - (n1 - 154) = 154 := by omega
            have s7 : (n1 : Int) - 154 ≤ (cs : Int) := by omega
            have s8 : n1 - 154 ≤ cs := by omega
            go_still_tail 11, (by kernel_rfl)
            clear s1 s2 s3 s4 s5 s6 s7 s8
            change wpList _ _ _ _ _ w2.drew
            go_wp2_with fail
            refine KIH.out.mono ?_
            rintro e w3 ⟨rfl, hpo⟩
            have KST : Hid (∃ br a' b', CvLoop w w3 p a b l bq bs os n N X (.slice (some ⟨r2, 0, none⟩) kr cr) br a' b' b2 cq2 kq (n1 - 154) (gk / D154)) := Lib.hid (cv_step KP.out KL.out D154_e (by omega) K2.out hpo)
            have f1 : (n1 : Int) - 154 ≤ (cs : Int) := by omega
            have f2 : ((n1 : Int) - 154).toNat = n1 - 154 := by omega
            have f3 : (154 : Int) ≤ (n1 : Int) := by omega
            clear hpo KIH K2
            go_wp2_with fail
            go_roundg (gk / D154)
            case measure => exact Kg.out
            case rel => exact ⟨b2, kq, cq2, n1 - 154, rfl, rfl, rfl, hkc, by omega, by omega, hb2s, KST⟩
          · clear hL
            go_wp2_with fail
            go_meet
            case rel =>
              exact ⟨b1, y, c1, n1, gk, rfl, rfl, hy, by omega, hn1, hne1, Lib.hid ⟨_, br, a', b', KL.out⟩⟩
      · have hq := KP.out.hc.1
        have hz := KP.out.z2 rfl
        have hne := KP.out.dq.2.2.2
        go_wp2_with fail
        go_loopg [0, 2, 14, 15, 16, 17, 18] X (fun gk v0 v2 v14 v15 _ _ _ wr => ∃ b1 y c1 n1 : Nat, v0 = .slice (some ⟨b1, 0, none⟩) y c1 ∧ v2 = .slice (some ⟨bs, os, none⟩) n1 cs ∧ v15 = .int .i64 1 ∧ y ≤ c1 ∧ (y ≤ 8 ∨ (18 ≤ y ∧ y ≤ 19)) ∧ n1 ≤ n ∧ b1 ≠ bs ∧
          Hid (∃ br a' b', CvLoop w wr p a b l bq bs os n N X v14 br a' b' b1 c1 y n1 gk))
        case atStart => exact ⟨bq, nq, cq, n, rfl, rfl, rfl, hq, hz, Nat.le_refl _, hne, Lib.hid ⟨_, _, _, K0.out⟩⟩
        case round =>
          obtain ⟨b1, y, c1, n1, rfl, rfl, rfl, hy, hy17, hn1, hne1, HR⟩ := hrel
          obtain ⟨br, a', b', hL⟩ := HR.out
          have hl9 := cv_gl KP.out hL
          have KL := Lib.hid hL
          by_cases h9 : 8 < y
          · have hrow := (cv_tab KP.out hL).r1 (by omega)
            have hc0 := hrow.c0
            have hc1 : wr.cell? ⟨bt, 4, none⟩ = some (.int .i64 1024) := hrow.c1
            have hc2 : wr.cell? ⟨bt, 5, none⟩ = some (.int .i64 308) := hrow.c2
            have hcm : wr.cell? ⟨bt, 1, none⟩ = some (.int .i64 512) := ((cv_tab KP.out hL).r0 (by omega)).c1
            have Kbl := Lib.hid (bitLen_c b1 y c1 gk wr hL.kw (by omega) (by omega) hL.kn)
            have Kdv := Lib.hid (cv_div KP.out hL hrow (KP.out.f1 (by omega)) (by omega) (by omega) d308)
            have hnd : 308 < n1 := digits_ge hL.kn (show 17 < y by omega) ten308 hL.hlt
            have Kg : Hid (gk / D308 < gk) := Lib.hid (div_less hL.kn (by omega) two308)
            clear hL hrow HR
            go_wp2_with fail
            refine Kbl.out.mono ?_
            rintro e w' ⟨L, rfl, hL1, _, hL3, hL4, rfl⟩
            have hLg := bits_gt KL.out.kn (show 17 < y by omega) hL3
            have hLi : ¬ ((L : Int) ≤ 1024) := by omega
            have hLj : ¬ ((L : Int) / 2 < 512) := by omega
            clear hL3 Kbl
            go_wp2_with fail
            refine wp_loop_rounds 1 ?_
            rw [rounds_succ]
            go_wp2_with fail
            refine Kdv.out.mono ?_
            rintro e w2 ⟨b2, kq, cq2, r2, kr, cr, a2, b2', rfl, hP⟩
            have hc3 : w2.cell? ⟨bt, 5, none⟩ = some (.int .i64 308) := cv_row2 KP.out KL.out hP (by omega) hc2
            have hkq : kq ≤ y - 16 + 1 := nrm_le hP.nq (quo_lt KL.out.kn.1 d308.1 (by omega) (by omega))
            have hkc := hP.hkq.1
            have hpre2 : CvPre w2.drew 1 (.slice (some ⟨bt, 0, none⟩) 1 ct) bt ct e0 g0 e1 g1 p a2 b2' l r2 kr cr bs (os + (n1 - 308)) 308 (cs - (n1 - 308)) N (gk % D308) := cv_sub KP.out KL.out D308_e (by omega) (by omega) (fun h => absurd h (by omega)) (fun _ => Nat.le_trans (nrm_le hP.nr (Nat.lt_trans (Nat.mod_lt _ pos308) d308.2.1)) (by omega)) (by omega) (by omega) hP
            have KIH := Lib.hid ((KI.out (by omega) : ConvSpec 1) _ _ _ _ _ _ _ _ _ _ _ _ _ _ _ _ _ _ _ _ _ hpre2)
            have K2 := Lib.hid hP
            have hb2s : b2 ≠ bs := cv_bs KP.out KL.out hP
            clear hP hpre2 Kdv hc0 hc1 hc2
            go_upto_region 14 with fail
            have s1 : (308 : Int) ≤ (n1 : Int) := by omega
            have s2 : (n1 : Int) - 308 ≤ (n1 : Int) := by omega
            have s3 : ((n1 : Int) - 308).toNat = n1 - 308 := by omega
            have s4 : ¬ cs = n1 - 308 := by omega
            have s5 : n1 - 308 ≤ n1 := by omega
            have s6 : n1 - (n1 - 308) = 308 := by omega
            have s7 : (n1 : Int) - 308 ≤ (cs : Int) := by omega
            have s8 : n1 - 308 ≤ cs := by omega
            have s9 : (1 : Int) ≤ (ct : Int) := by omega
            have s10 : 1 ≤ ct := by omega
            go_still_tail 11, (by kernel_rfl)
            clear s1 s2 s3 s4 s5 s6 s7 s8 s9 s10
            change wpList _ _ _ _ _ w2.drew
            go_wp2_with fail
            refine KIH.out.mono ?_
            rintro e w3 ⟨rfl, hpo⟩
            have KST : Hid (∃ br a' b', CvLoop w w3 p a b l bq bs os n N X (.slice (some ⟨r2, 0, none⟩) kr cr) br a' b' b2 cq2 kq (n1 - 308) (gk / D308)) := Lib.hid (cv_step KP.out KL.out D308_e (by omega) K2.out hpo)
            have f1 : (n1 : Int) - 308 ≤ (cs : Int) := by omega
            have f2 : ((n1 : Int) - 308).toNat = n1 - 308 := by omega
            have f3 : (308 : Int) ≤ (n1 : Int) := by omega
            clear hpo KIH K2
            go_wp2_with fail
            go_roundg (gk / D308)
            case measure => exact Kg.out
            case rel => exact ⟨b2, kq, cq2, n1 - 308, rfl, rfl, rfl, hkc, Or.inl (by omega), by omega, hb2s, KST⟩
          · clear hL
            go_wp2_with fail
            go_meet
            case rel =>
              exact ⟨b1, y, c1, n1, gk, rfl, rfl, hy, by omega, hn1, hne1, Lib.hid ⟨_, br, a', b', KL.out⟩⟩
  case rest =>
    obtain ⟨b1, y, c1, n1, Y, rfl, rfl, hy, hy8, hn1, hne1, HC⟩ := hcut
    have hNs' : os + n1 ≤ N := by omega
    obtain ⟨rv, br, a', b', hC⟩ := HC.out
    have KC := Lib.hid hC
    have KS : Hid (CvInv wc wc b1 c1 bs os n1 N Y Y y 0) := Lib.hid ⟨hC.kq, hC.ks, hC.kw, hC.kn, fun k hk => absurd hk (by omega), fun _ => by rw [Nat.pow_zero, Nat.div_one], Fr.refl _ _⟩
    clear hC HC Ktv
    go_wp2_with fail
    go_loopg [0, 19] Y (fun g v0 v19 wr => ∃ y i m : Nat, v0 = .slice (some ⟨b1, 0, none⟩) y c1 ∧ v19 = .int .i64 (i : Nat) ∧ y ≤ c1 ∧ y ≤ 8 ∧ i + m = n1 ∧ Hid (CvInv wc wr b1 c1 bs os n1 N Y g y m))
    case atStart => exact ⟨y, n1, 0, rfl, rfl, hy, hy8, by omega, KS⟩
    case round =>
      clear KS
      obtain ⟨y2, i, m, rfl, rfl, hy2, hy28, him, HR⟩ := hrel
      obtain ⟨wo, rfl⟩ : ∃ wo : World, wo = wr := ⟨_, rfl⟩
      have Kim := Lib.hid him
      by_cases hlt : 0 < y2
      · have hg0 : gk / 10000000000000000000 < gk := by
          have := HR.out.kn.2 hlt
          have := bp_pos (y2 - 1)
          omega
        have KD := Lib.hid (divW_c b1 y2 c1 gk wo HR.out.kq hy2 (by omega) HR.out.kw HR.out.kn.1)
        have hR : gk % 10000000000000000000 < 10000000000000000000 := Nat.mod_lt _ (by decide)
        obtain ⟨R, hRd⟩ : ∃ R, R = gk % 10000000000000000000 := ⟨_, rfl⟩
        rw [← hRd] at hR KD
        have KR := Lib.hid hRd
        have Kg0 := Lib.hid hg0
        clear hRd hg0 him
        go_wp2_with fail
        refine KD.out.mono ?_
        rintro e w2 ⟨k, rfl, hk, hkN, hW, hF⟩
        have KF := Lib.hid (And.intro hF (And.intro hkN hW))
        have KI := Lib.hid (cv_start HR.out hne1 hF)
        clear hF hkN hW KD
        go_wp2_with fail
        go_loopw [19, 20, 21] (fun v19 v20 v21 wy => ∃ i2 j r : Nat, j ≤ 19 ∧ v21 = .int .i64 (j : Nat) ∧ v19 = .int .i64 (i2 : Nat) ∧ v20 = .int .u64 (r : Nat) ∧ r < 18446744073709551616 ∧ i2 ≤ n1 ∧ Hid (i2 + (m + j) = n1 ∧ CvIn w2 wy bs os n1 N Y (m + j) ∧ r = R / 10 ^ j)) (fun _ _ v21 _ => 19 - (intOf v21).toNat)
        case atStart => exact ⟨i, 0, R, by omega, rfl, rfl, rfl, by omega, by have := Kim.out; omega, Lib.hid ⟨by have := Kim.out; omega, KI.out, by rw [Nat.pow_zero, Nat.div_one]⟩⟩
        case round =>
          clear KI
          obtain ⟨i2, j, r, hj, rfl, rfl, rfl, hr, hi2, HI⟩ := hrel
          by_cases hgo : j < 19 ∧ 0 < i2
          · obtain ⟨hj1, hi1⟩ := hgo
            obtain ⟨i3, rfl⟩ : ∃ i3, i2 = i3 + 1 := ⟨i2 - 1, by omega⟩
            obtain ⟨c1', c2', c3', z, c4'⟩ := cv_in HI.out.2.1 hNs' (by have := HI.out.1; omega) HR.out.kg KR.out hj1 HI.out.2.2
            rw [show n1 - 1 - (m + j) = i3 from by have := HI.out.1; omega] at c1' c3' c4'
            obtain ⟨d1, d2, d3, d4⟩ := digit_step r hr
            rw [show ((48 + r % 10 : Nat) : Int) = 48 + ((r : Int) - (r : Int) / 10 * 10) from by omega] at c1'
            have K1 := Lib.hid (And.intro c1' c2')
            have hr2 : r / 10 < 18446744073709551616 := by omega
            have KE := Lib.hid HI.out.1
            clear c1' c2' HI
            go_wp2_with fail
            go_roundw
            case rel => exact ⟨i3, j + 1, r / 10, by omega, by go_num, by go_num, by go_num, hr2, by omega, Lib.hid ⟨by have := KE.out; omega, K1.out.1, K1.out.2⟩⟩
            case measure => simp [intOf] <;> omega
          · have KE : Hid (CvInv wc wr b1 c1 bs os n1 N Y (gk / 10000000000000000000) k (m + j) ∧ i2 + (m + j) = n1) := Lib.hid ⟨cv_round HR.out hne1 KF.out.1 KF.out.2.1 KF.out.2.2 HI.out.2.1 (by have := HI.out.1; omega) (by have := HI.out.1; omega), HI.out.1⟩
            have hstop : ((decide (j < 19)) && (decide (0 < i2))) = false := by simp; omega
            by_cases hj19 : j < 19
            · obtain rfl : i2 = 0 := by omega
              clear HI hgo hstop
              go_wp2_with fail
              go_roundg (gk / 10000000000000000000)
              case measure => exact Kg0.out
              case rel => exact ⟨k, 0, m + j, rfl, rfl, by omega, by omega, KE.out.2, Lib.hid KE.out.1⟩
            · obtain rfl : j = 19 := by omega
              clear HI hgo hstop
              go_wp2_with fail
              go_roundg (gk / 10000000000000000000)
              case measure => exact Kg0.out
              case rel => exact ⟨k, i2, m + 19, rfl, rfl, by omega, by omega, KE.out.2, Lib.hid KE.out.1⟩
      · obtain rfl : y2 = 0 := by omega
        have KZ := Lib.hid (cv_last HR.out him)
        clear him
        go_wp2_with fail
        go_loopw [19] (fun v19 wy => ∃ i2 m2 : Nat, v19 = .int .i64 (i2 : Nat) ∧ i2 ≤ n1 ∧ Hid (i2 + m2 = n1 ∧ CvIn wo wy bs os n1 N Y m2 ∧ (0 < i2 → Y < 10 ^ m2))) (fun v19 _ => (intOf v19).toNat)
        case atStart => exact ⟨i, m, rfl, by have := Kim.out; omega, Lib.hid ⟨Kim.out, KZ.out⟩⟩
        case round =>
          clear KZ
          obtain ⟨i2, m2, rfl, hi2, HI⟩ := hrel
          by_cases hgo : 0 < i2
          · obtain ⟨i3, rfl⟩ : ∃ i3, i2 = i3 + 1 := ⟨i2 - 1, by omega⟩
            obtain ⟨f1, f2, f3, z, f4⟩ := cv_zero HI.out.2.1 hNs' (by have := HI.out.1; omega) (HI.out.2.2 (by omega))
            rw [show n1 - 1 - m2 = i3 from by have := HI.out.1; omega] at f1 f3 f4
            have K1 := Lib.hid (And.intro f1 f2)
            have KE := Lib.hid HI.out.1
            clear f1 f2 HI
            go_wp2_with fail
            go_roundw
            case rel => exact ⟨i3, m2 + 1, by go_num, by omega, Lib.hid ⟨by have := KE.out; omega, K1.out.1, fun _ => K1.out.2⟩⟩
            case measure => simp [intOf] <;> omega
          · obtain rfl : i2 = 0 := by omega
            have KE := Lib.hid (cv_fin HR.out (show CvIn wo wr bs os n1 N Y n1 from by have h1 := HI.out.1; have h2 := HI.out.2.1; rw [show m2 = n1 from by omega] at h2; exact h2) hne1 hn1 KC.out.ds KC.out.he)
            clear HI
            go_wp2_with fail
            go_end0
            exact ⟨rfl, cv_post KC.out hsn.out hbsl.out KE.out.1 KE.out.2⟩
theorem conv0 : ConvSpec 0 := conv_step 0 (by omega) (fun h => absurd h (by omega))
theorem conv1 : ConvSpec 1 := conv_step 1 (by omega) (fun _ => conv0)
theorem conv2 : ConvSpec 2 := conv_step 2 (by omega) (fun _ => conv1)
end Go.Proofs.YtdidglfaogmnfaaGreatDoor
