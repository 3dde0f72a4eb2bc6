/-
  A part of the proof of FnIntText: long division: divBasic.
-/
import Derived.Test.YtdidglfaogmnfaaGreatDoorN
namespace Go.Proofs.YtdidglfaogmnfaaGreatDoor
open Go.RowKit

set_option maxRecDepth 100000 in
set_option maxHeartbeats 1000000 in
theorem divBasic_c (p a b l bq cq bu cu bv ov cv m n X v rc Nu Nq : Nat) (w : World) (hS : Stk w p a b l) (hl : l ≤ 100) (hn : 4 ≤ n) (hn1 : n ≤ 36) (hm : 1 ≤ m) (hm1 : m ≤ 50)
    (hBu : Blk w bu Nu) (hNu : m + n ≤ Nu) (hBq : Blk w bq Nq) (hNq : m ≤ Nq) (hcq : m ≤ cq) (hcu : m + n ≤ cu)
    (hX : Ws w bu 0 (m + n) X) (hV : Ws w bv ov n v) (hX1 : X < 18446744073709551616 ^ (m + n - 1)) (hv : 9223372036854775808 * 18446744073709551616 ^ (n - 1) ≤ v) (hv1 : v < 18446744073709551616 ^ n)
    (hD : Dv (wd v (n - 1)) rc) (d1 : bu ≠ p ∧ bu ≠ a ∧ bu ≠ b) (d2 : bq ≠ p ∧ bq ≠ a ∧ bq ≠ b) (d3 : bu ≠ bq) (d4 : bv ≠ p ∧ bv ≠ a ∧ bv ≠ bu ∧ bv ≠ bq) (d5 : bv = b → ov + n ≤ l) :
    Calls Tryz.prog 99 #[.slice (some ⟨bq, 0, none⟩) m cq, .pointer (some ⟨p, 0, none⟩), .slice (some ⟨bu, 0, none⟩) (m + n) cu, .slice (some ⟨bv, ov, none⟩) n cv] w fun e w' => e = .returned (.tuple #[]) ∧
      ∃ a' b', Stk w' p a' b' l ∧ Nw w w' a' a ∧ Nw w w' b' b ∧ Ws w' bq 0 m (X / v) ∧ Ws w' bu 0 (m + n) (X % v) ∧ Fr w w' (fun k i => k = p ∨ k = a ∨ (k = b ∧ l ≤ i) ∨ k = bu ∨ k = bq) := by
  obtain ⟨va, hva⟩ : ∃ va, va = wd v (n - 1) := ⟨_, rfl⟩
  have hvan : va < 18446744073709551616 := by rw [hva]; exact wd_lt _ _
  rw [← hva] at hD
  have KVA := Lib.hid hva
  clear hva
  have KS := Lib.hid hS
  have Ksv := Lib.hid (save_c p a b l w hS)
  have kna := nat_c p a b l (n + 1) w hS hl (by omega) (by omega)
  rw [show ((n + 1 : Nat) : Int) = (n : Int) + 1 from by omega] at kna
  have Kna := Lib.hid kna
  clear kna
  have KD := Lib.hid hD
  have KBu := Lib.hid hBu
  have KBq := Lib.hid hBq
  have KX := Lib.hid hX
  have KV := Lib.hid hV
  have K1 := Lib.hid hX1
  have K2 := Lib.hid hv
  have K3 := Lib.hid hv1
  have e1 : ((n : Int) + 1) = ((n + 1 : Nat) : Int) := by omega
  have e2 : ((n : Int) - 1) = ((n - 1 : Nat) : Int) := by omega
  have Kd := Lib.hid (show (bu ≠ p ∧ bu ≠ a ∧ bu ≠ b) ∧ (bq ≠ p ∧ bq ≠ a ∧ bq ≠ b) ∧ bu ≠ bq ∧ (bv ≠ p ∧ bv ≠ a ∧ bv ≠ bu ∧ bv ≠ bq) ∧ (bv = b → ov + n ≤ l) from ⟨d1, d2, d3, d4, d5⟩)
  clear hS hD hBu hBq hX hV hX1 hv hv1 d1 d2 d3 d4 d5
  have E1 := Lib.hid e1
  have E2 := Lib.hid e2
  clear e1 e2
  go_enter_defers Tryz.func99, Tryz.ntmps99
  go_wp2_with fail
  refine Ksv.out.mono ?_; rintro e wx ⟨rfl, rfl⟩
  go_wp2_with fail
  refine Kna.out.mono ?_
  rintro e w1 ⟨a', b', c', L, rfl, h1, h2, h3, h4, h5, h6, h7, h8⟩
  have KS1 := Lib.hid (div_start KBu.out KBq.out KX.out KV.out (by omega) Kd.out h4 h6 h7 h8 h5 h3)
  have Kst := Lib.hid (And.intro h4 (And.intro h6 (And.intro h7 h8)))
  clear h4 h5 h6 h7 h8 Kd KBu KBq KX KV
  have ctop := KS1.out.2.1 (n - 1) (by omega)
  rw [← KVA.out] at ctop
  go_wp2_with fail
  refine (KD.out.2.2.2.2 _).mono ?_; rintro e w2 ⟨rfl, q0, rfl⟩
  have ht0 : Hid (0 = wd (X / 18446744073709551616 ^ (m + 1) % v) (n - 1) ∧ DivInv w1 (w1.drewN q0) bq bu bv ov b' l m n X v (m + 1)) := Lib.hid (div_init KS1.out.1 KS1.out.2.1 K1.out K2.out (by omega))
  clear ctop
  go_wp2_with fail
  go_loopw [13, 14] (fun v13 v14 wr => ∃ j t : Nat, j ≤ m + 1 ∧ t < 18446744073709551616 ∧ v14 = .int .i64 ((j : Int) - 1) ∧ v13 = .int .u64 (t : Nat) ∧ Hid (t = wd (X / 18446744073709551616 ^ j % v) (n - 1) ∧ DivInv w1 wr bq bu bv ov b' l m n X v j)) (fun _ v14 _ => (intOf v14 + 1).toNat)
  case atStart => exact ⟨m + 1, 0, by omega, by omega, by go_num, rfl, ht0⟩
  case round =>
    clear ht0
    obtain ⟨j, t, hj, ht, rfl, rfl, HR⟩ := hrel
    by_cases hlt : 0 < j
    · obtain ⟨i, rfl⟩ : ∃ i, j = i + 1 := ⟨j - 1, by omega⟩
      rw [show ((i + 1 : Nat) : Int) - 1 = (i : Int) from by omega]
      obtain ⟨T, hT⟩ : ∃ T, T = X / 18446744073709551616 ^ (i + 1) % v * 18446744073709551616 + wd X i := ⟨_, rfl⟩
      obtain ⟨g1, g2, g3, g4, g5, g6, g7⟩ := div_round HR.out.1 HR.out.2 (by omega) hn K2.out K3.out hT
      rw [← KVA.out] at g1 g6 g7
      have KG := Lib.hid (And.intro g2 (And.intro g6 g7))
      have KT := Lib.hid hT
      clear hT g2 g6 g7
      go_upto_if 51 with fail
      go_cut [15, 16, 17, 18, 19, 20] from 45 to 200 (fun s15 _ _ _ _ _ wx => ∃ q : Nat, s15 = .int .u64 q ∧ q ≤ 18446744073709551615 ∧ Hid (T / v ≤ q ∧ q ≤ T / v + 1) ∧ wx = wr)
      case first =>
        by_cases hta : t = va
        · have hb : ((t : Int) != (va : Int)) = false := by simp [hta]
          have KQ := Lib.hid (KG.out.2.1 hta)
          have Kta := Lib.hid hta
          clear hta
          go_wp2_with fail
          go_meet
          case rel => exact ⟨18446744073709551615, rfl, by omega, KQ, rfl⟩
        · have hb : ((t : Int) != (va : Int)) = true := by simp; omega
          have hlt2 : t < va := by omega
          have KQ := Lib.hid (KG.out.2.2 hlt2)
          have hu1 := wd_lt T (n - 1)
          have hu2 := wd_lt T (n - 2)
          have hvb := wd_lt v (n - 2)
          generalize wd T (n - 1) = u1 at *
          generalize wd T (n - 2) = u2 at *
          generalize wd v (n - 2) = vb at *
          have KDW := Lib.hid (divWW_c va rc t u1 KD.out hlt2 hu1)
          have hq0 := guess_less hlt2 hu1
          have hr0 : (t * 18446744073709551616 + u1) % va < va := Nat.mod_lt _ (by omega)
          have hg0 := guess_first (a := va) (b := vb) (h := t) (u1 := u1) (u2 := u2) (by omega) hu2
          have hg1 := Nat.div_add_mod (t * 18446744073709551616 + u1) va
          rw [Nat.mul_comm] at hg1
          generalize (t * 18446744073709551616 + u1) / va = Q0 at *
          generalize (t * 18446744073709551616 + u1) % va = R0 at *
          obtain ⟨x1, x2, m1, m2, m3, m4⟩ := mulWW_c Q0 vb hq0 hvb
          have KM := Lib.hid m4
          have K0 : Hid (Gs va vb (t * 18446744073709551616 + u1) u2 Q0 R0 x1 x2) := Lib.hid ⟨by omega, by omega, m1, m2, hg1, m3, hg0⟩
          clear hg0 hg1 m3 m4
          have hr0' : R0 < 18446744073709551616 := by omega
          go_wp2_with fail
          refine (KDW.out _).mono ?_; rintro e wy ⟨rfl, rfl⟩
          go_wp2_with fail
          refine (KM.out _).mono ?_; rintro e wz ⟨rfl, rfl⟩
          go_wp2_with fail
          go_loopw [15, 16, 18, 19] (fun s15 s16 s18 s19 wy => wy = wz ∧ ∃ q r y1 y2 : Nat, s15 = .int .u64 q ∧ s16 = .int .u64 r ∧ s18 = .int .u64 y1 ∧ s19 = .int .u64 y2 ∧ q ≤ 18446744073709551615 ∧ r < 18446744073709551616 ∧ y1 < 18446744073709551616 ∧ y2 < 18446744073709551616 ∧
            Hid (Gs va vb (t * 18446744073709551616 + u1) u2 q r y1 y2)) (fun s15 _ _ _ _ => (intOf s15).toNat)
          case atStart => exact ⟨rfl, Q0, R0, x1, x2, rfl, rfl, rfl, rfl, by omega, hr0', m1, m2, K0⟩
          case round =>
            clear K0 KM KDW
            obtain ⟨rfl, q, r, y1, y2, rfl, rfl, rfl, rfl, hq, hr, hy1, hy2, HG⟩ := hrel
            have Kgt := Lib.hid (gt_c y1 y2 r u2 hy2 hu2)
            by_cases hgt : gtB y1 y2 r u2 = true
            · obtain ⟨p1, _⟩ := gs_pos HG.out hgt
              rw [hgt] at Kgt
              have e1 : IntKind.u64.wrap ((q : Int) - 1) = ((q - 1 : Nat) : Int) := by rw [IntKind.wrap_u64]; omega
              have hq1 : q - 1 ≤ 18446744073709551615 := by omega
              by_cases ho : 18446744073709551616 ≤ r + va
              · have KE := Lib.hid (KQ.out _ (gs_break HG.out hgt hvb ho))
                obtain ⟨r2, hr2⟩ : ∃ r2, r2 = r + va - 18446744073709551616 := ⟨_, rfl⟩
                have e2 : IntKind.u64.wrap ((r : Int) + (va : Int)) = (r2 : Int) := by rw [IntKind.wrap_u64]; omega
                have e3 : r2 < va := by omega
                clear hgt hr2 ho HG p1
                generalize q - 1 = q2 at *
                go_wp2_with fail
                refine (Kgt.out _).mono ?_; rintro e wy ⟨rfl, rfl⟩
                go_wp2_with fail
                go_meet
                case rel => exact ⟨q2, rfl, hq1, KE, rfl⟩
              · obtain ⟨n1, n2⟩ := gs_next HG.out hgt hvb (by omega)
                have e2 : IntKind.u64.wrap ((r : Int) + (va : Int)) = ((r + va : Nat) : Int) := by rw [IntKind.wrap_u64]; omega
                have e3 : ¬ r + va < va := by omega
                have hr2 : r + va < 18446744073709551616 := by omega
                have hqm : q - 1 < q := by omega
                by_cases hy : y2 < vb
                · obtain ⟨n3, n4⟩ := n1 hy
                  have KN := Lib.hid n4
                  have e4 : IntKind.u64.wrap ((y1 : Int) - 1) = ((y1 - 1 : Nat) : Int) := by rw [IntKind.wrap_u64]; omega
                  have e5 : IntKind.u64.wrap ((y2 : Int) - (vb : Int)) = ((y2 + 18446744073709551616 - vb : Nat) : Int) := by rw [IntKind.wrap_u64]; omega
                  have hb1 : y1 - 1 < 18446744073709551616 := by omega
                  have hb2 : y2 + 18446744073709551616 - vb < 18446744073709551616 := by omega
                  clear hgt n1 n2 n3 n4 ho HG p1
                  generalize q - 1 = q2 at *
                  generalize y1 - 1 = y3 at *
                  generalize y2 + 18446744073709551616 - vb = y4 at *
                  generalize r + va = r2 at *
                  go_wp2_with fail
                  refine (Kgt.out _).mono ?_; rintro e wy ⟨rfl, rfl⟩
                  go_wp2_with fail
                  go_roundw
                  case rel => exact ⟨trivial, q2, r2, y3, y4, rfl, rfl, rfl, rfl, hq1, hr2, hb1, hb2, KN⟩
                  case measure => simp [intOf]; omega
                · have KN := Lib.hid (n2 (by omega))
                  have e5 : IntKind.u64.wrap ((y2 : Int) - (vb : Int)) = ((y2 - vb : Nat) : Int) := by rw [IntKind.wrap_u64]; omega
                  have hb2 : y2 - vb < 18446744073709551616 := by omega
                  clear hgt n1 n2 ho HG p1
                  generalize q - 1 = q2 at *
                  generalize y2 - vb = y4 at *
                  generalize r + va = r2 at *
                  go_wp2_with fail
                  refine (Kgt.out _).mono ?_; rintro e wy ⟨rfl, rfl⟩
                  go_wp2_with fail
                  go_roundw
                  case rel => exact ⟨trivial, q2, r2, y1, y4, rfl, rfl, rfl, rfl, hq1, hr2, hy1, hb2, KN⟩
                  case measure => simp [intOf]; omega
            · rw [Bool.not_eq_true] at hgt
              have KE := Lib.hid (KQ.out _ (gs_end HG.out hgt))
              rw [hgt] at Kgt
              have Khg := Lib.hid hgt
              clear hgt
              go_wp2_with fail
              refine (Kgt.out _).mono ?_; rintro e wy ⟨rfl, rfl⟩
              go_wp2_with fail
              go_meet
              case rel => exact ⟨q, rfl, hq, KE, rfl⟩
      case rest =>
        obtain ⟨q, rfl, hq, KQ, rfl⟩ := hcut
        obtain ⟨_, _, _, _, kb, ⟨_, _, kd2⟩, ⟨_, _, kd3⟩, kd1, ⟨_, _, kd4, kd4'⟩, kd5⟩ := KS1.out
        have kmul := mulAddV_c b' l bv ov n c' q 0 v (n + 1) cv wc (kb.fr HR.out.2.fr) (by omega) (by omega) HR.out.2.v (by omega) (by decide) (fun x y h1 h2 h3 => by have := kd5 h3.1; omega)
        rw [show ((0 : Nat) : Int) = 0 from rfl] at kmul
        have KM := Lib.hid kmul
        clear kmul
        have hv0 : 0 < v := Nat.lt_of_lt_of_le (Nat.mul_pos (by decide) (bp_pos _)) K2.out
        by_cases him : i = m
        · subst him
          go_wp2_with fail
          refine KM.out.mono ?_; rintro e w2 ⟨c, R, rfl, hc, hR, he, hW, hF⟩
          obtain ⟨f1, f2, f3, f4, f5, f6, ⟨z, f7⟩, f8⟩ := div_mul HR.out.2 kb (by omega) K3.out KT.out kd2 kd5 hR hc he hW hF
          rw [show min (n + 1) (i + n - i) = n from by omega] at f3
          obtain ⟨t1, t2, t3, t4, t5⟩ := div_top K1.out (by omega) K2.out K3.out KT.out KQ.out.2 f2
          subst t4
          have KF := Lib.hid (And.intro (f1.less (show n ≤ n + 1 by omega)) (And.intro f3 (And.intro f4 f5)))
          have Kt := Lib.hid (And.intro t1 (And.intro t2 (And.intro t3 t5)))
          have hgu : i + n < i + (n + 1) := by omega
          clear hR he hW hF f1 f2 f3 f4 f5 t1 t2 t3 t5
          go_upto_region 28 with fail
          rw [show ((0 : Nat) : Int) = 0 from rfl] at KF
          generalize w2.setCell ⟨b', l + n, none⟩ (.int .u64 0) = w3 at *
          have hBu3 : Blk w3.drew bu Nu := ((KS1.out.2.2.1.fr HR.out.2.fr).fr KF.out.2.2.2).fr ((Fr.refl w3 No).drew)
          have ksub := subV_c bu i b' l n Nu T (q * v) (cu - i) (cu - i) (n + 1) w3.drew hBu3 (by omega) (by omega) KF.out.2.1 KF.out.1 (fun x y h1 h2 h3 => kd2 h3.1.symm)
          have KSB := Lib.hid ksub
          have KB3 := Lib.hid hBu3
          clear ksub hBu3
          have s1 : IntKind.i64.wrap ((i : Int) + (n : Int)) = (i : Int) + (n : Int) := IntWalk.i64_in _ (by omega)
          have s2 : 0 ≤ (i : Int) + (n : Int) := by omega
          have s3 : (i : Int) + (n : Int) ≤ (cu : Int) := by omega
          have s4 : ((i : Int) + (n : Int)).toNat = i + n := by omega
          have s5 : i ≤ i + n := by omega
          have s6 : ¬ cu = i := by omega
          have s7 : i + n - i = n := by omega
          have s8 : n ≤ n + 1 := by omega
          have s9 : (n : Int) ≤ (n : Int) + 1 := by omega
          have s10 : (0 : Int) ≤ (n : Int) := by omega
          go_still_tail 15, (by kernel_rfl)
          clear s1 s2 s3 s4 s5 s6 s7 s8 s9 s10
          change wpList _ _ _ _ _ w3.drew
          go_wp2_with fail
          refine KSB.out.mono ?_; rintro e w4 ⟨c2, R2, rfl, hc2, hR2, he2, hW2, hF2⟩
          obtain ⟨u1, u2⟩ := div_sub0 K3.out Kt.out.1 Kt.out.2.2.1 Kt.out.2.2.2 hc2 hR2 he2 hW2
          have hii : ((i : Int) == (i : Int)) = true := by simp
          by_cases hc0 : c2 = 0
          · obtain ⟨y1, y2⟩ := u1 hc0
            obtain ⟨z3, z4⟩ := div_close0 (m := i) HR.out.2 (by omega) K2.out KT.out kd2 kd4 kd5 (KF.out.2.2.2.drew) hF2 y2
            have K4 := Lib.hid z4
            have hcb : ((c2 : Int) != 0) = false := by simp [hc0]
            have hq0 : ((q : Int) == 0) = true := by simp [y1]
            have ht2 := wd_lt (T % v) (n - 1)
            clear u1 u2 y1 y2 z4 hR2 he2 hW2 hF2 hc0 KG
            generalize wd (T % v) (n - 1) = t2 at *
            go_wp2_with fail
            go_roundw
            case rel => exact ⟨i, t2, by omega, ht2, rfl, rfl, K4⟩
            case measure => simp [intOf] <;> omega
          · obtain rfl : c2 = 1 := by omega
            obtain ⟨y1, y2⟩ := u2 rfl
            have kadd := addV_c bu i bv ov n Nu R2 v (cu - i) (cu - i) cv w4.drew ((KB3.out.fr hF2).fr ((Fr.refl w4 No).drew)) (by omega) (by omega) hW2 (Ws.fr KF.out.2.2.1 (((Fr.refl w3 (Rg bu i n)).drew.trans hF2 (fun _ _ _ c => c)).drew) (fun x y c => kd4 c.1)) (fun x y h1 h2 h3 => kd4 h3.1)
            have KAD := Lib.hid kadd
            have KW4 := Lib.hid (And.intro y2 hF2)
            subst y1
            clear kadd u1 u2 y2 hR2 he2 hW2 hF2 hc0
            have s1 : IntKind.i64.wrap ((i : Int) + (n : Int)) = (i : Int) + (n : Int) := IntWalk.i64_in _ (by omega)
            have s2 : 0 ≤ (i : Int) + (n : Int) := by omega
            have s3 : (i : Int) + (n : Int) ≤ (cu : Int) := by omega
            have s4 : ((i : Int) + (n : Int)).toNat = i + n := by omega
            have s5 : i ≤ i + n := by omega
            have s6 : ¬ cu = i := by omega
            have s7 : i + n - i = n := by omega
            go_upto_region 30 with fail
            go_still_tail 13, (by kernel_rfl)
            clear s1 s2 s3 s4 s5 s6 s7
            change wpList _ _ _ _ _ w4.drew
            go_wp2_with fail
            refine KAD.out.mono ?_; rintro e w5 ⟨c3, R3, rfl, hc3, hR3, he3, hW3, hF3⟩
            have y5 := div_add0 hv0 K3.out KW4.out.1 hc3 hR3 he3 hW3
            obtain ⟨z3, z4⟩ := div_close0 (m := i) HR.out.2 (by omega) K2.out KT.out kd2 kd4 kd5 (KF.out.2.2.2.drew) ((KW4.out.2.drew).trans hF3 (fun _ _ _ c => c)) y5
            have K4 := Lib.hid z4
            have hnn : ¬ ((n : Int) < (n : Int)) := by omega
            have ht2 := wd_lt (T % v) (n - 1)
            clear z4 hR3 he3 hW3 hF3 hc3 y5 KAD KQ KG
            generalize wd (T % v) (n - 1) = t2 at *
            go_wp2_with fail
            go_roundw
            case rel => exact ⟨i, t2, by omega, ht2, rfl, rfl, K4⟩
            case measure => simp [intOf] <;> omega
        · go_wp2_with fail
          refine KM.out.mono ?_; rintro e w2 ⟨c, R, rfl, hc, hR, he, hW, hF⟩
          obtain ⟨f1, f2, f3, f4, f5, f6, ⟨z, f7⟩, f8⟩ := div_mul HR.out.2 kb (by omega) K3.out KT.out kd2 kd5 hR hc he hW hF
          rw [Nat.min_eq_left (by omega)] at f3
          have KF := Lib.hid (And.intro f1 (And.intro f3 (And.intro f4 (And.intro f5 f8))))
          have hgu : ¬ (m + n < i + (n + 1)) := by omega
          clear hR he hW hF f1 f2 f3 f4 f5 f8
          go_upto_region 28 with fail
          generalize w2.setCell ⟨b', l + n, none⟩ (.int .u64 (c : Int)) = w3 at *
          have ksub := subV_c bu i b' l (n + 1) Nu T (q * v) (cu - i) (cu - i) (n + 1) w3.drew (((KS1.out.2.2.1.fr HR.out.2.fr).fr KF.out.2.2.2.1).fr ((Fr.refl w3 No).drew)) (by omega) (by omega) KF.out.2.1 KF.out.1 (fun x y h1 h2 h3 => kd2 h3.1.symm)
          have KSB := Lib.hid ksub
          clear ksub
          have s0 : (i : Int) + ((n : Int) + 1) ≤ 9223372036854775807 := by omega
          have s1 : IntKind.i64.wrap ((i : Int) + ((n : Int) + 1)) = (i : Int) + ((n : Int) + 1) := IntWalk.i64_in _ (by omega)
          have s2 : 0 ≤ (i : Int) + ((n : Int) + 1) := by omega
          have s3 : (i : Int) + ((n : Int) + 1) ≤ (cu : Int) := by omega
          have s4 : ((i : Int) + ((n : Int) + 1)).toNat = i + (n + 1) := by omega
          have s5 : i ≤ i + (n + 1) := by omega
          have s6 : ¬ cu = i := by omega
          have s7 : i + (n + 1) - i = n + 1 := by omega
          have s8 : 0 ≤ (n : Int) + 1 := by omega
          have s9 : ((n : Int) + 1).toNat = n + 1 := by omega
          clear s0
          go_still_tail 15, (by kernel_rfl)
          clear s1 s2 s3 s4 s5 s6 s7 s8 s9
          change wpList _ _ _ _ _ w3.drew
          go_wp2_with fail
          refine KSB.out.mono ?_; rintro e w4 ⟨c2, R2, rfl, hc2, hR2, he2, hW2, hF2⟩
          obtain ⟨u1, u2⟩ := div_sub hv0 K3.out KG.out.1 hq KQ.out.1 KQ.out.2 hc2 hR2 he2 hW2 hF2
          by_cases hc0 : c2 = 0
          · obtain ⟨y1, y2⟩ := u1 hc0
            obtain ⟨z1, ⟨zz, z2⟩, z3, z4⟩ := div_close (Nq := Nq) HR.out.2 (by omega) (by omega) K2.out K3.out KT.out kd1 kd2 kd3 ⟨kd4, kd4'⟩ kd5 KS1.out.2.2.2.1 hNq (KF.out.2.2.2.1.drew) hF2 y2
            rw [← y1] at z4
            have K4 := Lib.hid z4
            have hcb : ((c2 : Int) != 0) = false := by simp [hc0]
            have hjm : ((i : Int) == (m : Int)) = false := by simp; omega
            have ht2 := wd_lt (T % v) (n - 1)
            clear u1 u2 y1 y2 z4 hR2 he2 hW2 hF2 hc0
            generalize wd (T % v) (n - 1) = t2 at *
            go_wp2_with fail
            go_roundw
            case rel => exact ⟨i, t2, by omega, ht2, rfl, rfl, K4⟩
            case measure => simp [intOf] <;> omega
          · obtain rfl : c2 = 1 := by omega
            obtain ⟨y1, y2, y3⟩ := u2 rfl
            have hBu4 : Blk w4 bu Nu := (((KS1.out.2.2.1.fr HR.out.2.fr).fr KF.out.2.2.2.1).fr ((Fr.refl w3 No).drew)).fr hF2
            have kadd := addV_c bu i bv ov n Nu R2 v (cu - i) (cu - i) cv w4.drew (hBu4.fr ((Fr.refl w4 No).drew)) (by omega) (by omega) (hW2.less (by omega)) (Ws.fr KF.out.2.2.1 (((Fr.refl w3 (Rg bu i (n + 1))).drew.trans hF2 (fun _ _ _ c => c)).drew) (fun x y c => kd4 c.1)) (fun x y h1 h2 h3 => kd4 h3.1)
            have KAD := Lib.hid kadd
            have KW4 := Lib.hid (And.intro y2 (And.intro y3 (And.intro hBu4 hF2)))
            have KQ1 := Lib.hid y1
            clear kadd u1 u2 y1 y2 y3 hR2 he2 hW2 hF2 hc0 hBu4
            have s1 : IntKind.i64.wrap ((i : Int) + (n : Int)) = (i : Int) + (n : Int) := IntWalk.i64_in _ (by omega)
            have s2 : 0 ≤ (i : Int) + (n : Int) := by omega
            have s3 : (i : Int) + (n : Int) ≤ (cu : Int) := by omega
            have s4 : ((i : Int) + (n : Int)).toNat = i + n := by omega
            have s5 : i ≤ i + n := by omega
            have s6 : ¬ cu = i := by omega
            have s7 : i + n - i = n := by omega
            go_upto_region 30 with fail
            go_still_tail 13, (by kernel_rfl)
            clear s1 s2 s3 s4 s5 s6 s7
            change wpList _ _ _ _ _ w4.drew
            go_wp2_with fail
            refine KAD.out.mono ?_; rintro e w5 ⟨c3, R3, rfl, hc3, hR3, he3, hW3, hF3⟩
            obtain ⟨v1, _, v3, v4, v5, v6⟩ := div_add (Nu := Nu) hv0 K3.out (KW4.out.2.2.1.fr ((Fr.refl w4 No).drew)) (by omega) KW4.out.1 hc3 hR3 he3 hW3 hF3 KW4.out.2.1
            subst v1
            obtain ⟨z1, ⟨zz, z2⟩, z3, z4⟩ := div_close (Nq := Nq) HR.out.2 (by omega) (by omega) K2.out K3.out KT.out kd1 kd2 kd3 ⟨kd4, kd4'⟩ kd5 KS1.out.2.2.2.1 hNq (KF.out.2.2.2.1.drew) ((KW4.out.2.2.2.drew).trans v6 (fun _ _ _ c => c)) v5
            have hq1 := KQ1.out
            generalize T / v = q2 at *
            have K4 := Lib.hid z4
            have e1 : IntKind.u64.wrap ((q : Int) - 1) = (q2 : Int) := by rw [IntKind.wrap_u64]; omega
            have e3 : IntKind.u64.wrap 18446744073709551616 = 0 := by decide
            clear hq1 KQ1
            have hjm : ((i : Int) == (m : Int)) = false := by simp; omega
            have hnn : (n : Int) < (n : Int) + 1 := by omega
            have ht2 := wd_lt (T % v) (n - 1)
            clear z4 hR3 he3 hW3 hF3 hc3 v5 v6 KAD KQ KG
            generalize wd (T % v) (n - 1) = t2 at *
            go_wp2_with fail
            go_roundw
            case rel => exact ⟨i, t2, by omega, ht2, rfl, rfl, K4⟩
            case measure => simp [intOf] <;> omega
    · obtain rfl : j = 0 := by omega
      rw [show ((0 : Nat) : Int) - 1 = -1 from rfl]
      obtain ⟨g1, g2⟩ := div_end h1 Kst.out KS1.out HR.out.2
      have K9 := Lib.hid g2
      have K8 := Lib.hid (restore_c p a' b' L l .returning wr g1 (by omega))
      clear g1 g2 HR
      go_wp2_with fail
      refine leaves_cons (f := 90) (args := #[.pointer (some ⟨p, 0, none⟩), .int .i64 l]) (by simp) (by simp [go_sem]) ?_
      refine K8.out.mono ?_
      rintro e u' w3 ⟨rfl, rfl, hS3, hF3⟩
      exact ⟨_, results_none rfl _ _ _, rfl, a', b', K9.out w3 hS3 hF3⟩
end Go.Proofs.YtdidglfaogmnfaaGreatDoor
