/-
  A part of the proof of FnIntText: basicMul, sqr.
-/
import Derived.Test.YtdidglfaogmnfaaGreatDoorW
import Derived.Defers
namespace Go.Proofs.YtdidglfaogmnfaaGreatDoor
open Go.RowKit

set_option maxRecDepth 100000 in
set_option maxHeartbeats 1000000 in
theorem basicMul_c (bz nz cz bx n cx X N : Nat) (w : World) (hB : Blk w bz N) (hN : 2 * n ≤ N) (hz : 2 * n ≤ nz) (hzc : nz ≤ cz) (hn : 1 ≤ n) (hn1 : n ≤ 100) (hcx : n ≤ cx) (hX : Ws w bx 0 n X) (hXl : X < 18446744073709551616 ^ n) (hne : bx ≠ bz) :
    Calls Tryz.prog 71 #[.slice (some ⟨bz, 0, none⟩) nz cz, .slice (some ⟨bx, 0, none⟩) n cx, .slice (some ⟨bx, 0, none⟩) n cx] w fun e w' => e = .returned (.tuple #[]) ∧ Ws w' bz 0 (2 * n) (X * X) ∧ Fr w w' (Rg bz 0 (2 * n)) := by
  have hn2 : 2 * n = n + n := by omega
  rw [hn2] at hN hz
  obtain ⟨c1, c2, c3⟩ := clear_ws bz cz (n + n) N w hB hN (by omega)
  have K0 : Hid (MulInv w (w.setCells bz 0 (wvs 0 (n + n))) bz bx n X 0) := Lib.hid ⟨by rw [Nat.pow_zero, Nat.mod_one, Nat.mul_zero, hn2]; exact c2, hX.fr c3 (fun _ _ c => hne c.1), by rw [hn2]; exact c3⟩
  clear hn2
  have KB := Lib.hid hB
  have KX := Lib.hid hXl
  have hnn : n + n ≤ cz := by omega
  clear c2 c3 hB hX hXl
  go_enter Tryz.func71, Tryz.ntmps71
  generalize w.setCells bz 0 (wvs 0 (n + n)) = w2 at *
  go_wp2_with (simp only [c1])
  clear c1
  go_loopw [17] (fun v17 wr => ∃ i : Nat, v17 = .int .i64 i ∧ i ≤ n ∧ Hid (MulInv w wr bz bx n X i)) (fun v17 _ => n - (intOf v17).toNat)
  case atStart => exact ⟨0, rfl, by omega, K0⟩
  case round =>
    clear K0
    obtain ⟨i, rfl, hi, HR⟩ := hrel
    by_cases hlt : i < n
    · have cx1 := HR.out.x i hlt
      rw [Nat.zero_add] at cx1
      have hd := wd_lt X i
      have hi1 : (i : Int) < (n : Int) := by omega
      by_cases h0 : wd X i = 0
      · have KS := Lib.hid (HR.out.skip h0)
        rw [h0] at cx1
        clear HR h0 hd
        go_wp2_with fail
        go_roundw
        case rel => exact ⟨i + 1, by go_num, by omega, KS⟩
        case measure => simp [intOf] <;> omega
      · have hb : ((wd X i : Int) != 0) = true := by simp; omega
        have kz : Ws wr bz i n (X * (X % 18446744073709551616 ^ i) / 18446744073709551616 ^ i) := fun k hk => by
          rw [← wd_shift]
          have := HR.out.z (i + k) (by omega)
          rwa [Nat.zero_add] at this
        have kam := addMulV_c bz i bx 0 n N (X * (X % 18446744073709551616 ^ i) / 18446744073709551616 ^ i) X (wd X i) 0 (cz - i) (cz - i) cx wr.drew ((KB.out.fr HR.out.f).fr ((Fr.refl wr No).drew)) (by omega) (by omega) kz HR.out.x hd (by decide) (fun x y h1 h2 h3 => hne h3.1)
        rw [show ((0 : Nat) : Int) = 0 from rfl] at kam
        have KAM := Lib.hid kam
        obtain ⟨d, hdd⟩ : ∃ d, d = wd X i := ⟨_, rfl⟩
        rw [← hdd] at cx1 hd hb KAM
        have Kd := Lib.hid hdd
        clear kz kam h0 hdd
        go_upto_region 5 with fail
        have s1 : IntKind.i64.wrap ((i : Int) + (n : Int)) = (i : Int) + (n : Int) := IntWalk.i64_in _ (by omega)
        have s2 : 0 ≤ (i : Int) + (n : Int) := by omega
        have s3 : (i : Int) + (n : Int) ≤ (cz : Int) := by omega
        have s4 : ((i : Int) + (n : Int)).toNat = i + n := by omega
        have s5 : i ≤ i + n := by omega
        have s6 : ¬ cz = i := by omega
        have s7 : i + n - i = n := by omega
        have s8 : IntKind.i64.wrap ((n : Int) + (i : Int)) = (n : Int) + (i : Int) := IntWalk.i64_in _ (by omega)
        go_region_with (go_at_call 89; refine KAM.out.mono ?_; rintro e w2 ⟨c, R, rfl, hc, hR, he, hW, hF⟩; obtain ⟨k1, k2, z, k3⟩ := MulInv.step (w2 := w2) (N := N) HR.out KX.out hlt hne (KB.out.fr HR.out.f) (by omega) hc hR (by rw [← Kd.out]; exact he) hW (((Fr.refl wr (Rg bz i n)).drew).trans hF (fun _ _ _ c => c)); have KS := Lib.hid k1; clear k1 hR he hW hF)
        clear s1 s2 s3 s4 s5 s6 s7 s8 HR KAM
        all_goals
          go_wp2_with fail
          go_roundw
          case rel => exact ⟨i + 1, by go_num, by omega, KS⟩
          case measure => simp [intOf] <;> omega
    · obtain rfl : i = n := by omega
      have KF : Hid (Ws wr bz 0 (2 * i) (X * X) ∧ Fr w wr (Rg bz 0 (2 * i))) := Lib.hid ⟨by have := HR.out.z; rwa [Nat.mod_eq_of_lt KX.out] at this, HR.out.f⟩
      clear HR
      go_wp2_with fail
      go_end0
      exact ⟨rfl, KF.out⟩
/-- what a storage is worth behind a number's making: a row of its own, normalised -/
structure Made (w w' : World) (z : Value) (bz V b k c : Nat) : Prop where
  hk : k ≤ c ∧ c ≤ 4000 ∧ 1 ≤ c
  n : Nrm V k
  ws : Ws w' b 0 k V
  bk : Blk w' b c
  wh : Whr w w' b bz z
  fr : Fr w w' (fun q _ => q = bz ∧ z ≠ .slice none 0 0)
theorem made_of {w w1 w2 : World} {z : Value} {bz V b k c n : Nat} (hc : n ≤ c) (hc4 : c ≤ 4000) (hn : 1 ≤ n) (hW : Whr w w1 b bz z) (hB : Blk w1 b c) (hF : Fr w w1 No) (hV : Ws w2 b 0 n V) (hF2 : Fr w1 w2 (fun q _ => q = b)) (hk : k ≤ n) (hN : Nrm V k) : Made w w2 z bz V b k c := by
  have s1 := hF.size
  have s2 := hF2.size
  refine ⟨⟨by omega, hc4, by omega⟩, hN, hV.less hk, hB.fr hF2, ?_, hF.no.trans hF2 (fun q _ hq c => ?_)⟩
  · rcases hW with h | h
    · exact Or.inl h
    · exact Or.inr ⟨h.1, by omega⟩
  · rcases hW with h | h
    · exact ⟨by rw [c, h.1], h.2⟩
    · omega
theorem two_ws {w : World} {b c hi lo : Nat} (hB : Blk w b c) (hc : 2 ≤ c) (m1 : hi < 18446744073709551616) (m2 : lo < 18446744073709551616) :
    Ws ((w.setCell ⟨b, 1, none⟩ (.int .u64 (hi : Int))).setCell ⟨b, 0, none⟩ (.int .u64 (lo : Int))) b 0 2 (hi * 18446744073709551616 + lo) ∧ Fr w ((w.setCell ⟨b, 1, none⟩ (.int .u64 (hi : Int))).setCell ⟨b, 0, none⟩ (.int .u64 (lo : Int))) (fun q _ => q = b) := by
  have hF1 : Fr w (w.setCell ⟨b, 1, none⟩ (.int .u64 (hi : Int))) (fun q _ => q = b) := (Fr.refl _ _).set _ _ _ (fun _ => rfl)
  refine ⟨fun i hi2 => ?_, hF1.set _ _ _ (fun _ => rfl)⟩
  have : i = 0 ∨ i = 1 := by omega
  rcases this with rfl | rfl
  · rw [sec_lo _ _ m2]; exact (hB.fr hF1).get 0 (by omega) _
  · rw [sec_hi _ _ 0 m2, show wd hi 0 = hi from by unfold wd; rw [Nat.pow_zero, Nat.div_one, Nat.mod_eq_of_lt m1], cell_set_ne _ _ _ _ _ _ (by omega)]
    exact hB.get 1 (by omega) _
theorem sqr_ne {w w1 : World} {z : Value} {bz bx b q : Nat} (hne : z ≠ .slice none 0 0 → bz ≠ bx) (hW : Whr (w.drewN q) w1 b bz z) (hbx : bx < w.heap.size) : bx ≠ b := by
  rcases hW with h | h
  · rw [h.1]; exact fun e => hne h.2 e.symm
  · have h1 : w.heap.size ≤ b := h.1
    omega
set_option maxRecDepth 100000 in
theorem sqr1_c (z : Value) (bz bx cx X : Nat) (stk : Value) (w : World) (hz : Sto w z bz) (hX : Ws w bx 0 1 X) (hXl : X < 18446744073709551616) :
    Calls Tryz.prog 55 #[z, stk, .slice (some ⟨bx, 0, none⟩) 1 cx] w fun e w' => ∃ b k c, e = .returned (.slice (some ⟨b, 0, none⟩) k c) ∧ Made w w' z bz (X * X) b k c := by
  have KM := Lib.hid (make_c z bz 2 (by omega) (by omega) w hz)
  obtain ⟨hi, lo, m1, m2, m3, m4⟩ := mulWW_c X X hXl hXl
  have cx1 := hX 0 (by omega)
  rw [show wd X 0 = X from by unfold wd; rw [Nat.pow_zero, Nat.div_one, Nat.mod_eq_of_lt hXl], Nat.add_zero] at cx1
  have KQ := Lib.hid m4
  have K3 := Lib.hid m3
  clear hz hX m3 m4
  go_enter_defers Tryz.func55, Tryz.ntmps55
  go_wp2_with fail
  refine KM.out.mono ?_
  rintro e w1 ⟨b, c, rfl, hnc, hc4, hW, hB, hF⟩
  have KW := Lib.hid (And.intro hW (And.intro hB hF))
  have f0 := hB.fz 0
  have f1 := hB.fz 1
  obtain ⟨z0, g0⟩ := hB.here 0 (by omega)
  obtain ⟨z1, g1⟩ := hB.here 1 (by omega)
  clear hW hB hF
  go_wp2_with fail
  refine (KQ.out _).mono ?_
  rintro e w1' ⟨rfl, rfl⟩
  go_wp2_with fail
  obtain ⟨t1, t2⟩ := two_ws KW.out.2.1 hnc m1 m2
  have hlt2 : hi * 18446744073709551616 + lo < 18446744073709551616 ^ 2 := by rw [← K3.out, Nat.pow_two]; exact Nat.mul_lt_mul'' hXl hXl
  have KN := Lib.hid (norm_c b 0 2 c (hi * 18446744073709551616 + lo) _ (by omega) hnc t1 hlt2)
  have KT := Lib.hid (And.intro t1 t2)
  clear t1 t2 hlt2
  refine KN.out.mono ?_
  rintro e w2 ⟨k, rfl, hk, hN, rfl⟩
  go_wp2_with fail
  refine ⟨_, results_tmp (t := 6) (by kernel_rfl) _ _ _, b, k, c, rfl, ?_⟩
  rw [K3.out]
  exact made_of hnc hc4 (by omega) KW.out.1 KW.out.2.1 KW.out.2.2 KT.out.1 KT.out.2 hk hN
set_option maxRecDepth 100000 in
theorem sqr_c (z : Value) (bz bx n cx X : Nat) (p : Nat) (w : World) (hn : 1 ≤ n) (hn1 : n ≤ 11) (hz : Sto w z bz) (hX : Ws w bx 0 n X) (hXl : X < 18446744073709551616 ^ n) (hBx : Blk w bx cx) (hcx : n ≤ cx) (hcx4 : cx ≤ 4000) (hne : z ≠ .slice none 0 0 → bz ≠ bx) (hG : Gl w) (hzl : z ≠ .slice none 0 0 → 8 ≤ bz) :
    Calls Tryz.prog 55 #[z, .pointer (some ⟨p, 0, none⟩), .slice (some ⟨bx, 0, none⟩) n cx] w fun e w' => ∃ b k c, e = .returned (.slice (some ⟨b, 0, none⟩) k c) ∧ Made w w' z bz (X * X) b k c := by
  by_cases h1 : n = 1
  · subst h1
    exact sqr1_c z bz bx cx X _ w hz hX (by rwa [Nat.pow_one] at hXl)
  · have h1' : ((n : Int) == 1) = false := by simp; omega
    have h0' : ((n : Int) == 0) = false := by simp; omega
    have KA := Lib.hid (alias_sto z bz bx n cx w hz hne (by omega) hcx4 hBx)
    have K1 := Lib.hid (And.intro hz (And.intro hX (And.intro hXl (And.intro hne (And.intro hG hzl)))))
    clear hz hX hXl hBx hne hG hzl
    go_enter_defers Tryz.func55, Tryz.ntmps55
    go_wp2_with fail
    refine KA.out.mono ?_
    rintro e w0 ⟨rfl, q, rfl⟩
    have km := make_c z bz (2 * n) (by omega) (by omega) (w.drewN q) (K1.out.1.fr ((Fr.refl w No).drewN q))
    rw [show ((2 * n : Nat) : Int) = 2 * (n : Int) from by omega] at km
    have KM := Lib.hid km
    clear km
    go_wp2_with fail
    refine KM.out.mono ?_
    rintro e w1 ⟨b, c, rfl, hnc, hc4, hW, hB, hF⟩
    have hF' : Fr w w1 No := ((Fr.refl w No).drewN q).trans hF (fun _ _ _ c => c)
    have hbx := cell_lt (K1.out.2.1 0 (by omega))
    have hbn : bx ≠ b := sqr_ne K1.out.2.2.2.1 hW hbx
    have hG1 := K1.out.2.2.2.2.1.fr hF' (fun _ _ c => c)
    have g5 := hG1.2.1
    have g6 := hG1.2.2.1
    have KB := Lib.hid (basicMul_c b (2 * n) c bx n cx X c w1 hB hnc (Nat.le_refl _) hnc hn (by omega) hcx (K1.out.2.1.fr hF' (fun _ _ c => c)) K1.out.2.2.1 hbn)
    have KW := Lib.hid (And.intro hW (And.intro hB hF'))
    have k12 : decide (n < 12) = true := by simp; omega
    clear hW hB hF hF' hG1 hbx
    go_wp2_with fail
    refine KB.out.mono ?_
    rintro e w2 ⟨rfl, hS, hF2⟩
    have hlt2 : X * X < 18446744073709551616 ^ (2 * n) := by
      rw [show 2 * n = n + n from by omega, Nat.pow_add]
      exact Nat.mul_lt_mul'' K1.out.2.2.1 K1.out.2.2.1
    have KN := Lib.hid (norm_c b 0 (2 * n) c (X * X) w2 (by omega) hnc hS hlt2)
    have KS := Lib.hid (And.intro hS hF2)
    clear hS hF2 hlt2
    go_wp2_with fail
    refine KN.out.mono ?_
    rintro e w2' ⟨k, rfl, hk, hN, rfl⟩
    go_wp2_with fail
    refine ⟨_, results_tmp (t := 6) (by kernel_rfl) _ _ _, b, k, c, rfl, ?_⟩
    exact made_of hnc hc4 (by omega) KW.out.1 KW.out.2.1 KW.out.2.2 KS.out.1 (KS.out.2.weaken (fun q j _ c => c.1)) hk hN
end Go.Proofs.YtdidglfaogmnfaaGreatDoor
