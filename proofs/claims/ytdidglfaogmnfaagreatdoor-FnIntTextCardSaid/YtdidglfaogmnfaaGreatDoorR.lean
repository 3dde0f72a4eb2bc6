/-
  A part of the proof of FnIntText: long division: divLarge.
-/
import Derived.Test.YtdidglfaogmnfaaGreatDoorQ
namespace Go.Proofs.YtdidglfaogmnfaaGreatDoor
open Go.RowKit

set_option maxRecDepth 100000 in
set_option maxHeartbeats 1000000 in
theorem divLarge_c (z z2 : Value) (p a b l bz bz2 bx ox lu cx bv ov n cv X v rc : Nat) (w : World) (hz : Sto w z bz) (hz2 : Sto w z2 bz2) (hX : Ws w bx ox lu X) (hV : Ws w bv ov n v) (hG : Gl w) (hS : Stk w p a b l) (hl : l ≤ 40)
    (hA : Apart z z2 p a b bz bz2 bx bv) (hlo : 8 ≤ p ∧ 8 ≤ a ∧ 8 ≤ b ∧ (z ≠ .slice none 0 0 → 8 ≤ bz) ∧ (z2 ≠ .slice none 0 0 → 8 ≤ bz2)) (hn : 5 ≤ n) (hn1 : n ≤ 36) (hnl : n ≤ lu) (hlu : lu ≤ 49)
    (hXl : X < 18446744073709551616 ^ lu) (hv : 9223372036854775808 * 18446744073709551616 ^ (n - 1) ≤ v) (hv1 : v < 18446744073709551616 ^ n) (hD : Dv (wd v (n - 1)) rc) :
    Calls Tryz.prog 75 #[z, .pointer (some ⟨p, 0, none⟩), z2, .slice (some ⟨bx, ox, none⟩) lu cx, .slice (some ⟨bv, ov, none⟩) n cv] w fun e w' => ∃ bq kq cq br kr cr a' b',
      e = .returned (.tuple #[.slice (some ⟨bq, 0, none⟩) kq cq, .slice (some ⟨br, 0, none⟩) kr cr]) ∧ DivPost w w' z z2 p a b l bz bz2 (X / v) (X % v) bq kq cq br kr cr a' b' := by
  obtain ⟨va, hva⟩ : ∃ va, va = wd v (n - 1) := ⟨_, rfl⟩
  rw [← hva] at hD
  have KVA := Lib.hid hva
  have ctop := hV (n - 1) (by omega)
  rw [← hva] at ctop
  have Ksv := Lib.hid (save_c p a b l w hS)
  have Knl := Lib.hid (nlz_c va hD.1 hD.2.1)
  have Kna := Lib.hid (nat_c p a b l n w hS (by omega) (by omega) (by omega))
  have K1 := Lib.hid (And.intro hz (And.intro hz2 (And.intro hX (And.intro hV (And.intro hG hA)))))
  have K2 := Lib.hid (And.intro hXl (And.intro hv (And.intro hv1 hD)))
  have KL := Lib.hid hlo
  clear hva hz hz2 hX hV hG hS hA hXl hv hv1 hD hlo
  go_enter_defers Tryz.func75, Tryz.ntmps75
  go_wp2_with fail
  refine Ksv.out.mono ?_; rintro e w0 ⟨rfl, rfl⟩
  go_wp2_with fail
  refine (Knl.out _).mono ?_; rintro e w0' ⟨rfl, rfl⟩
  go_wp2_with fail
  refine Kna.out.mono ?_
  rintro e w1 ⟨a1, b1, c1, L, rfl, h1, h2, h3, h4, h5, h6, h7, h8⟩
  obtain ⟨g1, g2, g3, g4, g5, g6⟩ := dl_a K1.out.1 K1.out.2.1 K1.out.2.2.1 K1.out.2.2.2.1 K1.out.2.2.2.2.1 K1.out.2.2.2.2.2 ⟨KL.out.1, KL.out.2.1, KL.out.2.2.1⟩ (by omega) (by omega) h6 h7 h8
  have hlo1 : 8 ≤ p ∧ 8 ≤ a1 ∧ 8 ≤ b1 ∧ (z2 ≠ .slice none 0 0 → 8 ≤ bz2) := dl_lo KL.out K1.out.2.2.2.2.1 h6 h7
  have km := make_c z2 bz2 (lu + 1) (by omega) (by omega) w1 g2
  rw [show ((lu + 1 : Nat) : Int) = (lu : Int) + 1 from by omega] at km
  have KM := Lib.hid km
  have Kg := Lib.hid (And.intro g1 (And.intro g3 (And.intro g4 (And.intro g5 (And.intro g6 (And.intro hlo1 (And.intro h4 h5)))))))
  have Kw := Lib.hid (And.intro h6 (And.intro h7 h8))
  clear km g1 g2 g3 g4 g5 g6 hlo1 h4 h5 h6 h7 h8 ctop
  go_wp2_with fail
  refine KM.out.mono ?_
  rintro e w2 ⟨bu, cu, rfl, hcu, hcu4, hW, hBu, hF⟩
  obtain ⟨y1, y2, y3, ⟨y4, y5⟩, y6⟩ := dl_b (cv := cv) (cx := cx) Kg.out.1 Kg.out.2.1 Kg.out.2.2.1 Kg.out.2.2.2.1 Kg.out.2.2.2.2.1 Kg.out.2.2.2.2.2.1 (by omega) (by omega) K2.out.1 Kg.out.2.2.2.2.2.2.1 h1 h3 Kg.out.2.2.2.2.2.2.2 hW hBu hcu hF
  have K6 := Lib.hid y6
  have hlc : lu ≤ cu := by omega
  clear hW hBu hF y6 Kg
  generalize w2.setCells b1 l (wvs v n) = w3 at *
  generalize w3.setCells bu 0 (wvs X lu) = w4 at *
  go_wp2_with fail
  generalize w4.setCell ⟨bu, lu, none⟩ (.int .u64 0) = w5 at *
  have hbz := K6.out.2.2.2.2.2.2.2.2.2.2.2.1
  refine (alias_sto z bz bu (lu + 1) cu w5 K6.out.2.2.2.2.2.1 hbz (by omega) hcu4 K6.out.2.2.2.1).mono ?_
  rintro e wy ⟨rfl, qa, rfl⟩
  have hFq : Fr w5 (w5.drewN qa) No := (Fr.refl _ _).drewN _
  have km := make_c z bz (lu - n + 1) (by omega) (by omega) (w5.drewN qa) (K6.out.2.2.2.2.2.1.fr hFq)
  rw [show ((lu - n + 1 : Nat) : Int) = (lu : Int) - (n : Int) + 1 from by omega] at km
  have KM2 := Lib.hid km
  clear km hbz hFq y1 y2 y3 y4 y5
  go_wp2_with fail
  refine KM2.out.mono ?_
  rintro e w6 ⟨bq, cq, rfl, hcq, hcq4, hWq, hBq, hFq⟩
  have hK6 := dl_c Kw.out.1 Kw.out.2.1 Kw.out.2.2 (z := z) (bz := bz) (bq := bq) (w6 := w6) (fun h => dl_z K1.out.1 (K1.out.2.2.2.2.2.az h) (KL.out.2.2.2.1 h) h Kw.out.1 Kw.out.2.1) K6.out (dl_w hWq) (((Fr.refl w5 No).drewN qa).trans hFq (fun _ _ _ c => c))
  have K7 := Lib.hid hK6
  have hthr := K7.out.2.2.2.2.1.2.2.2
  have KB := Lib.hid hBq
  clear hK6 hWq hBq hFq
  go_wp2_with fail
  obtain ⟨q1, q2, q3, q4, q5, q6, q7, q8, q9, _⟩ := K7.out
  have e1 : lu - n + 1 + n = lu + 1 := by omega
  have hq3 := q3.ne (by omega)
  have kdb := divBasic_c p a1 b1 L bq cq bu cu b1 l n (lu - n + 1) n X v rc cu cq w6 q3 (by omega) (by omega) hn1 (by omega) (by omega) q4 (by omega) KB.out hcq hcq (by omega) (by rw [e1]; exact q1) q2
    (by rw [show lu - n + 1 + n - 1 = lu from by omega]; exact K2.out.1) K2.out.2.1 K2.out.2.2.1 (by rw [← KVA.out]; exact K2.out.2.2.2) q7 q8 q9 ⟨hq3.2.1, hq3.2.2, fun e => q7.2.2 e.symm, fun e => q8.2.2 e.symm⟩ (fun _ => h1)
  rw [e1] at kdb
  have KDB := Lib.hid kdb
  clear kdb e1 q1 q2 q3 q4 q5 q6 q7 q8 q9 hq3
  refine KDB.out.mono ?_
  rintro e w7 ⟨rfl, a2, b2, r1, r2, r3, r4, r5, r6⟩
  have hcq1 : 1 ≤ cq := by omega
  have hcu1 : 1 ≤ cu := by omega
  have hQl := quo_lt K2.out.1 K2.out.2.1 (by omega) hnl
  have hRl : X % v < 18446744073709551616 ^ (lu + 1) := lt_pow_le (Nat.lt_trans (Nat.mod_lt _ (Nat.lt_of_lt_of_le (Nat.mul_pos (by decide) (bp_pos _)) K2.out.2.1)) K2.out.2.2.1) (by omega)
  have KN1 := Lib.hid (norm_c bq 0 (lu - n + 1) cq (X / v) w7 (by omega) hcq r4 hQl)
  have KN2 := Lib.hid (norm_c bu 0 (lu + 1) cu (X % v) w7 (by omega) hcu r5 hRl)
  have KRS := Lib.hid (restore_c p a2 b2 L l .returning w7 r1 (by omega))
  have KR := Lib.hid (And.intro r2 (And.intro r3 (And.intro r4 (And.intro r5 r6))))
  clear r1 r2 r3 r4 r5 r6 hQl hRl KDB
  go_wp2_with fail
  refine KN1.out.mono ?_
  rintro e w7' ⟨kq, rfl, hkq, hNq, rfl⟩
  go_wp2_with fail
  refine KN2.out.mono ?_
  rintro e w7 ⟨kr, rfl, hkr, hNr, rfl⟩
  go_wp2_with fail
  refine leaves_cons (f := 90) (args := #[.pointer (some ⟨p, 0, none⟩), .int .i64 l]) (by simp) (by simp [go_sem]) ?_
  refine KRS.out.mono ?_
  rintro e u' w8 ⟨rfl, rfl, hS8, hF8⟩
  refine ⟨_, results_tmp2 (t := 10) (u := 11) (by kernel_rfl) _ _ _, bq, kq, cq, bu, kr, cu, a2, b2, rfl, ?_⟩
  obtain ⟨q1, q2, q3, q4, q5, q6, q7, q8, q9, q10, q11, q12, q13⟩ := K7.out
  exact dl_d ⟨q4, q6, q7, q8, q9, q10, q11, q12, q13⟩ KB.out (by omega) KR.out.1 KR.out.2.1 KR.out.2.2.1 KR.out.2.2.2.1 KR.out.2.2.2.2 ⟨hkq, hNq⟩ ⟨hkr, hNr⟩ ⟨hcq, hcq4, hcq1⟩ ⟨hcu, hcu4, hcu1⟩ hS8 hF8
end Go.Proofs.YtdidglfaogmnfaaGreatDoor
