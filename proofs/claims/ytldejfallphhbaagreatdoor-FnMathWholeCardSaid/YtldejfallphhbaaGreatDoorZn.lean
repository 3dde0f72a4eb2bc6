/-
  A part of the proof of FnMathWhole (packed out of smaller texts by a program of this session; what the proof does not reach is left out).
-/
import Derived.Test.YtldejfallphhbaaGreatDoorZm
import Derived.Test.YtldejfallphhbaaGreatDoorZa
import Derived.Test.YtldejfallphhbaaGreatDoorZ6
import Derived.Test.YtldejfallphhbaaGreatDoorZ5
namespace Go.Proofs.YtldejfallphhbaaGreatDoor
set_option linter.unusedVariables false
set_option exponentiation.threshold 3000
open Go.RowKit
theorem U_half : Fl.U 4602678819172646912 = Fl.H := by
  have h := Fl.U_rung 1021 4503599627370496 (Nat.le_refl _) (by decide)
  rw [show 1021 * 4503599627370496 + 4503599627370496 = 4602678819172646912 from by decide] at h
  rw [h]
  have e := Fl.H_of 52 1021 (by decide)
  rw [show (2 : Nat) ^ 52 = 4503599627370496 from by decide] at e
  exact e
theorem parts_near (x : Nat) (hf : Fl.Fin x) : ∃ y d, Fl.Fin (x % 9223372036854775808) ∧ y < 18446744073709551616 ∧ Fl.Fin y ∧ Fl.sg y = false ∧ Fl.U (Fl.rg y) = Nw x * Fl.B ∧ (∀ w, Calls Tryz.prog 31 #[.float .f64 (x % 9223372036854775808)] w fun e w' => e = .returned (.float .f64 y) ∧ w' = w) ∧ Ieee.double.sub (x % 9223372036854775808) y = some d ∧ (Ieee.double.order d 4602678819172646912 == some Ordering.gt || Ieee.double.order d 4602678819172646912 == some Ordering.eq) = decide (Fl.H ≤ Fl.U (Fl.rg x) % Fl.B) := by
  have hrg : Fl.rg (x % 9223372036854775808) = Fl.rg x := by unfold Fl.rg; omega
  have hsg : Fl.sg (x % 9223372036854775808) = false := by
    unfold Fl.sg
    rw [show x % 9223372036854775808 / 9223372036854775808 = 0 from by omega]; rfl
  have hfa : Fl.Fin (x % 9223372036854775808) := by unfold Fl.Fin; rw [hrg]; exact hf
  obtain ⟨y, hy, hfy, hsy, hUy, hT⟩ := trunc2_c _ hfa
  have hN : Nw (x % 9223372036854775808) = Nw x := by unfold Nw; rw [hrg]
  rw [hN] at hUy
  obtain ⟨d, hd, hUd⟩ := Fl.rep_rest x hf
  refine ⟨y, d, hfa, hy, hfy, by rw [hsy, hsg], hUy, hT, Fl.sub_exact _ _ d hfa hfy hsg (by rw [hsy, hsg]) hd ?_, ?_⟩
  · rw [hrg, hUy, hUd]
    unfold Nw
    rw [Nat.mul_comm, Nat.add_comm]
    exact Nat.div_add_mod _ _
  · have hdw : Fl.wordOf false d = d := by unfold Fl.wordOf; rw [if_neg (by decide)]
    have hfd : Fl.Fin d := by have := Fl.fin_word false d hd; rwa [hdw] at this
    have hsd : Fl.sg d = false := by have := Fl.sg_word false d hd; rwa [hdw] at this
    have hrd : Fl.rg d = d := by have := Fl.rg_word false d hd; rwa [hdw] at this
    have hfh : Fl.Fin 4602678819172646912 := by unfold Fl.Fin Fl.rg; decide
    have hUh : Fl.sU 4602678819172646912 = ((Fl.H : Nat) : Int) := by
      unfold Fl.sU
      have e1 : Fl.sg 4602678819172646912 = false := by decide
      rw [e1, if_neg (by decide)]
      have e2 : Fl.rg 4602678819172646912 = 4602678819172646912 := by decide
      rw [e2, U_half]
    have hUd2 : Fl.sU d = ((Fl.U (Fl.rg x) % Fl.B : Nat) : Int) := by
      unfold Fl.sU
      rw [hsd, if_neg (by decide), hrd, hUd]
    rw [Fl.order_fin d _ hfd hfh, Fl.ord_ge, hUh, hUd2]
    exact decide_eq_decide.2 Int.ofNat_le
def Nr (x : Nat) : Int := Ref.iv (Fl.sg x) (Fl.nearN (Fl.U (Fl.rg x)))
theorem sub_run (a y d : Nat) (h : Ieee.double.sub a y = some d) (w : World) : (binOp .sub 24 (.float .f64 a) (.float .f64 y)).run Tryz.prog w = .ok (.float .f64 d) w := run_float_arith w .sub 24 .f64 a y d h
theorem lss_zero (x : Nat) (hf : Fl.Fin x) : (FloatKind.f64.format.order x 0 == some Ordering.lt) = (Fl.sg x && decide (1 ≤ Fl.U (Fl.rg x))) := by
  by_cases h : Fl.U (Fl.rg x) = 0
  · rw [decide_eq_false (by omega), Bool.and_false]
    have e := Fl.order_fin x 0 hf Fl.fin_0
    show (Ieee.double.order x 0 == some Ordering.lt) = false
    rw [e, Fl.ord_lt, Fl.sU_0]
    unfold Fl.sU
    rw [h]
    split <;> rfl
  · rw [decide_eq_true (by omega), Bool.and_true]
    exact neg_zero x hf h
theorem nr_eq (x : Nat) : (if Fl.H ≤ Fl.U (Fl.rg x) % Fl.B then Ref.iv false (Nw x) + 1 else Ref.iv false (Nw x)) = ((Fl.nearN (Fl.U (Fl.rg x)) : Nat) : Int) ∧ Nr x = if (Fl.sg x && decide (1 ≤ Fl.U (Fl.rg x))) = true then -((Fl.nearN (Fl.U (Fl.rg x)) : Nat) : Int) else ((Fl.nearN (Fl.U (Fl.rg x)) : Nat) : Int) := by
  constructor
  · have e : Ref.iv false (Nw x) = ((Nw x : Nat) : Int) := by unfold Ref.iv; rw [if_neg Bool.false_ne_true]
    rw [e]
    unfold Fl.nearN Nw
    by_cases h : Fl.H ≤ Fl.U (Fl.rg x) % Fl.B
    · rw [if_pos h, if_pos h]; rfl
    · rw [if_neg h, if_neg h, Nat.add_zero]
  · unfold Nr Ref.iv
    by_cases h : Fl.U (Fl.rg x) = 0
    · have e : Fl.nearN 0 = 0 := by
        unfold Fl.nearN
        rw [Nat.zero_div, Nat.zero_mod, if_neg (by
          have : 0 < Fl.H := Nat.pow_pos (by decide)
          omega)]
      rw [h, e]
      split <;> split <;> rfl
    · rw [decide_eq_true (show 1 ≤ Fl.U (Fl.rg x) by omega), Bool.and_true]
theorem nearN_le (M : Nat) : Fl.nearN M ≤ M / Fl.B + 1 := by unfold Fl.nearN; split <;> omega
theorem nearN_sm (x : Nat) (hx : x < 18446744073709551616) (hf : Fl.Fin x) : Sm ((Fl.nearN (Fl.U (Fl.rg x)) : Nat) : Int) := by
  unfold Sm
  rw [Int.natAbs_natCast]
  refine big_sm (k := 1) ?_ (by decide)
  have h := nw_lt x hx hf
  have h2 := nearN_le (Fl.U (Fl.rg x))
  unfold Nw at h
  generalize (2 : Nat) ^ 1024 = a at *
  omega
set_option maxRecDepth 100000 in
set_option maxHeartbeats 1000000 in
theorem near2_c (x : Nat) (hx : x < 18446744073709551616) (hf : Fl.Fin x) (w : World) :
    Calls Tryz.prog 13 #[.float .f64 x] w fun e w' => ∃ v, e = .returned v ∧ Hid (Sq w' w.heap.size v (Nr x) ∧ Fr w w' No) := by
  obtain ⟨y, d, hfa, hy, hfy, hsy, hUy, hT, hsub, hord⟩ := parts_near x hf
  obtain ⟨hn, ha⟩ := nw_whole hUy
  obtain ⟨n1, n2⟩ := nr_eq x
  have KT := Lib.hid hT
  have KA := Lib.hid (abs_c x)
  have KW := Lib.hid (whole_c y hy hfy)
  rw [hn, hsy, ha] at KW
  have KB := Lib.hid (And.intro (Blk.new w #[.bool false, .slice none 0 0] 31 2 rfl) (And.intro (new40 w #[.bool false, .slice none 0 0] 31) (size_new w (.cells #[.bool false, .slice none 0 0] 31))))
  have hs := sub_run _ y d hsub
  have hl := lss_zero x hf
  have KS := Lib.hid (And.intro (iv_sm false (Nw x) (big_sm (k := 1) (Nat.le_trans (Nat.le_of_lt (nw_lt x hx hf)) (Nat.le_add_right _ _)) (by decide))) (nearN_sm x hx hf))
  generalize Nr x = Z at *
  generalize x % 9223372036854775808 = a at *
  generalize Ref.iv false (Nw x) = z at *
  generalize ((Fl.nearN (Fl.U (Fl.rg x)) : Nat) : Int) = zn at *
  generalize (Fl.sg x && decide (1 ≤ Fl.U (Fl.rg x))) = b2 at *
  obtain ⟨b1, hb1⟩ : ∃ b1, b1 = decide (Fl.H ≤ Fl.U (Fl.rg x) % Fl.B) := ⟨_, rfl⟩
  rw [← hb1] at hord
  have hz : (if b1 = true then z + 1 else z) = zn := by
    rw [← n1]
    by_cases h : Fl.H ≤ Fl.U (Fl.rg x) % Fl.B
    · rw [hb1, decide_eq_true h, if_pos rfl, if_pos h]
    · rw [hb1, decide_eq_false h, if_neg (by decide), if_neg h]
  have KZ := Lib.hid hz
  have KZ2 := Lib.hid n2
  clear hx hf hfa hy hfy hsy hUy hT hsub hn ha n1 n2 hb1 hz
  go_enter Tryz.func13, Tryz.ntmps13
  go_wp2_with fail
  refine (KA.out _).mono ?_
  rintro e w' ⟨rfl, rfl⟩
  go_wp2_with fail
  refine (KT.out _).mono ?_
  rintro e w' ⟨rfl, rfl⟩
  go_wp2_with fail
  with_reducible refine (KW.out _).mono ?_
  rintro e w2 ⟨v2, rfl, H2⟩
  have H2' := H2.out
  obtain ⟨⟨s2, A2, c2, l2, rfl, hR2, hI2, hL2⟩, hF2⟩ := H2'
  obtain ⟨L3, f3⟩ := Lv.new H2.out.1
  have KL := Lib.hid (And.intro L3 (And.intro ((KB.out.2.1.trans hF2 (fun _ _ _ c => c)).trans f3 (fun _ _ _ c => c)) (And.intro ((KB.out.1.fr hF2).fr f3) (And.intro (by have := hF2.size; have a := KB.out.2.2; omega : w.heap.size < w2.heap.size) (by have a := KB.out.2.2; omega : w.heap.size < (w.alloc (.cells #[.bool false, .slice none 0 0] 31)).heap.size)))))
  clear L3 f3 hR2 hI2 hL2 hF2 H2 KW KB
  go_wp2_with fail
  refine (KA.out _).mono ?_
  rintro e w' ⟨rfl, rfl⟩
  go_wp2_with fail
  refine (KA.out _).mono ?_
  rintro e w' ⟨rfl, rfl⟩
  go_wp2_with fail
  refine (KT.out _).mono ?_
  rintro e w' ⟨rfl, rfl⟩
  generalize (w.alloc (.cells #[.bool false, .slice none 0 0] 31)).heap.size = lo at *
  go_upto_if 20 with fail
  generalize w2.alloc _ = w3 at *
  generalize w2.heap.size = t3 at *
  have e0 := KL.out.1.c0
  have e1 := KL.out.1.c1
  have ho : (FloatKind.f64.format.order d 4602678819172646912 == some Ordering.gt || FloatKind.f64.format.order d 4602678819172646912 == some Ordering.eq) = b1 := hord
  rw [ho]
  clear ho hord
  go_cut [4] (fun s4 wx => s4 = .bool true ∧ ∃ s A n c lo, Hid (Lv wx t3 lo s A n c zn ∧ Fr w3 wx (fun k _ => k = t3) ∧ w.heap.size < lo))
  case first =>
    cases b1
    · go_wp2_with fail
      go_meet
      case rel =>
        have hz := KZ.out
        rw [if_neg Bool.false_ne_true] at hz
        exact ⟨rfl, s2, A2, _, c2, lo, Lib.hid ⟨hz ▸ KL.out.1, Fr.refl _ _, KL.out.2.2.2.2⟩⟩
    · have K34 := Lib.hid (one2_c w3)
      have K33 := Lib.hid (fun s5 A5 c5 n5 w5 wx h5 hx => add2_c w3 w5 wx .nilIface z t3 lo s2 A2 l2.length c2 s5 A5 c5 n5 KL.out.1 KS.out.1 h5 hx)
      go_upto_region 4 with fail
      go_region_with (first | (go_at_call 34; with_reducible refine (K34.out _ (by first | exact (Fr.refl _ _).drew | exact Fr.refl _ _)).mono ?_; rintro e w5 ⟨s5, A5, c5, n5, rfl, H5⟩; have e0' := H5.out.2.keep e0 (fun c => c); have e1' := H5.out.2.keep e1 (fun c => c)) | (go_at_call 40; with_reducible refine (K33.out _ _ _ _ _ _ H5.out (by first | exact (Fr.refl _ _).drew | exact Fr.refl _ _)).mono ?_; rintro e w6 ⟨s6, A6, c6, n6, rfl, qf, q0, q1, H6⟩; have qf0 := qf 0; have qf1 := qf 1))
      all_goals
        have KP := H6.out.put KL.out.1 (by first | exact Fr.refl _ _ | exact (Fr.refl _ _).drew | exact ((Fr.refl _ _).drew).drew)
        go_wp2_with fail
        go_meet
        case rel =>
          have hz := KZ.out
          rw [if_pos trivial] at hz
          exact ⟨rfl, s6, A6, n6, c6, _, Lib.hid ⟨hz ▸ KP.1, KP.2, by have := KL.out.2.2.1.lt; exact this⟩⟩
  case rest =>
    obtain ⟨rfl, s6, A6, n6, c6, lo6, KP⟩ := hcut
    have KX := Lib.hid (And.intro KP.out.1 (And.intro (KL.out.2.1.trans KP.out.2.1 (fun k j hk (c : k = t3) => by have := KL.out.2.2.2.1; omega)) (And.intro (KL.out.2.2.1.fr KP.out.2.1) (And.intro KP.out.2.2 KL.out.2.2.2.1))))
    clear KP KL KZ e0 e1 hs KT KA
    have d0 := KX.out.1.c0
    have d1 := KX.out.1.c1
    go_upto_if 25 with fail
    go_cut [4] (fun s4 wx => s4 = .bool true ∧ ∃ s A n c lo, Hid (Lv wx t3 lo s A n c Z ∧ Fr wc wx (fun k _ => k = t3) ∧ w.heap.size < lo))
    case first =>
      cases b2
      · go_wp2_with fail
        go_meet
        case rel =>
          have hz := KZ2.out
          rw [if_neg Bool.false_ne_true] at hz
          exact ⟨rfl, s6, A6, _, c6, _, Lib.hid ⟨hz ▸ KX.out.1, Fr.refl _ _, KX.out.2.2.2.1⟩⟩
      · have KM := Lib.hid (minus_c _ zn wc KX.out.1.S.sp KS.out.2)
        go_wp2_with fail
        with_reducible refine KM.out.mono ?_
        rintro e w7 ⟨v7, rfl, H7⟩
        have H7' := H7.out
        obtain ⟨⟨s7, A7, c7, l7, rfl, hR7, hI7, hL7⟩, hF7⟩ := H7'
        have L7 := KX.out.1.fr hF7
        obtain ⟨P1, P2⟩ := L7.put H7.out.1 KX.out.1.B.lt
        have KP := Lib.hid (And.intro P1 (And.intro ((hF7.no (S := fun k _ => k = t3)).trans P2 (fun _ _ _ c => c)) (by have := KX.out.2.2.1.lt; exact this : w.heap.size < wc.heap.size)))
        have fz0 := L7.B.fz 0
        have fz1 := L7.B.fz 1
        have q0 := L7.c0
        have q1 := L7.c1
        clear L7 P1 P2 hF7 hR7 hI7 hL7
        go_wp2_with fail
        go_meet
        case rel =>
          have hz := KZ2.out
          rw [if_pos trivial] at hz
          exact ⟨rfl, s7, A7, _, c7, _, Lib.hid ⟨hz ▸ KP.out.1, KP.out.2.1, KP.out.2.2⟩⟩
    case rest =>
      obtain ⟨rfl, s8, A8, n8, c8, lo8, KP⟩ := hcut
      have hB := KX.out.2.2.1.fr KP.out.2.1
      have KF := Lib.hid (KX.out.2.1.trans KP.out.2.1 (fun k j hk (c : k = t3) => by have := KX.out.2.2.2.2; omega))
      have KB := Lib.hid hB
      have q0 := KP.out.1.c0
      have q1 := KP.out.1.c1
      have fz0 := hB.fz 0
      have fz1 := hB.fz 1
      obtain ⟨u0, hu0⟩ := hB.here 0 (by decide)
      obtain ⟨u1, hu1⟩ := hB.here 1 (by decide)
      clear hB d0 d1 KX
      go_wp2_with fail
      generalize hw : World.setCell _ _ _ = w9
      obtain ⟨r0, r1, r2⟩ := KP.out.1.out KF.out KB.out (Nat.le_refl _) KP.out.2.2 hw
      clear hw
      refine bodyPost_ret (by simp [results, Tryz.results13, go_sem, r0, r1]; try rfl) rfl ?_
      exact ⟨_, rfl, Lib.hid r2⟩
end Go.Proofs.YtldejfallphhbaaGreatDoor
namespace Go.Proofs.YtldejfallphhbaaGreatDoor
set_option linter.unusedVariables false
open Go.RowKit Go.Proofs.YtldejfallphhbaaGreatDoorW.PrintWords Go.Proofs.YtldejfallphhbaaGreatDoorW.PrintLast Go.Proofs.YtldejfallphhbaaGreatDoorW.PrintMore
open PNearest
namespace Ref
theorem length_loop {l : List Int} (hb : Byt l) (hl : l.length ≤ 1000000) (F : Bool) : ∀ n : Nat, n ≤ 8000000 → ∃ r : Nat, r ≤ n ∧ Ev (fun k => spec_Int_Length.l0 k (n : Int) F l) ((r : Nat) : Int)
  | 0, _ => ⟨0, Nat.le_refl _, ⟨1, fun k hk => by
      obtain ⟨m, rfl⟩ := pred_of (K := 0) hk
      simp only [spec_Int_Length.l0]
      rw [if_neg (by decide)]; rfl⟩⟩
  | n + 1, hn => by
    have e1 : wrap64 (((n + 1 : Nat) : Int) - 1) = (n : Int) := by rw [w64 (by omega) (by omega)]; omega
    have e2 : ((n + 1 : Nat) : Int) > 0 := by omega
    obtain ⟨d, hd⟩ : ∃ d, d = dg l (n / 8) / 2 ^ (n % 8) % 2 := ⟨_, rfl⟩
    by_cases h1 : d = 1
    · refine ⟨n + 1, Nat.le_refl _, ⟨1, fun k hk => ?_⟩⟩
      obtain ⟨m, rfl⟩ := pred_of (K := 0) hk
      show spec_Int_Length.l0 (m + 1) ((n + 1 : Nat) : Int) F l = _
      simp only [spec_Int_Length.l0]
      rw [if_pos e2, e1, bit_f hb hl n (by omega), Option.bind_some, ← hd, h1]
      rfl
    · obtain ⟨r, hr, ⟨K, h⟩⟩ := length_loop hb hl F n (by omega)
      refine ⟨r, by omega, ⟨K + 1, fun k hk => ?_⟩⟩
      obtain ⟨m, rfl⟩ := pred_of hk
      show spec_Int_Length.l0 (m + 1) ((n + 1 : Nat) : Int) F l = _
      simp only [spec_Int_Length.l0]
      rw [if_pos e2, e1, bit_f hb hl n (by omega), Option.bind_some, ← hd, if_neg (by omega)]
      exact h m (Nat.le_of_succ_le_succ hk)
theorem length_ev {l : List Int} (hb : Byt l) (hl : l.length ≤ 1000000) (F : Bool) : ∃ r : Nat, r ≤ 8 * l.length ∧ Ev (fun k => spec_Int_Length.f k F l) ((r : Nat) : Int) := by
  obtain ⟨r, hr, h⟩ := length_loop hb hl F (8 * l.length) (by omega)
  refine ⟨r, hr, Ev.congr (fun k => ?_) h⟩
  unfold spec_Int_Length.f
  rw [show wrap64 (8 * (l.length : Int)) = ((8 * l.length : Nat) : Int) from by rw [w64 (by omega) (by omega)]; omega]
end Ref
theorem Ref.Is.nat {s : Bool} {l : List Int} {N : Nat} (h : Ref.Is s l (N : Int)) : s = false ∧ Ref.Can l N := by
  have hs := h.sgn
  rw [decide_eq_false (by omega)] at hs
  have hc := h.can
  rw [Int.natAbs_natCast] at hc
  exact ⟨hs, hc⟩
theorem length_c (v : Value) (z : Int) (w : World) (h : Sp w v z) (hz : Sm z) :
    Calls Tryz.prog 62 #[v] w fun e w' => ∃ r : Nat, e = .returned (.int .i64 (r : Int)) ∧ Hid (r ≤ 3200 ∧ Fr w w' No) := by
  obtain ⟨s, A, c, l, rfl, h1, h2⟩ := h
  have := h2.len hz
  obtain ⟨r, hr, h3⟩ := Ref.length_ev h2.can.byt (by omega) s
  obtain ⟨k, hk⟩ := Ref.ev_at h3
  refine (spec_Int_Length.calls k s A c l _ w h1.1 h1.2 hk).mono ?_
  rintro e w' ⟨rfl, hB⟩
  exact ⟨r, rfl, Lib.hid ⟨by omega, fr_of_below hB⟩⟩
theorem low_c (v : Value) (N : Nat) (w : World) (h : Sp w v (N : Int)) (hz : Sm (N : Int)) :
    Calls Tryz.prog 67 #[v] w fun e w' => ∃ r : Nat, e = .returned (.int .u64 (r : Int)) ∧ Hid (r < 18446744073709551616 ∧ Fr w w' No) := by
  obtain ⟨s, A, c, l, rfl, h1, h2⟩ := h
  have := h2.len hz
  obtain ⟨rfl, hc⟩ := h2.nat
  obtain ⟨r, hr, _, h3⟩ := Ref.low_ev hc (by omega)
  obtain ⟨k, hk⟩ := Ref.ev_at h3
  refine (spec_Int_low.calls k false A c l _ w h1.1 h1.2 hk).mono ?_
  rintro e w' ⟨rfl, hB⟩
  exact ⟨r, rfl, Lib.hid ⟨hr, fr_of_below hB⟩⟩
theorem nat_neg (N : Nat) : false = decide ((N : Int) < 0) := (decide_eq_false (by omega)).symm
theorem power_c (n : Nat) (hn : n ≤ 4000) (w : World) :
    Calls Tryz.prog 64 #[.int .i64 (n : Int)] w fun e w' => ∃ v, e = .returned v ∧ Hid (Sq w' w.heap.size v ((2 ^ n : Nat) : Int) ∧ Fr w w' No) := by
  obtain ⟨r, h1, h2⟩ := Ref.power_ev n (by omega)
  obtain ⟨k, hk⟩ := Ref.ev_at h1
  refine (spec_Power.calls k _ _ r w hk).mono ?_
  rintro e w' ⟨v, rfl, hR, hB⟩
  exact ⟨_, rfl, Lib.hid ⟨Sp.of_R hR ⟨by rw [Int.natAbs_natCast]; exact h2, nat_neg _⟩, fr_of_below hB⟩⟩
theorem Sp.of_R2 {w : World} {base : Nat} {ok : Nat → Prop} {v : Value} {s : Bool} {l : List Int} {z : Int} (h : Kd.R (Kd.int .u8) 5 w base ok v l) (hz : Ref.Is s l z) : Sq w base (.agg #[.bool s, v]) z := by
  obtain ⟨A, c, rfl, h1⟩ := Rb.of_R h
  exact ⟨s, A, c, l, rfl, h1, hz, fun ad ha _ => by subst ha; exact Kd.R_base h _ rfl⟩
theorem quo_c (u v : Value) (A B : Nat) (hB : 0 < B) (w : World) (hu : Sp w u (A : Int)) (hv : Sp w v (B : Int)) (ha : Sm (A : Int)) (hb : Sm (B : Int)) :
    Calls Tryz.prog 85 #[u, v] w fun e w' => ∃ q r, e = .returned (.tuple #[q, r]) ∧ Hid (Sq w' w.heap.size q ((A / B : Nat) : Int) ∧ Sq w' w.heap.size r ((A % B : Nat) : Int) ∧ Fr w w' No) := by
  obtain ⟨s, A1, c, l, rfl, h1, h2⟩ := hu
  obtain ⟨s', A', c', l', rfl, h1', h2'⟩ := hv
  have := h2.len ha
  have := h2'.len hb
  obtain ⟨rfl, hc⟩ := h2.nat
  obtain ⟨rfl, hc'⟩ := h2'.nat
  obtain ⟨rq, rl, h3, h4, h5⟩ := Ref.floor_ev hc hc' hB (by omega) (by omega)
  obtain ⟨k, hk⟩ := Ref.ev_at h3
  refine (spec_Int_Floor.calls k false A1 c l false A' c' l' _ rq _ rl w h1.1 h1.2 h1'.1 h1'.2 hk).mono ?_
  rintro e w' ⟨v1, v2, rfl, hR1, hR2, hBl⟩
  exact ⟨_, _, rfl, Lib.hid ⟨Sp.of_R2 hR1 ⟨by rw [Int.natAbs_natCast]; exact h4, nat_neg _⟩, Sp.of_R2 hR2 ⟨by rw [Int.natAbs_natCast]; exact h5, nat_neg _⟩, fr_of_below hBl⟩⟩
theorem bit0_c (A : Option Addr) (c : Nat) (l : List Int) (w : World) (h : Rb w A c l) (hb : Ref.Byt l) (hl : l.length ≤ 400) :
    Calls Tryz.prog 65 #[.slice A l.length c, .int .i64 0] w fun e w' => ∃ r : Nat, e = .returned (.int .i64 (r : Int)) ∧ Hid (Fr w w' No) := by
  refine (spec_bit.calls A c l 0 _ w h.1 h.2 (Ref.bit_f hb (by omega) 0 (by decide))).mono ?_
  rintro e w' ⟨rfl, hD⟩
  exact ⟨_, rfl, Lib.hid (fr_of_below hD.below)⟩
end Go.Proofs.YtldejfallphhbaaGreatDoor
namespace Go.Proofs.YtldejfallphhbaaGreatDoor
set_option linter.unusedVariables false
open Go.RowKit
namespace Fl
open Ieee
def Ok (y : Nat) : Prop := y < 18446744073709551616 ∧ y % 9223372036854775808 ≤ 9218868437227405312
theorem ok_word (s : Bool) (r : Nat) (h : r ≤ 9218868437227405312) : Ok (double.word s r) := by
  rw [word_eq]
  unfold Ok wordOf
  split <;> omega
theorem ok_num (s : Bool) (m : Nat) (i : Int) : Ok (double.write (.number s m i)) := by
  show Ok (double.nearest s m i)
  unfold Format.nearest
  split
  · exact ok_word _ _ (by decide)
  · refine ok_word _ _ ?_
    rw [d_inf]
    exact Nat.min_le_right _ _
theorem ok_inf (s : Bool) : Ok (double.write (.infinity s)) := ok_word _ _ (by rw [d_inf]; exact Nat.le_refl _)
theorem read_ok (y : Nat) (h : Ok y) : (∃ s m i, double.read y = .number s m i) ∨ ∃ s, double.read y = .infinity s := by
  unfold Format.read
  simp only [d_sign, d_bin, d_inf]
  obtain ⟨_, h2⟩ := h
  by_cases c1 : y % 9223372036854775808 < 4503599627370496
  · rw [if_pos c1]; exact Or.inl ⟨_, _, _, rfl⟩
  · rw [if_neg c1]
    by_cases c2 : y % 9223372036854775808 < 9218868437227405312
    · rw [if_pos c2]; exact Or.inl ⟨_, _, _, rfl⟩
    · rw [if_neg c2, if_pos (by omega)]; exact Or.inr ⟨_, rfl⟩
theorem read_two : double.read 4611686018427387904 = .number false 4503599627370496 (-51) := by decide +kernel
theorem ok_mul2 (y : Nat) (h : Ok y) : ∃ r, double.mul y 4611686018427387904 = some r ∧ Ok r := by
  unfold Format.mul
  rw [read_two]
  rcases read_ok y h with ⟨s, m, i, hr⟩ | ⟨s, hr⟩
  · rw [hr]
    exact ⟨_, rfl, ok_num _ _ _⟩
  · rw [hr]
    exact ⟨_, rfl, ok_inf _⟩
theorem ok_neg (y : Nat) (h : Ok y) : Ok (wordOf (!sg y) (rg y)) := by
  have := ok_word (!sg y) (rg y) h.2
  rwa [word_eq] at this
end Fl
theorem mul2_run (y r : Nat) (h : Ieee.double.mul y 4611686018427387904 = some r) (w : World) : (binOp .mul 24 (.float .f64 y) (.float .f64 4611686018427387904)).run Tryz.prog w = .ok (.float .f64 r) w := run_float_arith w .mul 24 .f64 y _ r h
theorem ok_int (n : Int) : Fl.Ok (floatOfInt .f64 n) := Fl.ok_num _ _ _
set_option maxRecDepth 100000 in
theorem infc_c (n : Int) (w : World) : Calls Tryz.prog 86 #[.int .i64 n] w fun e w' => ∃ y, e = .returned (.float .f64 y) ∧ Hid (Fl.Ok y) ∧ w' = w := by
  have h4 := e4
  have k1 : Hid (Fl.Ok 9218868437227405312) := Lib.hid ⟨by decide, by decide⟩
  have k2 : Hid (Fl.Ok 18442240474082181120) := Lib.hid ⟨by decide, by decide⟩
  by_cases c : 0 ≤ n
  · go_enter Tryz.func86, Tryz.ntmps86
    go_wp2_with fail
    go_returns
    exact ⟨_, rfl, k1, rfl⟩
  · go_enter Tryz.func86, Tryz.ntmps86
    go_wp2_with fail
    go_returns
    exact ⟨_, rfl, k2, rfl⟩
set_option maxRecDepth 100000 in
theorem inf66_c (s : Bool) (w : World) : Calls Tryz.prog 66 #[.bool s] w fun e w' => ∃ y, e = .returned (.float .f64 y) ∧ Hid (Fl.Ok y) ∧ w' = w := by
  have K := Lib.hid infc_c
  cases s
  all_goals
    go_enter Tryz.func66, Tryz.ntmps66
    go_wp2_with fail
    refine (K.out _ _).mono ?_
    rintro e w2 ⟨y, rfl, hy, rfl⟩
    go_wp2_with fail
    go_returns
    exact ⟨y, rfl, hy, rfl⟩
end Go.Proofs.YtldejfallphhbaaGreatDoor
