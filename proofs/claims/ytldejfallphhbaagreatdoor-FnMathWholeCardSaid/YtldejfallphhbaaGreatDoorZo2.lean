/-
  A part of the proof of FnMathWhole (packed out of smaller texts by a program of this session; what the proof does not reach is left out).
-/
import Derived.Test.YtldejfallphhbaaGreatDoorZo
import Derived.Test.YtldejfallphhbaaGreatDoorZn
import Derived.BigQuiet
namespace Go.Proofs.YtldejfallphhbaaGreatDoor
set_option linter.unusedVariables false
set_option exponentiation.threshold 4000
open Go.RowKit
def Big : Nat := 256 ^ 399
theorem big_lt {N : Nat} (h : N < Big) : Sm (N : Int) := by
  unfold Sm
  rw [Int.natAbs_natCast]
  unfold Big at h
  exact Nat.lt_trans h (Nat.pow_lt_pow_right (by decide) (by decide))
theorem big_le {N : Nat} (h : N ≤ Big) : Sm (N : Int) := by
  unfold Sm
  rw [Int.natAbs_natCast]
  unfold Big at h
  exact Nat.lt_of_le_of_lt h (Nat.pow_lt_pow_right (by decide) (by decide))
theorem lsh2_c (v : Value) (z : Int) (n : Nat) (w wx : World) (h : Sp w v z) (hz : Sm z) (hn : n ≤ 4000) (hF : Fr w wx No) :
    Calls Tryz.prog 55 #[v, .int .i64 (n : Int)] wx fun e w' => ∃ s A c k, e = .returned (.agg #[.bool s, .slice A k c]) ∧ Hid (Sp w' (.agg #[.bool s, .slice A k c]) (z * ((2 ^ n : Nat) : Int)) ∧ Fr wx w' No ∧ Fr w w' No) := by
  refine (lshI_c v z n wx (h.fr hF) hz hn).mono ?_
  rintro e w' ⟨v', rfl, H⟩
  obtain ⟨⟨s, A, c, l, rfl, h1, h2, h3⟩, h4⟩ := H.out
  exact ⟨s, A, c, l.length, rfl, Lib.hid ⟨⟨s, A, c, l, rfl, h1, h2⟩, h4, hF.trans h4 (fun _ _ _ c => c)⟩⟩
theorem sub3_c (u v : Value) (y z : Int) (w w7 wx : World) (hu : Sp w u y) (hv : Sp w7 v z) (hy : Sm y) (hz : Sm z) (hF : Fr w w7 No) (hG : Fr w7 wx No) :
    Calls Tryz.prog 33 #[u, v] wx fun e w' => ∃ s A c k, e = .returned (.agg #[.bool s, .slice A k c]) ∧ Hid (Sq w' wx.heap.size (.agg #[.bool s, .slice A k c]) (y - z) ∧ Fr wx w' No) := by
  refine (sub_c u v y z wx (hu.fr (hF.trans hG (fun _ _ _ c => c))) (hv.fr hG) hy hz).mono ?_
  rintro e w' ⟨v', rfl, H⟩
  have H' := H.out
  obtain ⟨⟨s, A, c, l, rfl, h1, h2, h3⟩, h4⟩ := H'
  exact ⟨s, A, c, l.length, rfl, H⟩
theorem rsh1_c (u : Value) (N : Nat) (w : World) (hu : Sp w u (N : Int)) (hN : Sm (N : Int)) :
    Calls Tryz.prog 63 #[u, .int .i64 1] w fun e w' => ∃ v, e = .returned v ∧ Hid (Sq w' w.heap.size v ((N / 2 ^ 1 : Nat) : Int) ∧ Fr w w' No) := rsh_c u N 1 w hu hN (by decide)
theorem bit_lv {w : World} {p lo : Nat} {s : Bool} {A : Option Addr} {n c N : Nat} (h : Lv w p lo s A n c ((N : Nat) : Int)) (hz : Sm ((N : Nat) : Int)) :
    Calls Tryz.prog 65 #[.slice A n c, .int .i64 0] w fun e w' => ∃ r : Nat, e = .returned (.int .i64 (r : Int)) ∧ Hid (Fr w w' No) := by
  obtain ⟨s', A', c', l', he, hR, hI, _⟩ := h.S
  simp only [Value.agg.injEq, Array.mk.injEq, List.cons.injEq, Value.bool.injEq, Value.slice.injEq, and_true] at he
  obtain ⟨rfl, rfl, rfl, rfl⟩ := he
  exact bit0_c _ _ _ w hR hI.can.byt (hI.len hz)
theorem lv_of {w8 : World} {b lo : Nat} {s : Bool} {A : Option Addr} {n c : Nat} {z : Int} (hB : Blk w8 b 2) (hS : Sq w8 lo (.agg #[.bool s, .slice A n c]) z) (hb : b < lo) :
    Lv ((w8.setCell ⟨b, 0, none⟩ (.bool s)).setCell ⟨b, 1, none⟩ (.slice A n c)) b lo s A n c z ∧ Fr w8 ((w8.setCell ⟨b, 0, none⟩ (.bool s)).setCell ⟨b, 1, none⟩ (.slice A n c)) (fun k _ => k = b) := by
  have h1 : Fr w8 (w8.setCell ⟨b, 0, none⟩ (.bool s)) (fun k _ => k = b) := (Fr.refl _ _).set _ _ _ (fun _ => rfl)
  have h2 := h1.set b 1 (.slice A n c) (fun _ => rfl)
  refine ⟨⟨hB.fr h2, ?_, (hB.fr h1).get 1 (by decide) _, (hS.set b 0 _ hb).set b 1 _ hb⟩, h2⟩
  rw [cell_set_ne _ _ _ _ _ _ (by simp)]
  exact hB.get 0 (by decide) _
def Lft (w6 wx : World) (b : Nat) (s : Bool) (A : Option Addr) (n c lo : Nat) (z : Int) : Prop := Lv wx b lo s A n c z ∧ Fr w6 wx No
theorem lft_a {w6 w7 w8 : World} {s : Bool} {A : Option Addr} {n c lo : Nat} {z : Int} (h7 : Fr w6 w7 No) (h8 : Fr w7 w8 No) (hS : Sq w8 lo (.agg #[.bool s, .slice A n c]) z) : Lft w6 (w8.alloc (.cells #[.bool s, .slice A n c] 31)) w8.heap.size s A n c lo z :=
  ⟨(Lv.new hS).1, (h7.trans h8 (fun _ _ _ c => c)).trans (Lv.new hS).2 (fun _ _ _ c => c)⟩
theorem lft_b {w6 w7 w8 : World} {b lo : Nat} {s : Bool} {A : Option Addr} {n c : Nat} {z : Int} (h7 : Fr w6 w7 No) (h8 : Fr w7 w8 No) (hB : Blk w8 b 2) (hS : Sq w8 lo (.agg #[.bool s, .slice A n c]) z) (hb : b < lo) (hb6 : w6.heap.size ≤ b) : Lft w6 ((w8.setCell ⟨b, 0, none⟩ (.bool s)).setCell ⟨b, 1, none⟩ (.slice A n c)) b s A n c lo z := by
  obtain ⟨a, f⟩ := lv_of hB hS hb
  exact ⟨a, (h7.trans h8 (fun _ _ _ c => c)).trans f (fun k j hk (c : k = b) => by omega)⟩
set_option maxRecDepth 100000 in
set_option maxHeartbeats 16000000 in
theorem nearest_c (u : Value) (z : Int) (w : World) (hu : Sp w u z) (hz : z.natAbs < Big) :
    Calls Tryz.prog 41 #[u] w fun e w' => ∃ y, e = .returned (.float .f64 y) ∧ Hid (Fl.Ok y ∧ Fr w w' No) := by
  have KU := Lib.hid hu
  obtain ⟨s0, A0, c0, l0, rfl, hr0, hi0⟩ := hu
  have hsm : Sm z := by
    unfold Sm; unfold Big at hz
    exact Nat.lt_trans hz (Nat.pow_lt_pow_right (by decide) (by decide))
  have hl0 := hi0.len hsm
  have f1 := new40 w #[.bool s0, .slice A0 l0.length c0] 31
  have g0 := cell_new w #[.bool s0, .slice A0 l0.length c0] 31 0 _ rfl
  have g1 := cell_new w #[.bool s0, .slice A0 l0.length c0] 31 1 _ rfl
  have KL := Lib.hid (fun wx (h : Fr w wx No) => length_c _ z wx (KU.out.fr h) hsm)
  have KO := Lib.hid (fun wx (h : Fr w wx No) => of_c false A0 c0 l0 z.natAbs wx (hr0.fr h) hi0.can.byt (by omega) hi0.can.val)
  have KF := Lib.hid f1
  obtain ⟨M, hM⟩ : ∃ M, M = z.natAbs := ⟨_, rfl⟩
  rw [← hM] at KO hz
  rw [show Ref.iv false M = (M : Int) from by unfold Ref.iv; rw [if_neg Bool.false_ne_true]] at KO
  have KM := Lib.hid hz
  generalize l0.length = n0 at *
  clear f1 hr0 hi0 hsm hl0 hM hz
  go_enter Tryz.func41, Tryz.ntmps41
  go_wp2_with fail
  with_reducible refine (KL.out _ KF.out).mono ?_
  rintro e w2 ⟨r, rfl, H2⟩
  obtain ⟨P, hP⟩ : ∃ P : Nat, max ((r : Int) - 53) 0 = (P : Int) := ⟨(max ((r : Int) - 53) 0).toNat, by omega⟩
  have hP2 : P ≤ 3190 := by have := H2.out.1; omega
  have hr32 := H2.out.1
  have g0' := H2.out.2.keep g0 (fun c => c)
  have g1' := H2.out.2.keep g1 (fun c => c)
  have KF2 := Lib.hid (KF.out.trans H2.out.2 (fun _ _ _ c => c))
  have e1 : IntKind.i64.wrap ((r : Int) - 53) = (r : Int) - 53 := by rw [IntKind.wrap_i64]; omega
  clear H2 g0 g1 KF
  go_wp2_with fail
  with_reducible refine (KO.out _ KF2.out).mono ?_
  rintro e w3 ⟨v3, rfl, H3⟩
  have H3' := H3.out
  obtain ⟨⟨s3, A3, c3, l3, rfl, hR3, hI3, hL3⟩, hF3⟩ := H3'
  obtain ⟨L5, f5⟩ := Lv.new H3.out.1
  have g0 := f5.keep (hF3.keep g0' (fun c => c)) (fun c => c)
  have g1 := f5.keep (hF3.keep g1' (fun c => c)) (fun c => c)
  have K5 := Lib.hid (And.intro L5 ((KF2.out.trans hF3 (fun _ _ _ c => c)).trans f5 (fun _ _ _ c => c)))
  have KR := Lib.hid (rsh_c _ M P _ L5.S.sp (big_lt KM.out) (by omega))
  have d0 := L5.c0
  have d1 := L5.c1
  clear KF2 hR3 hI3 hL3 hF3 H3 g0' g1' L5 f5 KO
  go_wp2_with fail
  with_reducible refine KR.out.mono ?_
  rintro e w4 ⟨v4, rfl, H4⟩
  have H4' := H4.out
  obtain ⟨⟨s4, A4, c4, l4, rfl, hR4, hI4, hL4⟩, hF4⟩ := H4'
  obtain ⟨L6, f6⟩ := Lv.new H4.out.1
  have f46 := hF4.trans f6 (fun _ _ _ c => c)
  have KV := Lib.hid (And.intro (K5.out.1.fr f46) (And.intro L6 (And.intro (K5.out.2.trans f46 (fun _ _ _ c => c)) (cell_lt (hF4.keep g0 (fun c => c))))))
  have a0 := f46.keep g0 (fun c => c)
  have a1 := f46.keep g1 (fun c => c)
  have m0 := f46.keep d0 (fun c => c)
  have m1 := f46.keep d1 (fun c => c)
  have k0 := L6.c0
  have k1 := L6.c1
  clear g0 g1 d0 d1 hR4 hI4 hL4 hF4 H4 L6 f6 f46 K5 KR
  go_upto_region 5 with fail
  generalize w4.alloc _ = w6 at *
  generalize w4.heap.size = t6 at *
  generalize w3.heap.size = t5 at *
  have hK := Nat.lt_of_le_of_lt (Nat.div_le_self M (2 ^ P)) KM.out
  have hKP : M / 2 ^ P * 2 ^ P ≤ M := Nat.div_mul_le_self _ _
  have KZ : Hid (Sm (((M / 2 ^ P : Nat) : Int) * ((2 ^ P : Nat) : Int))) := Lib.hid (by rw [← Int.natCast_mul]; exact big_lt (Nat.lt_of_le_of_lt hKP KM.out))
  have KZ2 : Hid (Sm ((M : Int) - ((M / 2 ^ P : Nat) : Int) * ((2 ^ P : Nat) : Int))) := Lib.hid (by rw [← Int.natCast_mul, ← Int.ofNat_sub hKP]; exact big_lt (Nat.lt_of_le_of_lt (Nat.sub_le _ _) KM.out))
  have KS := Lib.hid (fun wx (h : Fr w6 wx No) => lsh2_c _ ((M / 2 ^ P : Nat) : Int) P w6 wx KV.out.2.1.S.sp (big_lt hK) (by omega) h)
  have KT := Lib.hid (fun v w7 wx (h : Fr w6 w7 No) (hG : Fr w7 wx No) (hv : Sp w7 v (((M / 2 ^ P : Nat) : Int) * ((2 ^ P : Nat) : Int))) => sub3_c _ v (M : Int) _ w6 w7 wx KV.out.1.S.sp hv (big_lt KM.out) KZ.out h hG)
  clear hK hKP
  have fA := new40 w6 #[.bool false, .slice none 0 0] 31
  have am0 := fA.keep m0 (fun c => c)
  have am1 := fA.keep m1 (fun c => c)
  have ak0 := fA.keep k0 (fun c => c)
  have ak1 := fA.keep k1 (fun c => c)
  clear fA
  go_cut [7] (fun s7 wx => ∃ b7 s A n c lo zl, s7 = .pointer (some ⟨b7, 0, none⟩) ∧ Hid (Lft w6 wx b7 s A n c lo zl ∧ Sm zl))
  case first =>
    go_region_with (first | (go_at_call 55; with_reducible refine (KS.out _ (by first | exact Fr.refl _ _ | exact (Fr.refl _ _).drew | exact (Fr.refl _ _).alloc _ | exact ((Fr.refl _ _).drew).alloc _ | exact ((Fr.refl _ _).alloc _).drew)).mono ?_; rintro e w7 ⟨s7, A7, c7, n7, rfl, H7⟩; have mm0 := H7.out.2.2.keep m0 (fun c => c); have mm1 := H7.out.2.2.keep m1 (fun c => c); have mn0 := (new40 w7 #[.bool false, .slice none 0 0] 31).keep mm0 (fun c => c); have mn1 := (new40 w7 #[.bool false, .slice none 0 0] 31).keep mm1 (fun c => c); (first | have hBa := (Blk.new _ #[.bool false, .slice none 0 0] 31 2 rfl).fr H7.out.2.1 | have hBa := ((Blk.new _ #[.bool false, .slice none 0 0] 31 2 rfl).fr (Fr.refl _ No).drew).fr H7.out.2.1 | skip)) | (go_at_call 33; with_reducible refine (KT.out _ _ _ H7.out.2.2 (by first | exact Fr.refl _ _ | exact (Fr.refl _ _).drew | exact (Fr.refl _ _).alloc _ | exact ((Fr.refl _ _).drew).alloc _ | exact ((Fr.refl _ _).alloc _).drew) H7.out.1).mono ?_; rintro e w8 ⟨s8, A8, c8, n8, rfl, H8⟩; (first | have hBb := (Blk.new _ #[.bool false, .slice none 0 0] 31 2 rfl).fr H8.out.2 | have hBb := hBa.fr H8.out.2 | have hBb := (hBa.fr (Fr.refl _ No).drew).fr H8.out.2 | skip); (first | (have q0 := hBb.fz 0; have q1 := hBb.fz 1; obtain ⟨x0, hx0⟩ := hBb.here 0 (by decide); obtain ⟨x1, hx1⟩ := hBb.here 1 (by decide)) | skip)))
    all_goals
      go_wp2_with fail
      go_meet
      case rel =>
        exact ⟨_, s8, A8, n8, c8, _, _, rfl, Lib.hid ⟨(by
          first
            | exact lft_a H7.out.2.2 H8.out.2 H8.out.1
            | exact lft_b H7.out.2.2 ((new40 w7 #[.bool false, .slice none 0 0] 31).trans H8.out.2 (fun _ _ _ c => c)) hBb H8.out.1 (by rw [size_new]; omega) H7.out.2.2.size
            | exact lft_b H7.out.2.2 H8.out.2 hBb H8.out.1 (by
                have h := H7.out.2.1.size
                have e : ((w6.alloc (.cells #[.bool false, .slice none 0 0] 31)).drew).heap.size = w6.heap.size + 1 := size_new _ _
                omega) (Nat.le_refl _)), KZ2.out⟩⟩
  case rest =>
    obtain ⟨b7, sL, AL, nL, cL, loL, zl, rfl, KL7⟩ := hcut
    have hF := KL7.out.1.2
    have k0' := hF.keep k0 (fun c => c)
    have k1' := hF.keep k1 (fun c => c)
    have l0 := KL7.out.1.1.c0
    have l1 := KL7.out.1.1.c1
    have KX := Lib.hid (And.intro (KV.out.2.1.fr hF) (And.intro (KV.out.2.2.1.trans hF (fun _ _ _ c => c)) (And.intro (hF.keep a0 (fun c => c)) (And.intro (hF.keep a1 (fun c => c)) KV.out.2.2.2))))
    have KB7 := Lib.hid (And.intro KL7.out.1.1 KL7.out.2)
    clear hF KV KS KT KZ KZ2 KL7 m0 m1 k0 k1 a0 a1 am0 am1 ak0 ak1
    go_upto_if 27 with fail
    have KMP := Lib.hid (And.intro KM.out (Nat.div_le_self M (2 ^ P)))
    have KPw := Lib.hid (fun (h : 1 ≤ P) wx => power_c (P - 1) (by omega) wx)
    have KCm := Lib.hid (fun v y wx (h : Fr wc wx No) (hv : Sp wx v y) (hy : Sm y) => cmp_c _ v zl y wx (KB7.out.1.S.sp.fr h) hv KB7.out.2 hy)
    go_cut [4] (fun s4 wx => s4 = .int .i64 (P : Int) ∧ ∃ s A n c lo K, Hid (Lv wx t6 lo s A n c ((K : Nat) : Int) ∧ K ≤ M + 1 ∧ Fr wc wx (fun k _ => k = t6)))
    case first =>
      by_cases hP0 : P = 0
      · have q1 : ¬ 0 < P := by omega
        go_wp2_with fail
        go_meet
        case rel => exact ⟨rfl, s4, A4, _, c4, _, _, Lib.hid ⟨KX.out.1, Nat.le_succ_of_le KMP.out.2, Fr.refl _ _⟩⟩
      · have q1 : 0 < P := by omega
        obtain ⟨P1, hP1⟩ : ∃ P1, P1 = P - 1 := ⟨_, rfl⟩
        have q2 : (P : Int) - 1 = (P1 : Int) := by omega
        have q3 : P1 ≤ 3200 := by omega
        have q4 : IntKind.i64.wrap (P1 : Int) = (P1 : Int) := by rw [IntKind.wrap_i64]; omega
        have KPx := Lib.hid (KPw.out q1)
        rw [← hP1] at KPx
        have KSm : Hid (Sm ((2 ^ P1 : Nat) : Int)) := Lib.hid (by
          refine big_le ?_
          unfold Big
          rw [show (256 : Nat) = 2 ^ 8 from by decide, ← Nat.pow_mul]
          exact Nat.pow_le_pow_right (by decide) (by omega))
        clear hP0 hP1 KPw
        go_upto_region 7 with fail
        go_cut [8] (fun s8 wx => ∃ cI : Int, s8 = .int .i64 cI ∧ Hid (Fr wc wx No))
        case first =>
          go_region_with (first | (go_at_call 64; with_reducible refine (KPx.out _).mono ?_; rintro e w5 ⟨v5, rfl, H5⟩; have FX : Fr wc w5 No := (by first | exact H5.out.2 | exact ((Fr.refl wc No).drew).trans H5.out.2 (fun _ _ _ c => c)); have l0' := FX.keep l0 (fun c => c); have l1' := FX.keep l1 (fun c => c)) | (go_at_call 26; with_reducible refine (KCm.out _ _ _ (by first | exact FX | exact FX.drew) (by first | exact H5.out.1.sp | exact H5.out.1.sp.fr ((Fr.refl _ No).drew)) KSm.out).mono ?_; rintro e w6 ⟨rfl, H6⟩))
          all_goals
            go_wp2_with fail
            go_meet
            case rel => exact ⟨_, rfl, Lib.hid ((by first | exact FX | exact FX.drew : Fr wc _ No).trans H6.out (fun _ _ _ c => c))⟩
        case rest =>
          obtain ⟨cI, rfl, KF8⟩ := hcut
          have KY := Lib.hid (And.intro (KX.out.1.fr KF8.out) KF8.out)
          have e0 := KY.out.1.c0
          have e1 := KY.out.1.c1
          have KSm2 : Hid (Sm ((M / 2 ^ P : Nat) : Int)) := Lib.hid (big_lt (Nat.lt_of_le_of_lt KMP.out.2 KMP.out.1))
          have KBt := Lib.hid (bit_lv KY.out.1 KSm2.out)
          clear k0' k1' l0 l1 KPx KCm KB7 KF8 KSm
          have hend : ∀ wx, Fr wc wx No → Hid True := fun _ _ => Lib.hid trivial
          by_cases hc1 : 0 < cI
          · have K34 := Lib.hid (one2_c wc)
            have K33 := Lib.hid (fun s5 A5 c5 n5 w5 wx h5 hx => add2_c wc w5 wx .nilIface ((M / 2 ^ P : Nat) : Int) t6 _ s4 A4 l4.length c4 s5 A5 c5 n5 KY.out.1 KSm2.out h5 hx)
            clear KBt
            go_upto_region 9 with fail
            go_region_with (first | (go_at_call 34; with_reducible refine (K34.out _ (by first | exact (Fr.refl _ _).drew | exact Fr.refl _ _)).mono ?_; rintro e w5 ⟨s5, A5, c5, n5, rfl, H5⟩; have e0' := H5.out.2.keep e0 (fun c => c); have e1' := H5.out.2.keep e1 (fun c => c)) | (go_at_call 40; with_reducible refine (K33.out _ _ _ _ _ _ H5.out (by first | exact (Fr.refl _ _).drew | exact Fr.refl _ _)).mono ?_; rintro e w6 ⟨s6, A6, c6, n6, rfl, qf, q0, q1, H6⟩; have qf0 := qf 0; have qf1 := qf 1))
            all_goals
              have KP := H6.out.put KY.out.1 (by first | exact Fr.refl _ _ | exact (Fr.refl _ _).drew | exact ((Fr.refl _ _).drew).drew)
              go_wp2_with fail
              go_meet
              case rel => exact ⟨rfl, s6, A6, n6, c6, _, M / 2 ^ P + 1, Lib.hid ⟨KP.1, Nat.succ_le_succ KMP.out.2, (KY.out.2.no (S := fun k _ => k = t6)).trans KP.2 (fun _ _ _ c => c)⟩⟩
          · by_cases hc0 : cI = 0
            · subst hc0
              go_wp2_with fail
              with_reducible refine KBt.out.mono ?_
              rintro e w5 ⟨r5, rfl, H5⟩
              have KY5 := Lib.hid (And.intro (KY.out.1.fr H5.out) (KY.out.2.trans H5.out (fun _ _ _ c => c)))
              clear H5 KBt e0 e1
              have e0 := KY5.out.1.c0
              have e1 := KY5.out.1.c1
              by_cases hr1 : (r5 : Int) = 1
              · have K34 := Lib.hid (one2_c w5)
                have K33 := Lib.hid (fun s5 A5 c5 n5 w6 wx h5 hx => add2_c w5 w6 wx .nilIface ((M / 2 ^ P : Nat) : Int) t6 _ s4 A4 l4.length c4 s5 A5 c5 n5 KY5.out.1 KSm2.out h5 hx)
                go_upto_region 9 with fail
                go_region_with (first | (go_at_call 34; with_reducible refine (K34.out _ (by first | exact (Fr.refl _ _).drew | exact Fr.refl _ _)).mono ?_; rintro e w6 ⟨s5, A5, c5, n5, rfl, H5⟩; have e0' := H5.out.2.keep e0 (fun c => c); have e1' := H5.out.2.keep e1 (fun c => c)) | (go_at_call 40; with_reducible refine (K33.out _ _ _ _ _ _ H5.out (by first | exact (Fr.refl _ _).drew | exact Fr.refl _ _)).mono ?_; rintro e w7 ⟨s6, A6, c6, n6, rfl, qf, q0, q1, H6⟩; have qf0 := qf 0; have qf1 := qf 1))
                all_goals
                  have KP := H6.out.put KY5.out.1 (by first | exact Fr.refl _ _ | exact (Fr.refl _ _).drew | exact ((Fr.refl _ _).drew).drew)
                  go_wp2_with fail
                  go_meet
                  case rel => exact ⟨rfl, s6, A6, n6, c6, _, M / 2 ^ P + 1, Lib.hid ⟨KP.1, Nat.succ_le_succ KMP.out.2, (KY5.out.2.no (S := fun k _ => k = t6)).trans KP.2 (fun _ _ _ c => c)⟩⟩
              · go_wp2_with fail
                go_meet
                case rel => exact ⟨rfl, s4, A4, _, c4, _, _, Lib.hid ⟨KY5.out.1, Nat.le_succ_of_le KMP.out.2, KY5.out.2.no⟩⟩
            · go_wp2_with fail
              go_meet
              case rel => exact ⟨rfl, s4, A4, _, c4, _, _, Lib.hid ⟨KY.out.1, Nat.le_succ_of_le KMP.out.2, KY.out.2.no⟩⟩
    case rest =>
      obtain ⟨rfl, s9, A9, n9, c9, lo9, K9, KP9⟩ := hcut
      have ht6 := KX.out.2.2.2.2
      have a0 := KP9.out.2.2.keep KX.out.2.2.1 (fun (c : w.heap.size = t6) => by omega)
      have KN := Lib.hid (And.intro KP9.out.1 (And.intro (KX.out.2.1.trans KP9.out.2.2 (fun k j hk (c : k = t6) => by omega)) (And.intro KP9.out.2.1 ht6)))
      have KS9 : Hid (Sm ((K9 : Nat) : Int)) := Lib.hid (big_le (by have := KP9.out.2.1; have := KMP.out.1; omega))
      have e0 := KN.out.1.c0
      have e1 := KN.out.1.c1
      have KL9 := Lib.hid (length_c _ _ wc KN.out.1.S.sp KS9.out)
      clear ht6 KP9 KX KB7 k0' k1' l0 l1 KPw KCm KL
      go_wp2_with fail
      with_reducible refine KL9.out.mono ?_
      rintro e w10 ⟨r10, rfl, H10⟩
      have KN2 := Lib.hid (And.intro (KN.out.1.fr H10.out.2) (And.intro (KN.out.2.1.trans H10.out.2 (fun _ _ _ c => c)) KN.out.2.2))
      have a0' := H10.out.2.keep a0 (fun c => c)
      have b0 := KN2.out.1.c0
      have b1 := KN2.out.1.c1
      have hr10 := H10.out.1
      clear KL9 H10 a0 e0 e1 KN
      go_upto_if 50 with fail
      go_cut [4] (fun s4 wx => ∃ P' : Nat, s4 = .int .i64 (P' : Int) ∧ P' ≤ 3300 ∧ ∃ s A n c lo K, Hid (Lv wx t6 lo s A n c ((K : Nat) : Int) ∧ K ≤ M + 1 ∧ Fr w10 wx (fun k _ => k = t6)))
      case first =>
        by_cases h53 : (53 : Int) < (r10 : Int)
        · have KR := Lib.hid (rsh1_c _ K9 w10 KN2.out.1.S.sp KS9.out)
          go_wp2_with fail
          with_reducible refine KR.out.mono ?_
          rintro e w11 ⟨v11, rfl, H11⟩
          have H11' := H11.out
          obtain ⟨⟨s11, A11, c11, l11, rfl, hR11, hI11, hL11⟩, hF11⟩ := H11'
          have L11 := KN2.out.1.fr hF11
          obtain ⟨P1, P2⟩ := L11.put H11.out.1 KN2.out.1.B.lt
          have KP := Lib.hid (And.intro P1 (And.intro (Nat.le_trans (Nat.div_le_self K9 (2 ^ 1)) KN2.out.2.2.1) ((hF11.no (S := fun k _ => k = t6)).trans P2 (fun _ _ _ c => c))))
          have fz0 := L11.B.fz 0
          have fz1 := L11.B.fz 1
          have q0 := L11.c0
          have q1 := L11.c1
          clear L11 P1 P2 hF11 hR11 hI11 hL11 H11 KR
          go_wp2_with fail
          go_meet
          case rel => exact ⟨P + 1, by simp, by omega, s11, A11, _, c11, _, _, KP⟩
        · go_wp2_with fail
          go_meet
          case rel => exact ⟨P, rfl, by omega, s9, A9, n9, c9, _, K9, Lib.hid ⟨KN2.out.1, KN2.out.2.2.1, Fr.refl _ _⟩⟩
      case rest =>
        obtain ⟨P', rfl, hP', s12, A12, n12, c12, lo12, K12, KP12⟩ := hcut
        have ht6 := KN2.out.2.2.2
        have a0 := KP12.out.2.2.keep a0' (fun (c : w.heap.size = t6) => by omega)
        have KN := Lib.hid (And.intro KP12.out.1 (KN2.out.2.1.trans KP12.out.2.2 (fun k j hk (c : k = t6) => by omega)))
        have KS12 : Hid (Sm ((K12 : Nat) : Int)) := Lib.hid (big_le (by have := KP12.out.2.1; have := KMP.out.1; omega))
        have e0 := KN.out.1.c0
        have e1 := KN.out.1.c1
        have KL12 := Lib.hid (length_c _ _ wc KN.out.1.S.sp KS12.out)
        clear ht6 KP12 b0 b1 a0' KN2
        go_wp2_with fail
        with_reducible refine KL12.out.mono ?_
        rintro e w13 ⟨r13, rfl, H13⟩
        have a0' := H13.out.2.keep a0 (fun c => c)
        have b0 := H13.out.2.keep e0 (fun c => c)
        have b1 := H13.out.2.keep e1 (fun c => c)
        have KF13 := Lib.hid (And.intro (KN.out.2.trans H13.out.2 (fun _ _ _ c => c)) (KN.out.1.fr H13.out.2))
        have hr13 := H13.out.1
        clear e0 e1 a0 KL12 H13 KN
        by_cases hbig : (1024 : Int) < (r13 : Int) + (P' : Int)
        · have KI := Lib.hid (inf66_c s0)
          go_wp2_with fail
          refine (KI.out _).mono ?_
          rintro e w14 ⟨y14, rfl, hy, rfl⟩
          go_wp2_with fail
          go_returns
          exact ⟨y14, rfl, Lib.hid ⟨hy.out, KF13.out.1⟩⟩
        · have KLo := Lib.hid (low_c _ K12 w13 KF13.out.2.S.sp KS12.out)
          go_wp2_with fail
          with_reducible refine KLo.out.mono ?_
          rintro e w15 ⟨r15, rfl, H15⟩
          have a1 := H15.out.2.keep a0' (fun c => c)
          have KF15 := Lib.hid (KF13.out.1.trans H15.out.2 (fun _ _ _ c => c))
          have KOk := Lib.hid (ok_int (r15 : Int))
          clear a0' b0 b1 KF13 KLo H15
          go_wp2_with fail
          generalize floatOfInt FloatKind.f64 (r15 : Int) = y0 at *
          clear KU KM KMP KS12 KS9 hr10 hr13 hbig
          go_loopw [4, 9] (fun v4 v9 wr => ∃ p y : Nat, p ≤ 3300 ∧ v4 = .int .i64 (p : Int) ∧ v9 = .float .f64 y ∧ Hid (Fl.Ok y) ∧ wr = w15) (fun v4 _ _ => (intOf v4).toNat)
          case atStart => exact ⟨P', y0, hP', rfl, rfl, KOk, rfl⟩
          case round =>
            obtain ⟨p, y, hp, rfl, rfl, hy, rfl⟩ := hrel
            by_cases hp0 : p = 0
            · subst hp0
              have hn := neg_run y hy.out.1
              have KNg := Lib.hid (Fl.ok_neg y hy.out)
              generalize Fl.wordOf (!Fl.sg y) (Fl.rg y) = y2 at *
              cases s0
              · go_wp2_with fail
                go_returns
                exact ⟨y, rfl, Lib.hid ⟨hy.out, KF15.out⟩⟩
              · go_wp2_with fail
                go_returns
                exact ⟨y2, rfl, Lib.hid ⟨KNg.out, KF15.out⟩⟩
            · have q1 : (0 : Int) < (p : Int) := by omega
              obtain ⟨z2, hz2, hzo⟩ := Fl.ok_mul2 y hy.out
              have hm := mul2_run y z2 hz2
              have KZo := Lib.hid hzo
              clear hz2 hzo
              obtain ⟨p1, rfl⟩ : ∃ p1, p = p1 + 1 := ⟨p - 1, by omega⟩
              have q2 : ((p1 + 1 : Nat) : Int) - 1 = (p1 : Int) := by omega
              go_wp2_with fail
              go_roundw
              case rel => exact ⟨p1, z2, by omega, by simp, rfl, KZo, trivial⟩
              case measure => simp [intOf]
end Go.Proofs.YtldejfallphhbaaGreatDoor
