/-
  A part of the proof of FnMathWhole (packed out of smaller texts by a program of this session; what the proof does not reach is left out).
-/
import Derived.Test.YtldejfallphhbaaGreatDoorZq
import Derived.Deep.RegionHeld3
import Derived.BigRegion
import Derived.Deep.RegionWith
import Derived.Deep.DeepCutAuto
namespace Go.Proofs.YtldejfallphhbaaGreatDoor
set_option linter.unusedVariables false
open Go.RowKit
set_option maxRecDepth 100000 in
set_option maxHeartbeats 4000000 in
theorem law_main (x : Nat) (hx : x < 18446744073709551616) (hf : Fl.Fin x) (an : Bool) (A : Option Addr) (c : Nat) (l : List Int) (w : World) (hA : Rb w A c l) (hb : Ref.Byt l) (hl : l.length ≤ 300) :
    Calls Tryz.prog 3 #[.int .u64 (x : Int), .bool an, .slice A l.length c] w fun e w' => e = .returned (.bool true) ∧ Hid (Fr w w' No) := by
  have K6 := Lib.hid (ofS an A c l w hA hb hl)
  have KZ := Lib.hid (val_sm an hb hl)
  have KX := Lib.hid (And.intro hx hf)
  have hl' : (l.length : Int) ≤ 300 := by omega
  have h4 := e4 (x : Int)
  rw [Int.toNat_natCast] at h4
  clear hA hb hl hx hf
  generalize Ref.iv an (Ref.val l) = z at *
  generalize l.length = n0 at *
  have K5 := Lib.hid (fun v w wx (hv : Sp wx v z) (hF : Fr w wx No) => valN v z w wx hv KZ.out hF)
  have K7 := Lib.hid (fun w => fin_yes x KX.out.2 w)
  have C0 := Lib.hid (fun w wx h => ceilV x KX.out.1 KX.out.2 w wx h)
  have C1 := Lib.hid (fun w wx h => floorV x KX.out.1 KX.out.2 w wx h)
  have C2 := Lib.hid (fun w wx h => roundV x KX.out.1 w wx h)
  unfold vInt vFlt at *
  go_enter Tryz.func3, Tryz.ntmps3
  go_wp2_with fail
  with_reducible refine K6.out.mono ?_
  rintro e w1 ⟨s1, A1, n1, c1, rfl, H1⟩
  go_wp2_with fail
  with_reducible refine (K5.out _ _ _ H1.out.1 H1.out.2).mono ?_
  rintro e w2 ⟨s, A2, n2, c2, B2, d2, rfl, H2⟩
  go_upto_region 6 with fail
  generalize hW : World.alloc w2 _ = w3
  have KB8 := Lib.hid (By.new w2 (.int .i64 2) (.bool s) (.slice A2 n2 c2) (.int .u64 0) (.string ⟨#[]⟩) (.slice B2 0 d2))
  have F3 := Lib.hid (new40 w2 #[.int .i64 2, .bool s, .slice A2 n2 c2, .int .u64 0, .string ⟨#[]⟩, .slice B2 0 d2] 28)
  rw [hW] at KB8 F3
  have G3 := Lib.hid (H2.out.2.trans F3.out (fun _ _ _ c => c))
  clear hW
  generalize w2.heap.size = p8 at *
  go_wp2_with fail
  with_reducible refine (K7.out _).mono ?_
  rintro e w4 ⟨rfl, rfl⟩
  go_upto_region 9 with fail
  generalize hW : World.alloc w3 _ = w4
  have KB9 := Lib.hid (By.new w3 (.int .i64 3) (.bool false) (.slice none 0 0) (.int .u64 (x : Int)) (.string ⟨#[]⟩) (.slice none 0 0))
  have F4 := Lib.hid (new40 w3 #[.int .i64 3, .bool false, .slice none 0 0, .int .u64 (x : Int), .string ⟨#[]⟩, .slice none 0 0] 28)
  rw [hW] at KB9 F4
  have G4 := Lib.hid (G3.out.trans F4.out (fun _ _ _ c => c))
  clear hW
  generalize w3.heap.size = p9 at *
  obtain ⟨p0, p1, p2, p3, p4, p5⟩ := KB9.out
  go_wp2_with fail
  with_reducible refine (C0.out _ _ (Fr.refl _ _)).mono ?_
  rintro e w5 ⟨s5, A5, n5, c5, rfl, H5⟩
  go_upto_region 10 with fail
  generalize hW : World.alloc w5 _ = w6
  have KB10 := Lib.hid (By.new w5 (.int .i64 2) (.bool s5) (.slice A5 n5 c5) (.int .u64 0) (.string ⟨#[]⟩) (.slice none 0 0))
  have F := new40 w5 #[.int .i64 2, .bool s5, .slice A5 n5 c5, .int .u64 0, .string ⟨#[]⟩, .slice none 0 0] 28
  rw [hW] at KB10 F
  have G10 := Lib.hid (H5.out.2.trans F (fun _ _ _ c => c))
  have FF10 := Lib.hid F
  clear hW F
  generalize w5.heap.size = p10 at *
  clear p0 p1 p2 p3 p4 p5
  obtain ⟨p0, p1, p2, p3, p4, p5⟩ := KB9.out.fr G10.out
  go_wp2_with fail
  with_reducible refine (C1.out _ _ (Fr.refl _ _)).mono ?_
  rintro e w7 ⟨s7, A7, n7, c7, rfl, H7⟩
  go_upto_region 11 with fail
  generalize hW : World.alloc w7 _ = w8
  have KB12 := Lib.hid (By.new w7 (.int .i64 2) (.bool s7) (.slice A7 n7 c7) (.int .u64 0) (.string ⟨#[]⟩) (.slice none 0 0))
  have F := new40 w7 #[.int .i64 2, .bool s7, .slice A7 n7 c7, .int .u64 0, .string ⟨#[]⟩, .slice none 0 0] 28
  rw [hW] at KB12 F
  have G12 := Lib.hid (H7.out.2.trans F (fun _ _ _ c => c))
  have FF12 := Lib.hid F
  clear hW F
  generalize w7.heap.size = p12 at *
  clear p0 p1 p2 p3 p4 p5
  obtain ⟨p0, p1, p2, p3, p4, p5⟩ := KB9.out.fr (G10.out.trans G12.out (fun _ _ _ c => c))
  have KRB : Hid (∃ b, b = Fl.roundBits x) := Lib.hid ⟨_, rfl⟩
  go_wp2_with fail
  with_reducible refine (C2.out _ _ (Fr.refl _ _)).mono ?_
  rintro e w9 ⟨rfl, H9⟩
  go_upto_region 12 with fail
  generalize hW : World.alloc w9 _ = w10
  have KB14 := Lib.hid (By.new w9 (.int .i64 3) (.bool false) (.slice none 0 0) (.int .u64 ((Fl.roundBits x : Nat) : Int)) (.string ⟨#[]⟩) (.slice none 0 0))
  have F := new40 w9 #[.int .i64 3, .bool false, .slice none 0 0, .int .u64 ((Fl.roundBits x : Nat) : Int), .string ⟨#[]⟩, .slice none 0 0] 28
  rw [hW] at KB14 F
  have G14 := Lib.hid (H9.out.trans F (fun _ _ _ c => c))
  clear hW F
  generalize w9.heap.size = p14 at *
  clear p0 p1 p2 p3 p4 p5
  have GA := Lib.hid (G12.out.trans G14.out (fun _ _ _ c => c))
  have GB := Lib.hid (G10.out.trans GA.out (fun _ _ _ c => c))
  have G0 := Lib.hid (G4.out.trans GB.out (fun _ _ _ c => c))
  have K8 := Lib.hid (And.intro (KB8.out.fr (F4.out.trans GB.out (fun _ _ _ c => c))) (H2.out.1.fr ((F3.out.trans F4.out (fun _ _ _ c => c)).trans GB.out (fun _ _ _ c => c))))
  have K10 := Lib.hid (And.intro (KB10.out.fr GA.out) (H5.out.1.fr (FF10.out.trans GA.out (fun _ _ _ c => c))))
  have K12 := Lib.hid (And.intro (KB12.out.fr G14.out) (H7.out.1.fr (FF12.out.trans G14.out (fun _ _ _ c => c))))
  clear KB9 KB10 KB12 H1 H2 H5 H7 H9 F3 F4 G3 G4 G10 G12 G14 GA GB FF10 FF12 C0 C1 C2 K5 K6 K7 KB8 h4
  have SU := Lib.hid (And.intro (up_sm x KX.out.1 KX.out.2) (And.intro (dn_sm x KX.out.1 KX.out.2) (nr_sm x KX.out.1 KX.out.2)))
  have M10 := Lib.hid (fun wx h => upS x KX.out.1 KX.out.2 w10 wx h)
  have M11 := Lib.hid (fun wx h => downS x KX.out.1 KX.out.2 w10 wx h)
  have M5a := Lib.hid (fun v wx (hv : Sp wx v (Up x)) (hF : Fr w10 wx No) => valV v (Up x) w10 wx hv SU.out.1 hF)
  have M5b := Lib.hid (fun v wx (hv : Sp wx v (Dn x)) (hF : Fr w10 wx No) => valV v (Dn x) w10 wx hv SU.out.2.1 hF)
  have M9a := Lib.hid (fun u v wx (hu : Vi wx u (Up x)) (hv : Vi wx v (Up x)) (hF : Fr w10 wx No) => sameV u v (Up x) w10 wx hu hv SU.out.1 hF)
  have M9b := Lib.hid (fun u v wx (hu : Vi wx u (Dn x)) (hv : Vi wx v (Dn x)) (hF : Fr w10 wx No) => sameV u v (Dn x) w10 wx hu hv SU.out.2.1 hF)
  obtain ⟨p0, p1, p2, p3, p4, p5⟩ := K10.out.1
  obtain ⟨q0, q1, q2, q3, q4, q5⟩ := K12.out.1
  unfold vInt at *
  go_cut [79] (fun s79 wx => s79 = .bool false ∧ Hid (Fr w10 wx No))
  case first =>
    have mk : Hid (∀ w', Fr w10 w' No → (w'.cell? ⟨p10, 0, none⟩ = some (.int .i64 2) ∧ w'.cell? ⟨p10, 1, none⟩ = some (.bool s5) ∧ w'.cell? ⟨p10, 2, none⟩ = some (.slice A5 n5 c5) ∧ w'.cell? ⟨p10, 3, none⟩ = some (.int .u64 0) ∧ w'.cell? ⟨p10, 4, none⟩ = some (.string ⟨#[]⟩) ∧ w'.cell? ⟨p10, 5, none⟩ = some (.slice none 0 0) ∧ w'.cell? ⟨p12, 0, none⟩ = some (.int .i64 2) ∧ w'.cell? ⟨p12, 1, none⟩ = some (.bool s7) ∧ w'.cell? ⟨p12, 2, none⟩ = some (.slice A7 n7 c7) ∧ w'.cell? ⟨p12, 3, none⟩ = some (.int .u64 0) ∧ w'.cell? ⟨p12, 4, none⟩ = some (.string ⟨#[]⟩) ∧ w'.cell? ⟨p12, 5, none⟩ = some (.slice none 0 0))) := Lib.hid (fun w' h => ⟨h.keep p0 (fun c => c), h.keep p1 (fun c => c), h.keep p2 (fun c => c), h.keep p3 (fun c => c), h.keep p4 (fun c => c), h.keep p5 (fun c => c), h.keep q0 (fun c => c), h.keep q1 (fun c => c), h.keep q2 (fun c => c), h.keep q3 (fun c => c), h.keep q4 (fun c => c), h.keep q5 (fun c => c)⟩)
    go_region_held3 (fun w' => w'.cell? ⟨p10, 0, none⟩ = some (.int .i64 2) ∧ w'.cell? ⟨p10, 1, none⟩ = some (.bool s5) ∧ w'.cell? ⟨p10, 2, none⟩ = some (.slice A5 n5 c5) ∧ w'.cell? ⟨p10, 3, none⟩ = some (.int .u64 0) ∧ w'.cell? ⟨p10, 4, none⟩ = some (.string ⟨#[]⟩) ∧ w'.cell? ⟨p10, 5, none⟩ = some (.slice none 0 0) ∧ w'.cell? ⟨p12, 0, none⟩ = some (.int .i64 2) ∧ w'.cell? ⟨p12, 1, none⟩ = some (.bool s7) ∧ w'.cell? ⟨p12, 2, none⟩ = some (.slice A7 n7 c7) ∧ w'.cell? ⟨p12, 3, none⟩ = some (.int .u64 0) ∧ w'.cell? ⟨p12, 4, none⟩ = some (.string ⟨#[]⟩) ∧ w'.cell? ⟨p12, 5, none⟩ = some (.slice none 0 0)) (first | exact mk.out _ (Fr.refl _ _) | exact mk.out _ ((Fr.refl _ _).drew) | exact mk.out _ J6.out | exact mk.out _ J6.out.drew | exact mk.out _ J5.out.2 | exact mk.out _ J5.out.2.drew | exact mk.out _ J4.out.2 | exact mk.out _ J4.out.2.drew | exact mk.out _ J3.out | exact mk.out _ J3.out.drew | exact mk.out _ J2.out.2 | exact mk.out _ J2.out.2.drew | exact mk.out _ J1.out.2 | exact mk.out _ J1.out.2.drew)
      (first
        | (go_at_call 10; with_reducible refine (M10.out _ (by first | exact Fr.refl _ _ | exact (Fr.refl _ _).drew)).mono ?_; rintro e z1 ⟨t1, T1, m1, k1, rfl, J1⟩)
        | (go_at_call 5; with_reducible refine (M5a.out _ _ (by first | exact J1.out.1 | exact J1.out.1.fr ((Fr.refl _ No).drew)) (by first | exact J1.out.2 | exact J1.out.2.drew)).mono ?_; rintro e z2 ⟨t2, T2, m2, k2, B2', d2', rfl, J2⟩)
        | (go_at_call 9; with_reducible refine (M9a.out _ _ _ (by first | exact K10.out.2.fr J2.out.2 | exact K10.out.2.fr J2.out.2.drew) (by first | exact J2.out.1 | exact J2.out.1.fr ((Fr.refl _ No).drew)) (by first | exact J2.out.2 | exact J2.out.2.drew)).mono ?_; rintro e z3 ⟨rfl, J3⟩)
        | (go_at_call 11; with_reducible refine (M11.out _ (by first | exact J3.out | exact J3.out.drew)).mono ?_; rintro e z4 ⟨t4, T4, m4, k4, rfl, J4⟩)
        | (go_at_call 5; with_reducible refine (M5b.out _ _ (by first | exact J4.out.1 | exact J4.out.1.fr ((Fr.refl _ No).drew)) (by first | exact J4.out.2 | exact J4.out.2.drew)).mono ?_; rintro e z5 ⟨t5, T5, m5, k5, B5', d5', rfl, J5⟩)
        | (go_at_call 9; with_reducible refine (M9b.out _ _ _ (by first | exact K12.out.2.fr J5.out.2 | exact K12.out.2.fr J5.out.2.drew) (by first | exact J5.out.1 | exact J5.out.1.fr ((Fr.refl _ No).drew)) (by first | exact J5.out.2 | exact J5.out.2.drew)).mono ?_; rintro e z6 ⟨rfl, J6⟩))
    all_goals
      go_wp2_with fail
      go_meet
      case rel => exact ⟨by simp, Lib.hid (by first | exact J6.out | exact J6.out.drew)⟩
  case rest =>
    obtain ⟨rfl, KF⟩ := hcut
    rename World => w11
    have N11 := Lib.hid (fun wx h => nearS x KX.out.1 KX.out.2 w11 wx h)
    have M5c := Lib.hid (fun v wx (hv : Sp wx v (Nr x)) (hF : Fr w11 wx No) => valV v (Nr x) w11 wx hv SU.out.2.2 hF)
    have M12 := Lib.hid (fun v wx (hv : Vi wx v (Nr x)) (hF : Fr w11 wx No) => eqNear x v w11 wx KX.out.1 KX.out.2 hv hF)
    unfold vFlt at *
    clear p0 p1 p2 p3 p4 p5 q0 q1 q2 q3 q4 q5
    obtain ⟨p0, p1, p2, p3, p4, p5⟩ := KB14.out.fr KF.out
    go_upto_region 14 with fail
    go_cut [85] (fun s85 wx => s85 = .bool false ∧ Hid (Fr w11 wx No))
    case first =>
      have mk : Hid (∀ w', Fr w11 w' No → (w'.cell? ⟨p14, 0, none⟩ = some (.int .i64 3) ∧ w'.cell? ⟨p14, 1, none⟩ = some (.bool false) ∧ w'.cell? ⟨p14, 2, none⟩ = some (.slice none 0 0) ∧ w'.cell? ⟨p14, 3, none⟩ = some (.int .u64 ((Fl.roundBits x : Nat) : Int)) ∧ w'.cell? ⟨p14, 4, none⟩ = some (.string ⟨#[]⟩) ∧ w'.cell? ⟨p14, 5, none⟩ = some (.slice none 0 0))) := Lib.hid (fun w' h => ⟨h.keep p0 (fun c => c), h.keep p1 (fun c => c), h.keep p2 (fun c => c), h.keep p3 (fun c => c), h.keep p4 (fun c => c), h.keep p5 (fun c => c)⟩)
      go_region_held3 (fun w' => w'.cell? ⟨p14, 0, none⟩ = some (.int .i64 3) ∧ w'.cell? ⟨p14, 1, none⟩ = some (.bool false) ∧ w'.cell? ⟨p14, 2, none⟩ = some (.slice none 0 0) ∧ w'.cell? ⟨p14, 3, none⟩ = some (.int .u64 ((Fl.roundBits x : Nat) : Int)) ∧ w'.cell? ⟨p14, 4, none⟩ = some (.string ⟨#[]⟩) ∧ w'.cell? ⟨p14, 5, none⟩ = some (.slice none 0 0)) (first | exact mk.out _ (Fr.refl _ _) | exact mk.out _ ((Fr.refl _ _).drew) | exact mk.out _ J3.out | exact mk.out _ J3.out.drew | exact mk.out _ J2.out.2 | exact mk.out _ J2.out.2.drew | exact mk.out _ J1.out.2 | exact mk.out _ J1.out.2.drew)
        (first
          | (go_at_call 13; with_reducible refine (N11.out _ (by first | exact Fr.refl _ _ | exact (Fr.refl _ _).drew)).mono ?_; rintro e z1 ⟨t1, T1, m1, k1, rfl, J1⟩)
          | (go_at_call 5; with_reducible refine (M5c.out _ _ (by first | exact J1.out.1 | exact J1.out.1.fr ((Fr.refl _ No).drew)) (by first | exact J1.out.2 | exact J1.out.2.drew)).mono ?_; rintro e z2 ⟨t2, T2, m2, k2, B2', d2', rfl, J2⟩)
          | (go_at_call 12; with_reducible refine (M12.out _ _ (by first | exact J2.out.1 | exact J2.out.1.fr ((Fr.refl _ No).drew)) (by first | exact J2.out.2 | exact J2.out.2.drew)).mono ?_; rintro e z3 ⟨rfl, J3⟩))
      all_goals
        go_wp2_with fail
        go_meet
        case rel => exact ⟨by simp, Lib.hid (by first | exact J3.out | exact J3.out.drew)⟩
    case rest =>
      obtain ⟨rfl, KG⟩ := hcut
      rename World => w12
      have GG := Lib.hid (KF.out.trans KG.out (fun _ _ _ c => c))
      have G12 := Lib.hid (G0.out.trans GG.out (fun _ _ _ c => c))
      have KN := Lib.hid (K8.out.2.fr GG.out)
      have KB := Lib.hid (K8.out.1.fr GG.out)
      clear p0 p1 p2 p3 p4 p5
      obtain ⟨p0, p1, p2, p3, p4, p5⟩ := KB.out
      have KA := Lib.hid (arg_c _ z w12 KN.out.vi KN.out.big)
      unfold vIn at *
      go_wp2_with fail
      with_reducible refine KA.out.mono ?_
      rintro e w13 ⟨y, b, rfl, H13⟩
      cases b
      · go_wp2_with fail
        go_returns
        exact ⟨rfl, Lib.hid (G12.out.trans H13.out.2 (fun _ _ _ c => c))⟩
      · go_wp2_with fail
        generalize hW : World.alloc w13 _ = w14
        have ce0 := cell_new w13 #[.int .i64 0, .int .i64 1, .int .i64 2] 3 0 _ rfl
        have ce1 := cell_new w13 #[.int .i64 0, .int .i64 1, .int .i64 2] 3 1 _ rfl
        have ce2 := cell_new w13 #[.int .i64 0, .int .i64 1, .int .i64 2] 3 2 _ rfl
        have F := new40 w13 #[.int .i64 0, .int .i64 1, .int .i64 2] 3
        rw [hW] at ce0 ce1 ce2 F
        have F14 := Lib.hid (H13.out.2.trans F (fun _ _ _ c => c))
        have CC : Hid (∀ k : Nat, k < 3 → w14.cell? ⟨w13.heap.size, k, none⟩ = some (.int .i64 (k : Int))) := Lib.hid (fun k hk => by
          rcases (by omega : k = 0 ∨ k = 1 ∨ k = 2) with rfl | rfl | rfl
          · exact ce0
          · exact ce1
          · exact ce2)
        have KO := Lib.hid (fun (k : Nat) (hk : k < 3) wx (h : Fr w14 wx No) => oneV k hk s A2 n2 c2 B2 d2 z y w14 wx (KN.out.fr F14.out) H13.out.1 h)
        have KB2 := Lib.hid (KB.out.fr F14.out)
        have GZ := Lib.hid (G12.out.trans F14.out (fun _ _ _ c => c))
        unfold vIn at *
        clear hW ce0 ce1 ce2 F p0 p1 p2 p3 p4 p5
        generalize w13.heap.size = pb at *
        go_loopw [95] (fun v95 wr => ∃ k : Nat, k ≤ 3 ∧ v95 = .int .i64 k ∧ Hid (Fr w14 wr No)) (fun v95 _ => 3 - (intOf v95).toNat)
        case atStart => exact ⟨0, by omega, rfl, Lib.hid (Fr.refl _ _)⟩
        case round =>
          obtain ⟨k, hk, rfl, HR⟩ := hrel
          by_cases hlt : k < 3
          · have ck := HR.out.keep (CC.out k hlt) (fun c => c)
            obtain ⟨p0, p1, p2, p3, p4, p5⟩ := KB2.out.fr HR.out
            have K1 := Lib.hid (KO.out k hlt _ HR.out)
            go_wp2_with fail
            with_reducible refine K1.out.mono ?_
            rintro e w15 ⟨K, t, T, m, q, X, rfl, H15⟩
            clear ck p0 p1 p2 p3 p4 p5
            go_upto_region 23 with fail
            generalize hW : World.alloc w15 _ = w16
            have KB20 := By.new w15 (.int .i64 K) (.bool t) (.slice T m q) (.int .u64 X) (.string ⟨#[]⟩) (.slice none 0 0)
            have F := new40 w15 #[.int .i64 K, .bool t, .slice T m q, .int .u64 X, .string ⟨#[]⟩, .slice none 0 0] 28
            rw [hW] at KB20 F
            have K2 := Lib.hid (H15.out.1 _ F)
            have F16 := Lib.hid (H15.out.2.trans F (fun _ _ _ c => c))
            clear hW F
            generalize w15.heap.size = p20 at *
            obtain ⟨p0, p1, p2, p3, p4, p5⟩ := KB2.out.fr F16.out
            obtain ⟨q0, q1, q2, q3, q4, q5⟩ := KB20
            go_wp2_with fail
            with_reducible refine K2.out.mono ?_
            rintro e w17 ⟨rfl, H17⟩
            have HZ := Lib.hid (H15.out.2.trans H17.out (fun _ _ _ c => c))
            go_wp2_with fail
            go_roundw
            case rel => exact ⟨k + 1, by omega, by go_num, HZ⟩
            case measure => simp [intOf]; omega
          · obtain rfl : k = 3 := by omega
            clear hlt
            go_wp2_with fail
            go_returns
            exact ⟨rfl, Lib.hid (GZ.out.trans HR.out (fun _ _ _ c => c))⟩
end Go.Proofs.YtldejfallphhbaaGreatDoor
namespace Go.Proofs.YtldejfallphhbaaGreatDoor
set_option linter.unusedVariables false
open Go.RowKit
set_option maxRecDepth 100000 in
set_option maxHeartbeats 2000000 in
theorem law_c (x : Nat) (hx : x < 18446744073709551616) (an : Bool) (A : Option Addr) (c : Nat) (l : List Int) (w : World) (hA : Rb w A c l) (hb : Ref.Byt l) :
    Calls Tryz.prog 3 #[.int .u64 (x : Int), .bool an, .slice A l.length c] w fun e w' => e = .returned (.bool true) ∧ Hid (Fr w w' No) := by
  by_cases h1 : l.length ≤ 2147483647
  · by_cases h2 : l.length ≤ 300
    · by_cases hf : Fl.Fin x
      · exact law_main x hx hf an A c l w hA hb h2
      · have K6 := Lib.hid (ofS an A c l w hA hb h2)
        have KZ := Lib.hid (val_sm an hb h2)
        have hl' : (l.length : Int) ≤ 300 := by omega
        have h4 := e4 (x : Int)
        rw [Int.toNat_natCast] at h4
        have K7 := Lib.hid (fun w => fin_no x (by unfold Fl.Fin Fl.rg at hf; omega) w)
        clear hA hb h1 h2 hx hf
        generalize Ref.iv an (Ref.val l) = z at *
        generalize l.length = n0 at *
        have K5 := Lib.hid (fun v w wx (hv : Sp wx v z) (hF : Fr w wx No) => valN v z w wx hv KZ.out hF)
        go_enter Tryz.func3, Tryz.ntmps3
        go_wp2_with fail
        with_reducible refine K6.out.mono ?_
        rintro e w1 ⟨s1, A1, n1, c1, rfl, H1⟩
        go_wp2_with fail
        with_reducible refine (K5.out _ _ _ H1.out.1 H1.out.2).mono ?_
        rintro e w2 ⟨s, A2, n2, c2, B2, d2, rfl, H2⟩
        go_upto_region 6 with fail
        generalize hW : World.alloc w2 _ = w3
        have F3 := Lib.hid (new40 w2 #[.int .i64 2, .bool s, .slice A2 n2 c2, .int .u64 0, .string ⟨#[]⟩, .slice B2 0 d2] 28)
        rw [hW] at F3
        have G3 := Lib.hid (H2.out.2.trans F3.out (fun _ _ _ c => c))
        clear hW
        generalize w2.heap.size = p8 at *
        go_wp2_with fail
        with_reducible refine (K7.out _).mono ?_
        rintro e w4 ⟨rfl, rfl⟩
        go_wp2_with fail
        go_returns
        exact ⟨rfl, G3⟩
    · have hl1 : (l.length : Int) ≤ 2147483647 := by omega
      have hl2 : (300 : Int) < (l.length : Int) := by omega
      clear hA hb h1 h2
      generalize l.length = n0 at *
      go_enter Tryz.func3, Tryz.ntmps3
      go_wp2_with fail
      go_returns
      exact ⟨rfl, Lib.hid (Fr.refl _ _)⟩
  · have hl' : (2147483647 : Int) < (l.length : Int) := by omega
    clear hA hb h1
    generalize l.length = n0 at *
    go_enter Tryz.func3, Tryz.ntmps3
    go_wp2_with fail
    go_returns
    exact ⟨rfl, Lib.hid (Fr.refl _ _)⟩
end Go.Proofs.YtldejfallphhbaaGreatDoor
