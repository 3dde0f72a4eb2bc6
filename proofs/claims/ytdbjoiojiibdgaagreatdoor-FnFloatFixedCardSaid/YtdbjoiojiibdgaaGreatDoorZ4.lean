/-
  A part of the proof of FnFloatFixed (packed out of smaller texts by a program of this session; what the proof does not reach is left out).
-/
import Derived.Test.YtdbjoiojiibdgaaGreatDoorZ3
namespace Go.Proofs.YtdbjoiojiibdgaaGreatDoor.PFixed
open Go.RowKit Go.Proofs.YtdbjoiojiibdgaaGreatDoorW.PrintWords Go.Proofs.YtdbjoiojiibdgaaGreatDoorW.PrintLast Go.Proofs.YtdbjoiojiibdgaaGreatDoorW.PrintMore
attribute [local go_sem] max2_int min2_int max_two min_two max_three min_three max_four min_four
set_option linter.unusedVariables false
set_option linter.unusedSimpArgs false
def spec_less.l0 : Nat → List Int → List Int → List Int → Int → Int → Option (List Int)
  | 0, _, _, _, _, _ => none
  | k + 1, x0, x1, x5, x6, x7 => if x7 < (x0.length : Int) then ((spec_digit.f x0 x7).bind fun t217 => ((spec_digit.f x1 x7).bind fun t218 => (if (wrap64 ((wrap64 (t217 - t218)) - x6)) < 0 then (if 0 ≤ (wrap64 ((wrap64 ((x0.length : Int) - 1)) - x7)) then (if (wrap64 ((wrap64 ((x0.length : Int) - 1)) - x7)) < (x5.length : Int) then (spec_less.l0 k x0 x1 (x5.set ((wrap64 ((wrap64 ((x0.length : Int) - 1)) - x7)) : Int).toNat ((wrap64 ((wrap64 ((wrap64 (t217 - t218)) - x6)) + 256)) % 256)) 1 (wrap64 (x7 + 1))) else (none)) else (none)) else (if 0 ≤ (wrap64 ((wrap64 ((x0.length : Int) - 1)) - x7)) then (if (wrap64 ((wrap64 ((x0.length : Int) - 1)) - x7)) < (x5.length : Int) then (spec_less.l0 k x0 x1 (x5.set ((wrap64 ((wrap64 ((x0.length : Int) - 1)) - x7)) : Int).toNat ((wrap64 ((wrap64 (t217 - t218)) - x6)) % 256)) 0 (wrap64 (x7 + 1))) else (none)) else (none))))) else ((spec_cut.f k x5).bind fun t214 => (some t214))
def spec_less.f (k : Nat) (l0 : List Int) (l1 : List Int) : Option (List Int) := if 0 ≤ (l0.length : Int) then (if ((l0.length : Int) : Int).toNat ≤ 281474976710656 then (spec_less.l0 k l0 l1 (List.replicate ((l0.length : Int) : Int).toNat 0) 0 0) else (none)) else (none)
set_option maxHeartbeats 8000000 in
set_option maxRecDepth 100000 in
theorem spec_less.calls (k : Nat) (A0 : Option Addr) (c0 : Nat) (l0 : List Int) (A1 : Option Addr) (c1 : Nat) (l1 : List Int) (r : List Int) (w : World) (hr0 : Kd.C (Kd.int .u8) w A0 l0.length l0) (hc0 : l0.length ≤ c0) (hr1 : Kd.C (Kd.int .u8) w A1 l1.length l1) (hc1 : l1.length ≤ c1) (h : spec_less.f k l0 l1 = some r) :
    Calls Tryz.prog 45 #[.slice A0 l0.length c0, .slice A1 l1.length c1] w fun e w' => ∃ v0_ : Value, e = .returned (v0_) ∧ Kd.R (Kd.int .u8) 5 w' w.heap.size (fun _ => True) v0_ r ∧ Below w.heap.size w w' := by
  have HR0 := Aside0.mk hr0
  have HC0 := Aside0.mk hc0
  clear hr0 hc0
  have HR1 := Aside0.mk hr1
  have HC1 := Aside0.mk hc1
  clear hr1 hc1
  have HB := Aside0.mk (Below.refl w.heap.size w)
  have H : (if 0 ≤ (l0.length : Int) then (if ((l0.length : Int) : Int).toNat ≤ 281474976710656 then (spec_less.l0 k l0 l1 (List.replicate ((l0.length : Int) : Int).toNat 0) 0 0) else (none)) else (none)) = some r := h
  clear h
  by_cases c3 : 0 ≤ (l0.length : Int)
  · rw [if_pos c3] at H
    have c3b0 := eq_true c3
    have c3b1 : decide (0 ≤ (l0.length : Int)) = true := decide_eq_true c3
    clear c3
    by_cases c4 : ((l0.length : Int) : Int).toNat ≤ 281474976710656
    · rw [if_pos c4] at H
      have c4b0 := eq_true c4
      have c4b1 : decide (((l0.length : Int) : Int).toNat ≤ 281474976710656) = true := decide_eq_true c4
      clear c4
      obtain ⟨y211, hy211⟩ : ∃ y_ : List Int, y_ = (List.replicate ((l0.length : Int) : Int).toNat 0) := ⟨_, rfl⟩
      replace H : (spec_less.l0 k l0 l1 y211 0 0) = some r := by first | (rw [hy211]; with_reducible exact H) | (have H2_ := (Option.bind_some _ _).symm.trans H; rw [hy211]; with_reducible exact H2_) | (have H2_ := (Option.bind_some _ _).symm.trans H; with_reducible exact H2_) | with_reducible exact H | (rw [hy211]; exact H) | exact H
      have Ny211 := Aside0.mk hy211
      clear hy211
      have H' := Aside0.mk H
      clear H
      go_enter Tryz.func45, Tryz.ntmps45
      go_wp2_with (first | ((with_reducible refine gate_dst (N := 11) rfl ?_); refine Kd.R_make (Kd.int .u8) _ 5 rfl (N := 11) rfl 35 _ _ rfl (l0.length : Int) rfl rfl Tryz.underlying35 (.int .u8 0) 1 info5 rfl (by decide) (by omega) 0 (ok := fun _ => True) (okp := fun _ => True) rfl (fun _ hk => hk) trivial (of_decide_eq_true (by first | (with_reducible assumption) | assumption)) (Nat.le_trans (Nat.mul_le_mul_right _ (of_decide_eq_true (by first | (with_reducible assumption) | assumption) : (l0.length : Int).toNat ≤ 281474976710656)) (by omega)) (Below.refl _ _) (Nat.le_refl _) ?_; intro v212 w5 ho6 hb hg_ hnew_; clear hg_ hnew_; (first | rw [← Ny211.out] at ho6 | (simp only [Int.reduceToNat] at ho6; rw [← Ny211.out] at ho6)); have n0_ := Aside0.mk (Kd.R_lower ho6 (below_size (by repeat (first | (with_reducible first | exact HB.out | apply below_alloc | apply pw_below_drewN | apply below_drew1) | exact HB.out)))); have n1_ := Aside0.mk (below_step (by repeat (first | (with_reducible first | exact HB.out | apply below_alloc | apply pw_below_drewN | apply below_drew1) | exact HB.out)) hb); clear HB; have HO213 := n0_; have HB := n1_; clear n0_ n1_; clear hb ho6))
      go_loopg [6, 7] k (fun kq v6 v7 w' => ∃ (x5_1 : List Int) (x6_1 : Int) (x7_1 : Int), v6 = .int .i64 x6_1 ∧ v7 = .int .i64 x7_1 ∧ Aside0 (spec_less.l0 kq l0 l1 x5_1 x6_1 x7_1 = some r) ∧ Aside0 (kq ≤ k) ∧ Aside0 (Kd.R (Kd.int .u8) 5 w' w.heap.size (fun _ => True) v212 x5_1) ∧ Aside0 (Below w.heap.size w w'))
      case atStart => exact ⟨(y211), (0), (0), (by first | rfl | (simp; done) | (simp [*]; done)), (by first | rfl | (simp; done) | (simp [*]; done)), H', ⟨Nat.le_refl _⟩, ⟨by (with_reducible repeat (first | apply Kd.R_alloc | apply Kd.R_drewN | apply Kd.R_drew)); exact HO213.out⟩, ⟨by repeat (first | (with_reducible first | exact HB.out | apply below_alloc | apply pw_below_drewN | apply below_drew1) | exact HB.out)⟩⟩
      case round =>
        clear H'
        try clear c1
        try clear p2
        try clear c3
        try clear c3b0
        try clear c3b1
        try clear c4
        try clear c4b0
        try clear c4b1
        obtain ⟨x5_1, x6_1, x7_1, rfl, rfl, HA, HK1, HO_5, HB⟩ := hrel
        cases gk with
        | zero => exact absurd HA.out (by simp [spec_less.l0])
        | succ k1 =>
          have H := HA.out
          clear HA
          simp only [spec_less.l0] at H
          by_cases c7 : x7_1 < (l0.length : Int)
          · rw [if_pos c7] at H
            have c7b0 : decide (x7_1 < (l0.length : Int)) = true := decide_eq_true c7
            clear c7
            replace H := Option.bind_eq_some_iff.mp H
            obtain ⟨t217, A80, H⟩ := H
            replace H : ((spec_digit.f l1 x7_1).bind fun t218 => (if (wrap64 ((wrap64 (t217 - t218)) - x6_1)) < 0 then (if 0 ≤ (wrap64 ((wrap64 ((l0.length : Int) - 1)) - x7_1)) then (if (wrap64 ((wrap64 ((l0.length : Int) - 1)) - x7_1)) < (x5_1.length : Int) then (spec_less.l0 k1 l0 l1 (x5_1.set ((wrap64 ((wrap64 ((l0.length : Int) - 1)) - x7_1)) : Int).toNat ((wrap64 ((wrap64 ((wrap64 (t217 - t218)) - x6_1)) + 256)) % 256)) 1 (wrap64 (x7_1 + 1))) else (none)) else (none)) else (if 0 ≤ (wrap64 ((wrap64 ((l0.length : Int) - 1)) - x7_1)) then (if (wrap64 ((wrap64 ((l0.length : Int) - 1)) - x7_1)) < (x5_1.length : Int) then (spec_less.l0 k1 l0 l1 (x5_1.set ((wrap64 ((wrap64 ((l0.length : Int) - 1)) - x7_1)) : Int).toNat ((wrap64 ((wrap64 (t217 - t218)) - x6_1)) % 256)) 0 (wrap64 (x7_1 + 1))) else (none)) else (none)))) = some r := H
            have A8 := Aside0.mk A80
            clear A80
            replace H := Option.bind_eq_some_iff.mp H
            obtain ⟨t218, A90, H⟩ := H
            replace H : (if (wrap64 ((wrap64 (t217 - t218)) - x6_1)) < 0 then (if 0 ≤ (wrap64 ((wrap64 ((l0.length : Int) - 1)) - x7_1)) then (if (wrap64 ((wrap64 ((l0.length : Int) - 1)) - x7_1)) < (x5_1.length : Int) then (spec_less.l0 k1 l0 l1 (x5_1.set ((wrap64 ((wrap64 ((l0.length : Int) - 1)) - x7_1)) : Int).toNat ((wrap64 ((wrap64 ((wrap64 (t217 - t218)) - x6_1)) + 256)) % 256)) 1 (wrap64 (x7_1 + 1))) else (none)) else (none)) else (if 0 ≤ (wrap64 ((wrap64 ((l0.length : Int) - 1)) - x7_1)) then (if (wrap64 ((wrap64 ((l0.length : Int) - 1)) - x7_1)) < (x5_1.length : Int) then (spec_less.l0 k1 l0 l1 (x5_1.set ((wrap64 ((wrap64 ((l0.length : Int) - 1)) - x7_1)) : Int).toNat ((wrap64 ((wrap64 (t217 - t218)) - x6_1)) % 256)) 0 (wrap64 (x7_1 + 1))) else (none)) else (none))) = some r := H
            have A9 := Aside0.mk A90
            clear A90
            by_cases c10 : (wrap64 ((wrap64 (t217 - t218)) - x6_1)) < 0
            · rw [if_pos c10] at H
              have c10b0 : decide ((wrap64 ((wrap64 (t217 - t218)) - x6_1)) < 0) = true := decide_eq_true c10
              clear c10
              obtain ⟨ji11, hji11⟩ : ∃ j_ : Int, (wrap64 ((wrap64 ((l0.length : Int) - 1)) - x7_1)) = j_ := ⟨_, rfl⟩
              replace H : (if 0 ≤ (ji11) then (if (ji11) < (x5_1.length : Int) then (spec_less.l0 k1 l0 l1 (x5_1.set ((ji11) : Int).toNat ((wrap64 ((wrap64 ((wrap64 (t217 - t218)) - x6_1)) + 256)) % 256)) 1 (wrap64 (x7_1 + 1))) else (none)) else (none)) = some r := by first | (rw [hji11] at H; exact H) | (simp only [hji11] at H ⊢; exact H)
              (try rw [hji11] at A8)
              (try rw [hji11] at A9)
              have hji11w : (IntKind.i64.wrap ((wrap64 ((l0.length : Int) - 1)) - x7_1)) = ji11 := (i64_w _).trans hji11
              by_cases c12 : 0 ≤ (ji11)
              · rw [if_pos c12] at H
                have c12b0 : decide (0 ≤ (ji11)) = true := decide_eq_true c12
                clear c12
                by_cases c13 : (ji11) < (x5_1.length : Int)
                · rw [if_pos c13] at H
                  have c13b0 : decide ((ji11) < (x5_1.length : Int)) = true := decide_eq_true c13
                  clear c13
                  obtain ⟨y219, hy219⟩ : ∃ y_ : List Int, y_ = (x5_1.set ((ji11) : Int).toNat ((wrap64 ((wrap64 ((wrap64 (t217 - t218)) - x6_1)) + 256)) % 256)) := ⟨_, rfl⟩
                  replace H : (spec_less.l0 k1 l0 l1 y219 1 (wrap64 (x7_1 + 1))) = some r := by first | (rw [hy219]; with_reducible exact H) | (have H2_ := (Option.bind_some _ _).symm.trans H; rw [hy219]; with_reducible exact H2_) | (have H2_ := (Option.bind_some _ _).symm.trans H; with_reducible exact H2_) | with_reducible exact H | (rw [hy219]; exact H) | exact H
                  have Ny219 := Aside0.mk hy219
                  clear hy219
                  have H' := Aside0.mk H
                  clear H
                  go_wp2_with (first | ((with_reducible refine gate_callee (f := 35) rfl ?_); refine goesL_ (some 20) rfl rfl Tryz.func35 (by kernel_rfl) rfl #[.slice A0 l0.length c0, .int .i64 x7_1] rfl (by (try simp only [List.map_toArray, List.map_cons, List.map_nil]); first | done | rfl | (simp only [List.length_drop, List.length_take]; rfl)) ?_; (with_reducible refine (spec_digit.calls _ _ l0 x7_1 t217 _ ?side1 ?side2 A8.out).mono ?_); (case side1 => repeat (first | exact (Kd.C_below HR0.out HB.out) | (with_reducible refine Kd.C_alloc ?_ _) | (with_reducible refine Kd.C_drewN ?_ _) | (with_reducible refine Kd.C_drew ?_))); (case side2 => exact HC0.out); rintro e w' ⟨rfl, ⟨nd, rfl⟩⟩; refine ⟨_, rfl, ?_⟩; (try (rw [drewN_self wr]; generalize hq_ : World.drewN wr _ = wr; have n0_ : Aside0 (Kd.R (Kd.int .u8) 5 wr w.heap.size (fun _ => True) v212 x5_1) := ⟨by rw [← hq_]; exact (by (with_reducible repeat (first | apply Kd.R_alloc | apply Kd.R_drewN | apply Kd.R_drew)); exact HO_5.out)⟩; have n1_ : Aside0 (Below w.heap.size w wr) := ⟨by rw [← hq_]; exact (by repeat (first | (with_reducible first | exact HB.out | apply below_alloc | apply pw_below_drewN | apply below_drew1) | exact HB.out))⟩; clear HO_5 HB hq_; have HO_5 := n0_; have HB := n1_; clear n0_ n1_))) | ((with_reducible refine gate_callee (f := 35) rfl ?_); refine goesL_ (some 23) rfl rfl Tryz.func35 (by kernel_rfl) rfl #[.slice A1 l1.length c1, .int .i64 x7_1] rfl (by (try simp only [List.map_toArray, List.map_cons, List.map_nil]); first | done | rfl | (simp only [List.length_drop, List.length_take]; rfl)) ?_; (with_reducible refine (spec_digit.calls _ _ l1 x7_1 t218 _ ?side1 ?side2 A9.out).mono ?_); (case side1 => repeat (first | exact (Kd.C_below HR1.out HB.out) | (with_reducible refine Kd.C_alloc ?_ _) | (with_reducible refine Kd.C_drewN ?_ _) | (with_reducible refine Kd.C_drew ?_))); (case side2 => exact HC1.out); rintro e w' ⟨rfl, ⟨nd, rfl⟩⟩; refine ⟨_, rfl, ?_⟩; (try (rw [drewN_self wr]; generalize hq_ : World.drewN wr _ = wr; have n0_ : Aside0 (Kd.R (Kd.int .u8) 5 wr w.heap.size (fun _ => True) v212 x5_1) := ⟨by rw [← hq_]; exact (by (with_reducible repeat (first | apply Kd.R_alloc | apply Kd.R_drewN | apply Kd.R_drew)); exact HO_5.out)⟩; have n1_ : Aside0 (Below w.heap.size w wr) := ⟨by rw [← hq_]; exact (by repeat (first | (with_reducible first | exact HB.out | apply below_alloc | apply pw_below_drewN | apply below_drew1) | exact HB.out))⟩; clear HO_5 HB hq_; have HO_5 := n0_; have HB := n1_; clear n0_ n1_)); have p14 : 0 ≤ ((ji11) : Int) := of_decide_eq_true (by first | (with_reducible assumption) | assumption); have q14 : ((ji11) : Int) < ((x5_1.length : Int) : Int) := of_decide_eq_true (by first | (with_reducible assumption) | assumption); obtain ⟨go14, co14, eo14, gb14, gl14, cl14, HG14⟩ := Kd.R_form HO_5.out (by omega); (first | cases eo14 | (injection eo14 with ea_ en_ ec_; (first | subst ea_ | (injection ea_ with ea_; subst ea_)); subst ec_; clear en_)); have GB14 := Aside0.mk gb14; have GG14 := Aside0.mk HG14; clear gb14 gl14 HG14; obtain ⟨hx14_0, hf14_0⟩ := Kd.R_celln 0 HO_5.out ((ji11) : Int) p14 q14; replace p14 := eq_true p14; replace q14 := eq_true q14; obtain ⟨hy15_, hz15_⟩ := Kd.R_celln 0 HO_5.out ((ji11) : Int) (of_decide_eq_true (by first | (with_reducible assumption) | assumption)) (of_decide_eq_true (by first | (with_reducible assumption) | assumption)); have HP15 := Kd.R_putg HO_5.out ((ji11) : Int) ((wrap64 ((wrap64 ((wrap64 (t217 - t218)) - x6_1)) + 256)) % 256)) | ((with_reducible refine gate_store (t := 5) (p := 39) rfl ?_); refine store_event (t := 5) (p := 39) (v := ?vo_w16) (w1 := (wr.setCell ⟨go14, ((ji11) : Int).toNat, none⟩ (.int .u8 ((wrap64 ((wrap64 ((wrap64 (t217 - t218)) - x6_1)) + 256)) % 256)))) ?hg ?ho ?hn ?hr ?_; (case ho => rfl); (case hg => rfl); (case hn => rfl); (case hr => first | (go_simp; done) | (go_simp; rfl)); intro w16 hw; have hg : wr.grownBy w16 (some go14) := (by rw [hw]; exact HP15.2); have hp_ : Kd.R (Kd.int .u8) 5 w16 w.heap.size (fun _ => True) (.slice (some ⟨go14, 0, none⟩) x5_1.length co14) y219 := (by rw [hw, Ny219.out]; exact HP15.1); clear HP15; have n0_ := Aside0.mk (hp_); have n1_ := Aside0.mk ((by rw [hw]; exact below_set (HB.out) GB14.out : Below w.heap.size w w16)); clear HO_5; clear HB; have HO_5 := n0_; have HB := n1_; clear n0_ n1_; clear hg hw hp_))
                  go_roundg k1
                  case measure => have := HK1.out; omega
                  case rel => exact ⟨(y219), (1), (wrap64 (x7_1 + 1)), (by first | rfl | (simp; done) | (simp [*]; done)), (by first | rfl | (simp; done) | (simp [*]; done)), H', ⟨by have := HK1.out; omega⟩, ⟨by (with_reducible repeat (first | apply Kd.R_alloc | apply Kd.R_drewN | apply Kd.R_drew)); exact HO_5.out⟩, ⟨by repeat (first | (with_reducible first | exact HB.out | apply below_alloc | apply pw_below_drewN | apply below_drew1) | exact HB.out)⟩⟩
                · rw [if_neg c13] at H
                  exact absurd H (by simp)
              · rw [if_neg c12] at H
                exact absurd H (by simp)
            · rw [if_neg c10] at H
              have c10b0 : decide ((wrap64 ((wrap64 (t217 - t218)) - x6_1)) < 0) = false := decide_eq_false c10
              clear c10
              obtain ⟨ji17, hji17⟩ : ∃ j_ : Int, (wrap64 ((wrap64 ((l0.length : Int) - 1)) - x7_1)) = j_ := ⟨_, rfl⟩
              replace H : (if 0 ≤ (ji17) then (if (ji17) < (x5_1.length : Int) then (spec_less.l0 k1 l0 l1 (x5_1.set ((ji17) : Int).toNat ((wrap64 ((wrap64 (t217 - t218)) - x6_1)) % 256)) 0 (wrap64 (x7_1 + 1))) else (none)) else (none)) = some r := by first | (rw [hji17] at H; exact H) | (simp only [hji17] at H ⊢; exact H)
              (try rw [hji17] at A8)
              (try rw [hji17] at A9)
              have hji17w : (IntKind.i64.wrap ((wrap64 ((l0.length : Int) - 1)) - x7_1)) = ji17 := (i64_w _).trans hji17
              by_cases c18 : 0 ≤ (ji17)
              · rw [if_pos c18] at H
                have c18b0 : decide (0 ≤ (ji17)) = true := decide_eq_true c18
                clear c18
                by_cases c19 : (ji17) < (x5_1.length : Int)
                · rw [if_pos c19] at H
                  have c19b0 : decide ((ji17) < (x5_1.length : Int)) = true := decide_eq_true c19
                  clear c19
                  obtain ⟨y220, hy220⟩ : ∃ y_ : List Int, y_ = (x5_1.set ((ji17) : Int).toNat ((wrap64 ((wrap64 (t217 - t218)) - x6_1)) % 256)) := ⟨_, rfl⟩
                  replace H : (spec_less.l0 k1 l0 l1 y220 0 (wrap64 (x7_1 + 1))) = some r := by first | (rw [hy220]; with_reducible exact H) | (have H2_ := (Option.bind_some _ _).symm.trans H; rw [hy220]; with_reducible exact H2_) | (have H2_ := (Option.bind_some _ _).symm.trans H; with_reducible exact H2_) | with_reducible exact H | (rw [hy220]; exact H) | exact H
                  have Ny220 := Aside0.mk hy220
                  clear hy220
                  have H' := Aside0.mk H
                  clear H
                  go_wp2_with (first | ((with_reducible refine gate_callee (f := 35) rfl ?_); refine goesL_ (some 20) rfl rfl Tryz.func35 (by kernel_rfl) rfl #[.slice A0 l0.length c0, .int .i64 x7_1] rfl (by (try simp only [List.map_toArray, List.map_cons, List.map_nil]); first | done | rfl | (simp only [List.length_drop, List.length_take]; rfl)) ?_; (with_reducible refine (spec_digit.calls _ _ l0 x7_1 t217 _ ?side1 ?side2 A8.out).mono ?_); (case side1 => repeat (first | exact (Kd.C_below HR0.out HB.out) | (with_reducible refine Kd.C_alloc ?_ _) | (with_reducible refine Kd.C_drewN ?_ _) | (with_reducible refine Kd.C_drew ?_))); (case side2 => exact HC0.out); rintro e w' ⟨rfl, ⟨nd, rfl⟩⟩; refine ⟨_, rfl, ?_⟩; (try (rw [drewN_self wr]; generalize hq_ : World.drewN wr _ = wr; have n0_ : Aside0 (Kd.R (Kd.int .u8) 5 wr w.heap.size (fun _ => True) v212 x5_1) := ⟨by rw [← hq_]; exact (by (with_reducible repeat (first | apply Kd.R_alloc | apply Kd.R_drewN | apply Kd.R_drew)); exact HO_5.out)⟩; have n1_ : Aside0 (Below w.heap.size w wr) := ⟨by rw [← hq_]; exact (by repeat (first | (with_reducible first | exact HB.out | apply below_alloc | apply pw_below_drewN | apply below_drew1) | exact HB.out))⟩; clear HO_5 HB hq_; have HO_5 := n0_; have HB := n1_; clear n0_ n1_))) | ((with_reducible refine gate_callee (f := 35) rfl ?_); refine goesL_ (some 23) rfl rfl Tryz.func35 (by kernel_rfl) rfl #[.slice A1 l1.length c1, .int .i64 x7_1] rfl (by (try simp only [List.map_toArray, List.map_cons, List.map_nil]); first | done | rfl | (simp only [List.length_drop, List.length_take]; rfl)) ?_; (with_reducible refine (spec_digit.calls _ _ l1 x7_1 t218 _ ?side1 ?side2 A9.out).mono ?_); (case side1 => repeat (first | exact (Kd.C_below HR1.out HB.out) | (with_reducible refine Kd.C_alloc ?_ _) | (with_reducible refine Kd.C_drewN ?_ _) | (with_reducible refine Kd.C_drew ?_))); (case side2 => exact HC1.out); rintro e w' ⟨rfl, ⟨nd, rfl⟩⟩; refine ⟨_, rfl, ?_⟩; (try (rw [drewN_self wr]; generalize hq_ : World.drewN wr _ = wr; have n0_ : Aside0 (Kd.R (Kd.int .u8) 5 wr w.heap.size (fun _ => True) v212 x5_1) := ⟨by rw [← hq_]; exact (by (with_reducible repeat (first | apply Kd.R_alloc | apply Kd.R_drewN | apply Kd.R_drew)); exact HO_5.out)⟩; have n1_ : Aside0 (Below w.heap.size w wr) := ⟨by rw [← hq_]; exact (by repeat (first | (with_reducible first | exact HB.out | apply below_alloc | apply pw_below_drewN | apply below_drew1) | exact HB.out))⟩; clear HO_5 HB hq_; have HO_5 := n0_; have HB := n1_; clear n0_ n1_)); have p20 : 0 ≤ ((ji17) : Int) := of_decide_eq_true (by first | (with_reducible assumption) | assumption); have q20 : ((ji17) : Int) < ((x5_1.length : Int) : Int) := of_decide_eq_true (by first | (with_reducible assumption) | assumption); obtain ⟨go20, co20, eo20, gb20, gl20, cl20, HG20⟩ := Kd.R_form HO_5.out (by omega); (first | cases eo20 | (injection eo20 with ea_ en_ ec_; (first | subst ea_ | (injection ea_ with ea_; subst ea_)); subst ec_; clear en_)); have GB20 := Aside0.mk gb20; have GG20 := Aside0.mk HG20; clear gb20 gl20 HG20; obtain ⟨hx20_0, hf20_0⟩ := Kd.R_celln 0 HO_5.out ((ji17) : Int) p20 q20; replace p20 := eq_true p20; replace q20 := eq_true q20; obtain ⟨hy21_, hz21_⟩ := Kd.R_celln 0 HO_5.out ((ji17) : Int) (of_decide_eq_true (by first | (with_reducible assumption) | assumption)) (of_decide_eq_true (by first | (with_reducible assumption) | assumption)); have HP21 := Kd.R_putg HO_5.out ((ji17) : Int) ((wrap64 ((wrap64 (t217 - t218)) - x6_1)) % 256)) | ((with_reducible refine gate_store (t := 5) (p := 39) rfl ?_); refine store_event (t := 5) (p := 39) (v := ?vo_w22) (w1 := (wr.setCell ⟨go20, ((ji17) : Int).toNat, none⟩ (.int .u8 ((wrap64 ((wrap64 (t217 - t218)) - x6_1)) % 256)))) ?hg ?ho ?hn ?hr ?_; (case ho => rfl); (case hg => rfl); (case hn => rfl); (case hr => first | (go_simp; done) | (go_simp; rfl)); intro w22 hw; have hg : wr.grownBy w22 (some go20) := (by rw [hw]; exact HP21.2); have hp_ : Kd.R (Kd.int .u8) 5 w22 w.heap.size (fun _ => True) (.slice (some ⟨go20, 0, none⟩) x5_1.length co20) y220 := (by rw [hw, Ny220.out]; exact HP21.1); clear HP21; have n0_ := Aside0.mk (hp_); have n1_ := Aside0.mk ((by rw [hw]; exact below_set (HB.out) GB20.out : Below w.heap.size w w22)); clear HO_5; clear HB; have HO_5 := n0_; have HB := n1_; clear n0_ n1_; clear hg hw hp_))
                  go_roundg k1
                  case measure => have := HK1.out; omega
                  case rel => exact ⟨(y220), (0), (wrap64 (x7_1 + 1)), (by first | rfl | (simp; done) | (simp [*]; done)), (by first | rfl | (simp; done) | (simp [*]; done)), H', ⟨by have := HK1.out; omega⟩, ⟨by (with_reducible repeat (first | apply Kd.R_alloc | apply Kd.R_drewN | apply Kd.R_drew)); exact HO_5.out⟩, ⟨by repeat (first | (with_reducible first | exact HB.out | apply below_alloc | apply pw_below_drewN | apply below_drew1) | exact HB.out)⟩⟩
                · rw [if_neg c19] at H
                  exact absurd H (by simp)
              · rw [if_neg c18] at H
                exact absurd H (by simp)
          · rw [if_neg c7] at H
            have c7b0 : decide (x7_1 < (l0.length : Int)) = false := decide_eq_false c7
            clear c7
            replace H := Option.bind_eq_some_iff.mp H
            obtain ⟨t214, A230, H⟩ := H
            replace H : (some t214) = some r := H
            have A23 := Aside0.mk A230
            clear A230
            obtain rfl := Option.some.inj H
            obtain ⟨Ao24, co24, eo24⟩ := Kd.R_slice HO_5.out
            subst eo24
            go_wp2_with (first | ((with_reducible refine gate_callee (f := 32) rfl ?_); refine goesL_ (some 41) rfl rfl Tryz.func32 (by kernel_rfl) rfl #[.slice Ao24 x5_1.length co24] rfl (by (try simp only [List.map_toArray, List.map_cons, List.map_nil]); first | done | rfl | (simp only [List.length_drop, List.length_take]; rfl)) ?_; (with_reducible refine (spec_cut.calls k1 _ _ x5_1 t214 _ ?side1 ?side2 A23.out).mono ?_); (case side1 => repeat (first | exact (Kd.R_reads' HO_5.out).2.2 | (with_reducible refine Kd.C_alloc ?_ _) | (with_reducible refine Kd.C_drewN ?_ _) | (with_reducible refine Kd.C_drew ?_))); (case side2 => exact (Kd.R_reads' HO_5.out).2.1); rintro e w25 ⟨v215, rfl, ho0, hb⟩; refine ⟨_, rfl, ?_⟩; have n0_ := Aside0.mk (Kd.R_elder' (by (with_reducible repeat (first | apply Kd.R_alloc | apply Kd.R_drewN | apply Kd.R_drew)); exact HO_5.out) (Kd.R_base ho0) hb); have n1_ := Aside0.mk (Kd.R_lower (Kd.R_new' ho0 (Kd.R_lt (by (with_reducible repeat (first | apply Kd.R_alloc | apply Kd.R_drewN | apply Kd.R_drew)); exact HO_5.out))) (below_size (by repeat (first | (with_reducible first | exact HB.out | apply below_alloc | apply pw_below_drewN | apply below_drew1) | exact HB.out)))); have n2_ := Aside0.mk (below_step (by repeat (first | (with_reducible first | exact HB.out | apply below_alloc | apply pw_below_drewN | apply below_drew1) | exact HB.out)) hb); clear HO_5; clear HB; have HO_5 := n0_; have HO216 := n1_; have HB := n2_; clear n0_ n1_ n2_; (try clear hb); (try clear hb2); (try clear hk); (try clear hi); (try clear ho0)))
            go_ret
            exact ⟨_, by first | rfl | (simp [errW_none, errW_some] <;> rfl) | (simp [*, errW_none, errW_some] <;> rfl), by (with_reducible repeat (first | apply Kd.R_alloc | apply Kd.R_drewN | apply Kd.R_drew)); exact Kd.R_mono HO216.out (fun _ hk => trivial), by repeat (first | (with_reducible first | exact HB.out | apply below_alloc | apply pw_below_drewN | apply below_drew1) | exact HB.out)⟩
    · rw [if_neg c4] at H
      exact absurd H (by simp)
  · rw [if_neg c3] at H
    exact absurd H (by simp)
def spec_order.l0 : Nat → List Int → List Int → Int → Option (Int)
  | 0, _, _, _ => none
  | k + 1, x0, x1, x5 => if x5 < (x0.length : Int) then (if 0 ≤ x5 then (if x5 < (x1.length : Int) then (if (rd x0 x5) = (rd x1 x5) then (spec_order.l0 k x0 x1 (wrap64 (x5 + 1))) else (if (rd x0 x5) < (rd x1 x5) then (some (-1)) else (some 1))) else (none)) else (none)) else (some 0)
def spec_order.f (k : Nat) (l0 : List Int) (l1 : List Int) : Option (Int) := if (l0.length : Int) = (l1.length : Int) then (spec_order.l0 k l0 l1 0) else (if (l0.length : Int) < (l1.length : Int) then (some (-1)) else (some 1))
set_option maxHeartbeats 8000000 in
set_option maxRecDepth 100000 in
theorem spec_order.calls (k : Nat) (A0 : Option Addr) (c0 : Nat) (l0 : List Int) (A1 : Option Addr) (c1 : Nat) (l1 : List Int) (r : Int) (w : World) (hr0 : Kd.C (Kd.int .u8) w A0 l0.length l0) (hc0 : l0.length ≤ c0) (hr1 : Kd.C (Kd.int .u8) w A1 l1.length l1) (hc1 : l1.length ≤ c1) (h : spec_order.f k l0 l1 = some r) :
    Calls Tryz.prog 46 #[.slice A0 l0.length c0, .slice A1 l1.length c1] w fun e w' => e = .returned (.int .i64 r) ∧ Drawn0 w w' := by
  have HR0 := Aside0.mk hr0
  have HC0 := Aside0.mk hc0
  clear hr0 hc0
  have HR1 := Aside0.mk hr1
  have HC1 := Aside0.mk hc1
  clear hr1 hc1
  have H : (if (l0.length : Int) = (l1.length : Int) then (spec_order.l0 k l0 l1 0) else (if (l0.length : Int) < (l1.length : Int) then (some (-1)) else (some 1))) = some r := h
  clear h
  by_cases c3 : (l0.length : Int) = (l1.length : Int)
  · rw [if_pos c3] at H
    have c3b0 : ((l0.length : Int) == (l1.length : Int)) = true := beq_iff_eq.mpr c3
    have c3b1 : ((l0.length : Int) != (l1.length : Int)) = false := bne_eq_false_iff_eq.mpr c3
    have c3b2 : (l0.length == l1.length) = true := by first | simpa using c3 | (simp at c3 ⊢; omega)
    clear c3
    have H' := Aside0.mk H
    clear H
    go_enter Tryz.func46, Tryz.ntmps46
    go_wp2
    repeat (go_quiet (fail); try go_wp2)
    go_loopg [5] k (fun kq v5 w' => ∃ (x5_1 : Int), v5 = .int .i64 x5_1 ∧ Aside0 (spec_order.l0 kq l0 l1 x5_1 = some r) ∧ Aside0 (kq ≤ k) ∧ Drawn0 w w')
    case atStart => exact ⟨(0), (by first | rfl | (simp; done) | (simp [*]; done)), H', ⟨Nat.le_refl _⟩, by repeat (first | exact Drawn0.refl _ | apply Drawn0.step)⟩
    case round =>
      clear H'
      try clear c1
      try clear p2
      try clear c3
      try clear c3b0
      try clear c3b1
      try clear c3b2
      obtain ⟨x5_1, rfl, HA, HK1, ⟨m1, rfl⟩⟩ := hrel
      cases gk with
      | zero => exact absurd HA.out (by simp [spec_order.l0])
      | succ k1 =>
        have H := HA.out
        clear HA
        simp only [spec_order.l0] at H
        by_cases c4 : x5_1 < (l0.length : Int)
        · rw [if_pos c4] at H
          have c4b0 : decide (x5_1 < (l0.length : Int)) = true := decide_eq_true c4
          clear c4
          by_cases c5 : 0 ≤ x5_1
          · rw [if_pos c5] at H
            have c5b0 : decide (0 ≤ x5_1) = true := decide_eq_true c5
            clear c5
            by_cases c6 : x5_1 < (l1.length : Int)
            · rw [if_pos c6] at H
              have c6b0 : decide (x5_1 < (l1.length : Int)) = true := decide_eq_true c6
              clear c6
              by_cases c7 : (rd l0 x5_1) = (rd l1 x5_1)
              · rw [if_pos c7] at H
                have c7b0 : ((rd l0 x5_1) == (rd l1 x5_1)) = true := beq_iff_eq.mpr c7
                have c7b1 : ((rd l0 x5_1) != (rd l1 x5_1)) = false := bne_eq_false_iff_eq.mpr c7
                clear c7
                have H' := Aside0.mk H
                clear H
                have p221 : 0 ≤ (x5_1 : Int) := of_decide_eq_true (by first | (with_reducible assumption) | assumption)
                have q221 : x5_1 < (l0.length : Int) := of_decide_eq_true (by first | (with_reducible assumption) | assumption)
                obtain ⟨ad221, e221, hx221_0⟩ := Kd.at_int HR0.out x5_1 p221 q221
                cases e221
                replace p221 := eq_true p221
                replace q221 := eq_true q221
                have p222 : 0 ≤ (x5_1 : Int) := of_decide_eq_true (by first | (with_reducible assumption) | assumption)
                have q222 : x5_1 < (l1.length : Int) := of_decide_eq_true (by first | (with_reducible assumption) | assumption)
                obtain ⟨ad222, e222, hx222_0⟩ := Kd.at_int HR1.out x5_1 p222 q222
                cases e222
                replace p222 := eq_true p222
                replace q222 := eq_true q222
                go_wp2
                repeat (go_quiet (fail); try go_wp2)
                go_roundg k1
                case measure => have := HK1.out; omega
                case rel => exact ⟨(wrap64 (x5_1 + 1)), (by first | rfl | (simp; done) | (simp [*]; done)), H', ⟨by have := HK1.out; omega⟩, by repeat (first | exact Drawn0.refl _ | apply Drawn0.step)⟩
              · rw [if_neg c7] at H
                have c7b0 : ((rd l0 x5_1) == (rd l1 x5_1)) = false := beq_eq_false_iff_ne.mpr c7
                have c7b1 : ((rd l0 x5_1) != (rd l1 x5_1)) = true := bne_iff_ne.mpr c7
                by_cases c8 : (rd l0 x5_1) < (rd l1 x5_1)
                · rw [if_pos c8] at H
                  have c8b0 : decide ((rd l0 x5_1) < (rd l1 x5_1)) = true := decide_eq_true c8
                  clear c8
                  obtain rfl := Option.some.inj H
                  have p221 : 0 ≤ (x5_1 : Int) := of_decide_eq_true (by first | (with_reducible assumption) | assumption)
                  have q221 : x5_1 < (l0.length : Int) := of_decide_eq_true (by first | (with_reducible assumption) | assumption)
                  obtain ⟨ad221, e221, hx221_0⟩ := Kd.at_int HR0.out x5_1 p221 q221
                  cases e221
                  replace p221 := eq_true p221
                  replace q221 := eq_true q221
                  have p222 : 0 ≤ (x5_1 : Int) := of_decide_eq_true (by first | (with_reducible assumption) | assumption)
                  have q222 : x5_1 < (l1.length : Int) := of_decide_eq_true (by first | (with_reducible assumption) | assumption)
                  obtain ⟨ad222, e222, hx222_0⟩ := Kd.at_int HR1.out x5_1 p222 q222
                  cases e222
                  replace p222 := eq_true p222
                  replace q222 := eq_true q222
                  have p223 : 0 ≤ (x5_1 : Int) := of_decide_eq_true (by first | (with_reducible assumption) | assumption)
                  have q223 : x5_1 < (l0.length : Int) := of_decide_eq_true (by first | (with_reducible assumption) | assumption)
                  obtain ⟨ad223, e223, hx223_0⟩ := Kd.at_int HR0.out x5_1 p223 q223
                  obtain rfl : ad221 = ad223 := (by injection e223)
                  replace p223 := eq_true p223
                  replace q223 := eq_true q223
                  have p224 : 0 ≤ (x5_1 : Int) := of_decide_eq_true (by first | (with_reducible assumption) | assumption)
                  have q224 : x5_1 < (l1.length : Int) := of_decide_eq_true (by first | (with_reducible assumption) | assumption)
                  obtain ⟨ad224, e224, hx224_0⟩ := Kd.at_int HR1.out x5_1 p224 q224
                  obtain rfl : ad222 = ad224 := (by injection e224)
                  replace p224 := eq_true p224
                  replace q224 := eq_true q224
                  go_wp2
                  repeat (go_quiet (fail); try go_wp2)
                  go_ret
                  exact ⟨by first | rfl | (simp; done) | (simp [*]; done), by repeat (first | exact Drawn0.refl _ | apply Drawn0.step)⟩
                · rw [if_neg c8] at H
                  have c8b0 : decide ((rd l0 x5_1) < (rd l1 x5_1)) = false := decide_eq_false c8
                  clear c8
                  obtain rfl := Option.some.inj H
                  have p221 : 0 ≤ (x5_1 : Int) := of_decide_eq_true (by first | (with_reducible assumption) | assumption)
                  have q221 : x5_1 < (l0.length : Int) := of_decide_eq_true (by first | (with_reducible assumption) | assumption)
                  obtain ⟨ad221, e221, hx221_0⟩ := Kd.at_int HR0.out x5_1 p221 q221
                  cases e221
                  replace p221 := eq_true p221
                  replace q221 := eq_true q221
                  have p222 : 0 ≤ (x5_1 : Int) := of_decide_eq_true (by first | (with_reducible assumption) | assumption)
                  have q222 : x5_1 < (l1.length : Int) := of_decide_eq_true (by first | (with_reducible assumption) | assumption)
                  obtain ⟨ad222, e222, hx222_0⟩ := Kd.at_int HR1.out x5_1 p222 q222
                  cases e222
                  replace p222 := eq_true p222
                  replace q222 := eq_true q222
                  have p223 : 0 ≤ (x5_1 : Int) := of_decide_eq_true (by first | (with_reducible assumption) | assumption)
                  have q223 : x5_1 < (l0.length : Int) := of_decide_eq_true (by first | (with_reducible assumption) | assumption)
                  obtain ⟨ad223, e223, hx223_0⟩ := Kd.at_int HR0.out x5_1 p223 q223
                  obtain rfl : ad221 = ad223 := (by injection e223)
                  replace p223 := eq_true p223
                  replace q223 := eq_true q223
                  have p224 : 0 ≤ (x5_1 : Int) := of_decide_eq_true (by first | (with_reducible assumption) | assumption)
                  have q224 : x5_1 < (l1.length : Int) := of_decide_eq_true (by first | (with_reducible assumption) | assumption)
                  obtain ⟨ad224, e224, hx224_0⟩ := Kd.at_int HR1.out x5_1 p224 q224
                  obtain rfl : ad222 = ad224 := (by injection e224)
                  replace p224 := eq_true p224
                  replace q224 := eq_true q224
                  go_wp2
                  repeat (go_quiet (fail); try go_wp2)
                  go_ret
                  exact ⟨by first | rfl | (simp; done) | (simp [*]; done), by repeat (first | exact Drawn0.refl _ | apply Drawn0.step)⟩
            · rw [if_neg c6] at H
              exact absurd H (by simp)
          · rw [if_neg c5] at H
            exact absurd H (by simp)
        · rw [if_neg c4] at H
          have c4b0 : decide (x5_1 < (l0.length : Int)) = false := decide_eq_false c4
          clear c4
          obtain rfl := Option.some.inj H
          go_wp2
          repeat (go_quiet (fail); try go_wp2)
          go_ret
          exact ⟨by first | rfl | (simp; done) | (simp [*]; done), by repeat (first | exact Drawn0.refl _ | apply Drawn0.step)⟩
  · rw [if_neg c3] at H
    have c3b0 : ((l0.length : Int) == (l1.length : Int)) = false := beq_eq_false_iff_ne.mpr c3
    have c3b1 : ((l0.length : Int) != (l1.length : Int)) = true := bne_iff_ne.mpr c3
    have c3b2 : (l0.length == l1.length) = false := by first | simpa using c3 | (simp at c3 ⊢; omega)
    by_cases c9 : (l0.length : Int) < (l1.length : Int)
    · rw [if_pos c9] at H
      have c9b0 : decide ((l0.length : Int) < (l1.length : Int)) = true := decide_eq_true c9
      have c9b1 : decide (l0.length < l1.length) = true := decide_eq_true (Int.ofNat_lt.mp c9)
      clear c9
      obtain rfl := Option.some.inj H
      go_enter Tryz.func46, Tryz.ntmps46
      go_wp2
      repeat (go_quiet (fail); try go_wp2)
      go_ret
      exact ⟨by first | rfl | (simp; done) | (simp [*]; done), by repeat (first | exact Drawn0.refl _ | apply Drawn0.step)⟩
    · rw [if_neg c9] at H
      have c9b0 : decide ((l0.length : Int) < (l1.length : Int)) = false := decide_eq_false c9
      have c9b1 : decide (l0.length < l1.length) = false := decide_eq_false (fun h => c9 (Int.ofNat_lt.mpr h))
      clear c9
      obtain rfl := Option.some.inj H
      go_enter Tryz.func46, Tryz.ntmps46
      go_wp2
      repeat (go_quiet (fail); try go_wp2)
      go_ret
      exact ⟨by first | rfl | (simp; done) | (simp [*]; done), by repeat (first | exact Drawn0.refl _ | apply Drawn0.step)⟩
def spec_bit.f (l0 : List Int) (a1 : Int) : Option (Int) := (spec_digit.f l0 (wrap64 (Int.tdiv a1 8))).bind fun t225 => (if 0 ≤ (IntKind.u64.wrap (Int.tmod a1 8)) then (some (Go.bits .and .i64 (shr .i64 t225 (IntKind.u64.wrap (Int.tmod a1 8))) 1)) else (none))
set_option maxHeartbeats 8000000 in
set_option maxRecDepth 100000 in
theorem spec_bit.calls (A0 : Option Addr) (c0 : Nat) (l0 : List Int) (a1 : Int) (r : Int) (w : World) (hr0 : Kd.C (Kd.int .u8) w A0 l0.length l0) (hc0 : l0.length ≤ c0) (h : spec_bit.f l0 a1 = some r) :
    Calls Tryz.prog 52 #[.slice A0 l0.length c0, .int .i64 a1] w fun e w' => e = .returned (.int .i64 r) ∧ Drawn0 w w' := by
  have HR0 := Aside0.mk hr0
  have HC0 := Aside0.mk hc0
  clear hr0 hc0
  have H : ((spec_digit.f l0 (wrap64 (Int.tdiv a1 8))).bind fun t225 => (if 0 ≤ (IntKind.u64.wrap (Int.tmod a1 8)) then (some (Go.bits .and .i64 (shr .i64 t225 (IntKind.u64.wrap (Int.tmod a1 8))) 1)) else (none))) = some r := h
  clear h
  replace H := Option.bind_eq_some_iff.mp H
  obtain ⟨t225, A30, H⟩ := H
  replace H : (if 0 ≤ (IntKind.u64.wrap (Int.tmod a1 8)) then (some (Go.bits .and .i64 (shr .i64 t225 (IntKind.u64.wrap (Int.tmod a1 8))) 1)) else (none)) = some r := H
  have A3 := Aside0.mk A30
  clear A30
  obtain ⟨ji4, hji4⟩ : ∃ j_ : Int, (IntKind.u64.wrap (Int.tmod a1 8)) = j_ := ⟨_, rfl⟩
  replace H : (if 0 ≤ (ji4) then (some (Go.bits .and .i64 (shr .i64 t225 (ji4)) 1)) else (none)) = some r := by first | (rw [hji4] at H; exact H) | (simp only [hji4] at H ⊢; exact H)
  (try rw [hji4] at A3)
  by_cases c5 : 0 ≤ (ji4)
  · rw [if_pos c5] at H
    have c5b0 := eq_true c5
    have c5b1 : decide (0 ≤ (ji4)) = true := decide_eq_true c5
    clear c5
    obtain ⟨ji6, hji6⟩ : ∃ j_ : Int, (shr .i64 t225 (ji4)) = j_ := ⟨_, rfl⟩
    replace H : (some (Go.bits .and .i64 (ji6) 1)) = some r := by first | (rw [hji6] at H; exact H) | (simp only [hji6] at H ⊢; exact H)
    (try rw [hji6] at A3)
    have hji6_ : (t225 / 2 ^ min (ji4).toNat 64) = ji6 := hji6
    have hji6z : (ji4) ≤ 64 → (t225 / 2 ^ (ji4).toNat) = ji6 := shr_small hji6
    obtain rfl := Option.some.inj H
    go_enter Tryz.func52, Tryz.ntmps52
    go_wp2_with (first | ((with_reducible refine gate_callee (f := 35) rfl ?_); refine goesL_ (some 8) rfl rfl Tryz.func35 (by kernel_rfl) rfl #[.slice A0 l0.length c0, .int .i64 (wrap64 (Int.tdiv a1 8))] rfl (by (try simp only [List.map_toArray, List.map_cons, List.map_nil]); first | done | rfl | (simp only [List.length_drop, List.length_take]; rfl)) ?_; (with_reducible refine (spec_digit.calls _ _ l0 (wrap64 (Int.tdiv a1 8)) t225 _ ?side1 ?side2 A3.out).mono ?_); (case side1 => repeat (first | exact HR0.out | (with_reducible refine Kd.C_alloc ?_ _) | (with_reducible refine Kd.C_drewN ?_ _) | (with_reducible refine Kd.C_drew ?_))); (case side2 => exact HC0.out); rintro e w' ⟨rfl, ⟨nd, rfl⟩⟩; refine ⟨_, rfl, ?_⟩))
    go_ret
    exact ⟨by first | rfl | (simp; done) | (simp only [← hji4, ← hji6] <;> (first | rfl | simp)) | (simp [*]; done), by repeat (first | exact Drawn0.refl _ | apply Drawn0.step)⟩
  · rw [if_neg c5] at H
    exact absurd H (by simp)
mutual
def spec_split.l0 : Nat → List Int → List Int → List Int → List Int → Int → Option (List Int × List Int)
  | 0, _, _, _, _, _ => none
  | k + 1, x0, x1, x6, x7, x8 => if x8 ≥ 0 then ((spec_sum.f k x7 x7).bind fun t235 => ((spec_bit.f x0 x8).bind fun t238 => (if t238 = 1 then ((spec_sum.f k t235 (([1] : List Int))).bind fun t242 => (spec_split.j1 k x0 x1 x6 t242 x8)) else (spec_split.j1 k x0 x1 x6 t235 x8)))) else ((spec_cut.f k x6).bind fun t232 => (some (t232, x7)))
def spec_split.j1 : Nat → List Int → List Int → List Int → List Int → Int → Option (List Int × List Int)
  | 0, _, _, _, _, _ => none
  | k + 1, x0, x1, x6, x7, x8 => (spec_order.f k x7 x1).bind fun t245 => (if t245 ≥ 0 then ((spec_less.f k x7 x1).bind fun t246 => (if 0 ≤ (wrap64 ((wrap64 ((x0.length : Int) - 1)) - (wrap64 (Int.tdiv x8 8)))) then (if (wrap64 ((wrap64 ((x0.length : Int) - 1)) - (wrap64 (Int.tdiv x8 8)))) < (x6.length : Int) then (if 0 ≤ (IntKind.u64.wrap (Int.tmod x8 8)) then (spec_split.l0 k x0 x1 (x6.set ((wrap64 ((wrap64 ((x0.length : Int) - 1)) - (wrap64 (Int.tdiv x8 8)))) : Int).toNat (Go.bits .or .u8 (rd x6 (wrap64 ((wrap64 ((x0.length : Int) - 1)) - (wrap64 (Int.tdiv x8 8))))) (shl .u8 1 (IntKind.u64.wrap (Int.tmod x8 8))))) t246 (wrap64 (x8 - 1))) else (none)) else (none)) else (none))) else (spec_split.l0 k x0 x1 x6 x7 (wrap64 (x8 - 1))))
end
def spec_split.f (k : Nat) (l0 : List Int) (l1 : List Int) : Option (List Int × List Int) := if 0 ≤ (l0.length : Int) then (if ((l0.length : Int) : Int).toNat ≤ 281474976710656 then (spec_split.l0 k l0 l1 (List.replicate ((l0.length : Int) : Int).toNat 0) (([] : List Int)) (wrap64 ((wrap64 (8 * (l0.length : Int))) - 1))) else (none)) else (none)
set_option maxHeartbeats 8000000 in
set_option maxRecDepth 100000 in
theorem spec_split.calls (k : Nat) (A0 : Option Addr) (c0 : Nat) (l0 : List Int) (A1 : Option Addr) (c1 : Nat) (l1 : List Int) (r1 : List Int) (r2 : List Int) (w : World) (hr0 : Kd.C (Kd.int .u8) w A0 l0.length l0) (hc0 : l0.length ≤ c0) (hr1 : Kd.C (Kd.int .u8) w A1 l1.length l1) (hc1 : l1.length ≤ c1) (h : spec_split.f k l0 l1 = some (r1, r2)) :
    Calls Tryz.prog 43 #[.slice A0 l0.length c0, .slice A1 l1.length c1] w fun e w' => ∃ v0_ v1_ : Value, e = .returned (.tuple #[v0_, v1_]) ∧ Kd.R (Kd.int .u8) 5 w' w.heap.size (fun k_ => some k_ ≠ (v1_ : Value).ownBlock) v0_ r1 ∧ Kd.R (Kd.int .u8) 5 w' w.heap.size (fun k_ => some k_ ≠ (v0_ : Value).ownBlock) v1_ r2 ∧ Below w.heap.size w w' := by
  have HR0 := Aside0.mk hr0
  have HC0 := Aside0.mk hc0
  clear hr0 hc0
  have HR1 := Aside0.mk hr1
  have HC1 := Aside0.mk hc1
  clear hr1 hc1
  have HB := Aside0.mk (Below.refl w.heap.size w)
  have H : (if 0 ≤ (l0.length : Int) then (if ((l0.length : Int) : Int).toNat ≤ 281474976710656 then (spec_split.l0 k l0 l1 (List.replicate ((l0.length : Int) : Int).toNat 0) (([] : List Int)) (wrap64 ((wrap64 (8 * (l0.length : Int))) - 1))) else (none)) else (none)) = some (r1, r2) := h
  clear h
  by_cases c3 : 0 ≤ (l0.length : Int)
  · rw [if_pos c3] at H
    have c3b0 := eq_true c3
    have c3b1 : decide (0 ≤ (l0.length : Int)) = true := decide_eq_true c3
    clear c3
    by_cases c4 : ((l0.length : Int) : Int).toNat ≤ 281474976710656
    · rw [if_pos c4] at H
      have c4b0 := eq_true c4
      have c4b1 : decide (((l0.length : Int) : Int).toNat ≤ 281474976710656) = true := decide_eq_true c4
      clear c4
      obtain ⟨y226, hy226⟩ : ∃ y_ : List Int, y_ = (List.replicate ((l0.length : Int) : Int).toNat 0) := ⟨_, rfl⟩
      replace H : (spec_split.l0 k l0 l1 y226 (([] : List Int)) (wrap64 ((wrap64 (8 * (l0.length : Int))) - 1))) = some (r1, r2) := by first | (rw [hy226]; with_reducible exact H) | (have H2_ := (Option.bind_some _ _).symm.trans H; rw [hy226]; with_reducible exact H2_) | (have H2_ := (Option.bind_some _ _).symm.trans H; with_reducible exact H2_) | with_reducible exact H | (rw [hy226]; exact H) | exact H
      have Ny226 := Aside0.mk hy226
      clear hy226
      obtain ⟨y229, hy229⟩ : ∃ y_ : List Int, y_ = (([] : List Int)) := ⟨_, rfl⟩
      replace H : (spec_split.l0 k l0 l1 y226 y229 (wrap64 ((wrap64 (8 * (l0.length : Int))) - 1))) = some (r1, r2) := by first | (rw [hy229]; with_reducible exact H) | (have H2_ := (Option.bind_some _ _).symm.trans H; rw [hy229]; with_reducible exact H2_) | (have H2_ := (Option.bind_some _ _).symm.trans H; with_reducible exact H2_) | with_reducible exact H | (rw [hy229]; exact H) | exact H
      have Ny229 := Aside0.mk hy229
      clear hy229
      have H' := Aside0.mk H
      clear H
      go_enter Tryz.func43, Tryz.ntmps43
      go_wp2_with (first | ((with_reducible refine gate_dst (N := 11) rfl ?_); refine Kd.R_make (Kd.int .u8) _ 5 rfl (N := 11) rfl 35 _ _ rfl (l0.length : Int) rfl rfl Tryz.underlying35 (.int .u8 0) 1 info5 rfl (by decide) (by omega) 0 (ok := fun _ => True) (okp := fun _ => True) rfl (fun _ hk => hk) trivial (of_decide_eq_true (by first | (with_reducible assumption) | assumption)) (Nat.le_trans (Nat.mul_le_mul_right _ (of_decide_eq_true (by first | (with_reducible assumption) | assumption) : (l0.length : Int).toNat ≤ 281474976710656)) (by omega)) (Below.refl _ _) (Nat.le_refl _) ?_; intro v227 w5 ho6 hb hg_ hnew_; clear hg_ hnew_; (first | rw [← Ny226.out] at ho6 | (simp only [Int.reduceToNat] at ho6; rw [← Ny226.out] at ho6)); have n0_ := Aside0.mk (Kd.R_lower ho6 (below_size (by repeat (first | (with_reducible first | exact HB.out | apply below_alloc | apply pw_below_drewN | apply below_drew1) | exact HB.out)))); have n1_ := Aside0.mk (below_step (by repeat (first | (with_reducible first | exact HB.out | apply below_alloc | apply pw_below_drewN | apply below_drew1) | exact HB.out)) hb); clear HB; have HO228 := n0_; have HB := n1_; clear n0_ n1_; clear hb ho6) | ((with_reducible refine gate_dst (N := 12) rfl ?_); refine Kd.R_lit (Kd.int .u8) _ 5 ?hg (N := 12) ?hd (xs := ([] : List Int)) (inner := []) (ok := fun _ => True) (okp := fun _ => True) ?hr ?hp (fun _ hk => hk) trivial (Below.refl _ _) (Nat.le_refl _) (by simp) ?_; (case hd => rfl); (case hg => rfl); (case hr => first | (go_simp; done) | (go_simp; rfl)); (case hp => exact (Reps.none _ _)); intro v230 w7 ho8 hb hg_ hnew_; clear hg_ hnew_; (first | rw [← Ny229.out] at ho8 | (simp only [Int.reduceToNat] at ho8; rw [← Ny229.out] at ho8)); have n0_ := Aside0.mk (Kd.R_elder' (by (with_reducible repeat (first | apply Kd.R_alloc | apply Kd.R_drewN | apply Kd.R_drew)); exact HO228.out) (Kd.R_base ho8) hb); have n1_ := Aside0.mk (Kd.R_lower (Kd.R_new' ho8 (Kd.R_lt (by (with_reducible repeat (first | apply Kd.R_alloc | apply Kd.R_drewN | apply Kd.R_drew)); exact HO228.out))) (below_size (by repeat (first | (with_reducible first | exact HB.out | apply below_alloc | apply pw_below_drewN | apply below_drew1) | exact HB.out)))); have n2_ := Aside0.mk (below_step (by repeat (first | (with_reducible first | exact HB.out | apply below_alloc | apply pw_below_drewN | apply below_drew1) | exact HB.out)) hb); clear HO228; clear HB; have HO228 := n0_; have HO231 := n1_; have HB := n2_; clear n0_ n1_ n2_; clear hb ho8))
      go_loopg [7, 8] k (fun kq v7 v8 w' => ∃ (x6_1 : List Int) (x7_1 : List Int) (x8_1 : Int), v8 = .int .i64 x8_1 ∧ Aside0 (spec_split.l0 kq l0 l1 x6_1 x7_1 x8_1 = some (r1, r2)) ∧ Aside0 (kq ≤ k) ∧ Aside0 (Kd.R (Kd.int .u8) 5 w' w.heap.size (fun k_ => some k_ ≠ (v7 : Value).ownBlock) v227 x6_1) ∧ Aside0 (Kd.R (Kd.int .u8) 5 w' w.heap.size (fun k_ => some k_ ≠ (v227 : Value).ownBlock) v7 x7_1) ∧ Aside0 (Below w.heap.size w w'))
      case atStart => exact ⟨(y226), (y229), (wrap64 ((wrap64 (8 * (l0.length : Int))) - 1)), (by first | rfl | (simp; done) | (simp [*]; done)), H', ⟨Nat.le_refl _⟩, ⟨by (with_reducible repeat (first | apply Kd.R_alloc | apply Kd.R_drewN | apply Kd.R_drew)); exact Kd.R_mono HO228.out (fun _ hk => hk.2)⟩, ⟨by (with_reducible repeat (first | apply Kd.R_alloc | apply Kd.R_drewN | apply Kd.R_drew)); exact Kd.R_mono HO231.out (fun _ hk => hk.2)⟩, ⟨by repeat (first | (with_reducible first | exact HB.out | apply below_alloc | apply pw_below_drewN | apply below_drew1) | exact HB.out)⟩⟩
      case round =>
        clear H'
        try clear c1
        try clear p2
        try clear c3
        try clear c3b0
        try clear c3b1
        try clear c4
        try clear c4b0
        try clear c4b1
        try clear p6
        obtain ⟨x6_1, x7_1, x8_1, rfl, HA, HK1, HO_6, HO_7, HB⟩ := hrel
        cases gk with
        | zero => exact absurd HA.out (by simp [spec_split.l0])
        | succ k1 =>
          have H := HA.out
          clear HA
          simp only [spec_split.l0] at H
          by_cases c9 : x8_1 ≥ 0
          · rw [if_pos c9] at H
            have c9b0 : decide (0 ≤ x8_1) = true := decide_eq_true c9
            clear c9
            replace H := Option.bind_eq_some_iff.mp H
            obtain ⟨t235, A100, H⟩ := H
            replace H : ((spec_bit.f l0 x8_1).bind fun t238 => (if t238 = 1 then ((spec_sum.f k1 t235 (([1] : List Int))).bind fun t242 => (spec_split.j1 k1 l0 l1 x6_1 t242 x8_1)) else (spec_split.j1 k1 l0 l1 x6_1 t235 x8_1))) = some (r1, r2) := H
            have A10 := Aside0.mk A100
            clear A100
            replace H := Option.bind_eq_some_iff.mp H
            obtain ⟨t238, A110, H⟩ := H
            replace H : (if t238 = 1 then ((spec_sum.f k1 t235 (([1] : List Int))).bind fun t242 => (spec_split.j1 k1 l0 l1 x6_1 t242 x8_1)) else (spec_split.j1 k1 l0 l1 x6_1 t235 x8_1)) = some (r1, r2) := H
            have A11 := Aside0.mk A110
            clear A110
            have HC12 := Aside0.mk H
            clear H
            obtain ⟨Ao13, co13, eo13⟩ := Kd.R_slice HO_7.out
            subst eo13
            go_upto_if 27 with (first | ((with_reducible refine gate_callee (f := 44) rfl ?_); refine goesL_ (some 23) rfl rfl Tryz.func44 (by kernel_rfl) rfl #[.slice Ao13 x7_1.length co13, .slice Ao13 x7_1.length co13] rfl (by (try simp only [List.map_toArray, List.map_cons, List.map_nil]); first | done | rfl | (simp only [List.length_drop, List.length_take]; rfl)) ?_; (with_reducible refine (spec_sum.calls k1 _ _ x7_1 _ _ x7_1 t235 _ ?side1 ?side2 ?side3 ?side4 A10.out).mono ?_); (case side1 => repeat (first | exact (Kd.R_reads' HO_7.out).2.2 | (with_reducible refine Kd.C_alloc ?_ _) | (with_reducible refine Kd.C_drewN ?_ _) | (with_reducible refine Kd.C_drew ?_))); (case side2 => exact (Kd.R_reads' HO_7.out).2.1); (case side3 => repeat (first | exact (Kd.R_reads' HO_7.out).2.2 | (with_reducible refine Kd.C_alloc ?_ _) | (with_reducible refine Kd.C_drewN ?_ _) | (with_reducible refine Kd.C_drew ?_))); (case side4 => exact (Kd.R_reads' HO_7.out).2.1); rintro e w14 ⟨v236, rfl, ho0, hb⟩; refine ⟨_, rfl, ?_⟩; have n0_ := Aside0.mk (Kd.R_elder' (by (with_reducible repeat (first | apply Kd.R_alloc | apply Kd.R_drewN | apply Kd.R_drew)); exact HO_6.out) (Kd.R_base ho0) hb); have n1_ := Aside0.mk (Kd.R_elder' (by (with_reducible repeat (first | apply Kd.R_alloc | apply Kd.R_drewN | apply Kd.R_drew)); exact HO_7.out) (Kd.R_base ho0) hb); have n2_ := Aside0.mk (Kd.R_lower (Kd.R_new' (Kd.R_new' ho0 (Kd.R_lt (by (with_reducible repeat (first | apply Kd.R_alloc | apply Kd.R_drewN | apply Kd.R_drew)); exact HO_6.out))) (Kd.R_lt (by (with_reducible repeat (first | apply Kd.R_alloc | apply Kd.R_drewN | apply Kd.R_drew)); exact HO_7.out))) (below_size (by repeat (first | (with_reducible first | exact HB.out | apply below_alloc | apply pw_below_drewN | apply below_drew1) | exact HB.out)))); have n3_ := Aside0.mk (below_step (by repeat (first | (with_reducible first | exact HB.out | apply below_alloc | apply pw_below_drewN | apply below_drew1) | exact HB.out)) hb); clear HO_6; clear HO_7; clear HB; have HO_6 := n0_; have HO_7 := n1_; have HO237 := n2_; have HB := n3_; clear n0_ n1_ n2_ n3_; (try clear hb); (try clear hb2); (try clear hk); (try clear hi); (try clear ho0)) | ((with_reducible refine gate_callee (f := 52) rfl ?_); refine goesL_ (some 26) rfl rfl Tryz.func52 (by kernel_rfl) rfl #[.slice A0 l0.length c0, .int .i64 x8_1] rfl (by (try simp only [List.map_toArray, List.map_cons, List.map_nil]); first | done | rfl | (simp only [List.length_drop, List.length_take]; rfl)) ?_; (with_reducible refine (spec_bit.calls _ _ l0 x8_1 t238 _ ?side1 ?side2 A11.out).mono ?_); (case side1 => repeat (first | exact (Kd.C_below HR0.out HB.out) | (with_reducible refine Kd.C_alloc ?_ _) | (with_reducible refine Kd.C_drewN ?_ _) | (with_reducible refine Kd.C_drew ?_))); (case side2 => exact HC0.out); rintro e w' ⟨rfl, ⟨nd, rfl⟩⟩; refine ⟨_, rfl, ?_⟩))
            (try simp only [Act.put, List.setIfInBounds_toArray, List.set_cons_zero, List.set_cons_succ])
            go_cut [7] (fun v7 wc => ∃ (kq : Nat) (x7_11 : List Int), Aside0 (spec_split.j1 kq l0 l1 x6_1 x7_11 x8_1 = some (r1, r2)) ∧ Aside0 (kq ≤ k1) ∧ Aside0 (Kd.R (Kd.int .u8) 5 wc w.heap.size (fun k_ => some k_ ≠ (v7 : Value).ownBlock) v227 x6_1) ∧ Aside0 (Kd.R (Kd.int .u8) 5 wc w.heap.size (fun k_ => some k_ ≠ (v227 : Value).ownBlock) v7 x7_11) ∧ Aside0 (Below w.heap.size w wc))
            case first =>
              have H := HC12.out
              clear HC12
              by_cases c15 : t238 = 1
              · rw [if_pos c15] at H
                have c15b0 : (t238 == 1) = true := beq_iff_eq.mpr c15
                have c15b1 : (t238 != 1) = false := bne_eq_false_iff_eq.mpr c15
                clear c15
                (first | rw [c15b0] | (simp only [i64_w, i32_w]; rw [c15b0]) | skip)
                obtain ⟨y239, hy239⟩ : ∃ y_ : List Int, y_ = (([1] : List Int)) := ⟨_, rfl⟩
                replace H : ((spec_sum.f k1 t235 y239).bind fun t242 => (spec_split.j1 k1 l0 l1 x6_1 t242 x8_1)) = some (r1, r2) := by first | (rw [hy239]; with_reducible exact H) | (have H2_ := (Option.bind_some _ _).symm.trans H; rw [hy239]; with_reducible exact H2_) | (have H2_ := (Option.bind_some _ _).symm.trans H; with_reducible exact H2_) | with_reducible exact H | (rw [hy239]; exact H) | exact H
                have Ny239 := Aside0.mk hy239
                clear hy239
                replace H := Option.bind_eq_some_iff.mp H
                obtain ⟨t242, A160, H⟩ := H
                replace H : (spec_split.j1 k1 l0 l1 x6_1 t242 x8_1) = some (r1, r2) := H
                have A16 := Aside0.mk A160
                clear A160
                have H' := Aside0.mk H
                clear H
                go_wp2_with (first | ((with_reducible refine gate_dst (N := 29) rfl ?_); refine Kd.R_lit (Kd.int .u8) _ 5 ?hg (N := 29) ?hd (xs := ([1] : List Int)) (inner := [.int .u8 1]) (ok := fun _ => True) (okp := fun _ => True) ?hr ?hp (fun _ hk => hk) trivial (Below.refl _ _) (Nat.le_refl _) (by simp) ?_; (case hd => rfl); (case hg => rfl); (case hr => first | (go_simp; done) | (go_simp; rfl)); (case hp => exact (Reps.one (show Kd.M (Kd.int .u8) _ _ _ 1 [.int .u8 1] from rfl) (Reps.none _ _))); intro v240 w17 ho18 hb hg_ hnew_; clear hg_ hnew_; (first | rw [← Ny239.out] at ho18 | (simp only [Int.reduceToNat] at ho18; rw [← Ny239.out] at ho18)); have n0_ := Aside0.mk (Kd.R_elder' (by (with_reducible repeat (first | apply Kd.R_alloc | apply Kd.R_drewN | apply Kd.R_drew)); exact HO_6.out) (Kd.R_base ho18) hb); have n1_ := Aside0.mk (Kd.R_elder' (by (with_reducible repeat (first | apply Kd.R_alloc | apply Kd.R_drewN | apply Kd.R_drew)); exact HO_7.out) (Kd.R_base ho18) hb); have n2_ := Aside0.mk (Kd.R_elder' (by (with_reducible repeat (first | apply Kd.R_alloc | apply Kd.R_drewN | apply Kd.R_drew)); exact HO237.out) (Kd.R_base ho18) hb); have n3_ := Aside0.mk (Kd.R_lower (Kd.R_new' (Kd.R_new' (Kd.R_new' ho18 (Kd.R_lt (by (with_reducible repeat (first | apply Kd.R_alloc | apply Kd.R_drewN | apply Kd.R_drew)); exact HO_6.out))) (Kd.R_lt (by (with_reducible repeat (first | apply Kd.R_alloc | apply Kd.R_drewN | apply Kd.R_drew)); exact HO_7.out))) (Kd.R_lt (by (with_reducible repeat (first | apply Kd.R_alloc | apply Kd.R_drewN | apply Kd.R_drew)); exact HO237.out))) (below_size (by repeat (first | (with_reducible first | exact HB.out | apply below_alloc | apply pw_below_drewN | apply below_drew1) | exact HB.out)))); have n4_ := Aside0.mk (below_step (by repeat (first | (with_reducible first | exact HB.out | apply below_alloc | apply pw_below_drewN | apply below_drew1) | exact HB.out)) hb); clear HO_6; clear HO_7; clear HO237; clear HB; have HO_6 := n0_; have HO_7 := n1_; have HO237 := n2_; have HO241 := n3_; have HB := n4_; clear n0_ n1_ n2_ n3_ n4_; clear hb ho18; obtain ⟨Ao19, co19, eo19⟩ := Kd.R_slice HO237.out; subst eo19; obtain ⟨Ao20, co20, eo20⟩ := Kd.R_slice HO241.out; subst eo20) | ((with_reducible refine gate_callee (f := 44) rfl ?_); refine goesL_ (some 30) rfl rfl Tryz.func44 (by kernel_rfl) rfl #[.slice Ao19 t235.length co19, .slice Ao20 y239.length co20] rfl (by (try simp only [List.map_toArray, List.map_cons, List.map_nil]); first | done | rfl | (simp only [List.length_drop, List.length_take]; rfl)) ?_; (with_reducible refine (spec_sum.calls k1 _ _ t235 _ _ y239 t242 _ ?side1 ?side2 ?side3 ?side4 A16.out).mono ?_); (case side1 => repeat (first | exact (Kd.R_reads' HO237.out).2.2 | (with_reducible refine Kd.C_alloc ?_ _) | (with_reducible refine Kd.C_drewN ?_ _) | (with_reducible refine Kd.C_drew ?_))); (case side2 => exact (Kd.R_reads' HO237.out).2.1); (case side3 => repeat (first | exact (Kd.R_reads' HO241.out).2.2 | (with_reducible refine Kd.C_alloc ?_ _) | (with_reducible refine Kd.C_drewN ?_ _) | (with_reducible refine Kd.C_drew ?_))); (case side4 => exact (Kd.R_reads' HO241.out).2.1); rintro e w21 ⟨v243, rfl, ho0, hb⟩; refine ⟨_, rfl, ?_⟩; have n0_ := Aside0.mk (Kd.R_elder' (by (with_reducible repeat (first | apply Kd.R_alloc | apply Kd.R_drewN | apply Kd.R_drew)); exact HO_6.out) (Kd.R_base ho0) hb); have n1_ := Aside0.mk (Kd.R_elder' (by (with_reducible repeat (first | apply Kd.R_alloc | apply Kd.R_drewN | apply Kd.R_drew)); exact HO_7.out) (Kd.R_base ho0) hb); have n2_ := Aside0.mk (Kd.R_elder' (by (with_reducible repeat (first | apply Kd.R_alloc | apply Kd.R_drewN | apply Kd.R_drew)); exact HO237.out) (Kd.R_base ho0) hb); have n3_ := Aside0.mk (Kd.R_elder' (by (with_reducible repeat (first | apply Kd.R_alloc | apply Kd.R_drewN | apply Kd.R_drew)); exact HO241.out) (Kd.R_base ho0) hb); have n4_ := Aside0.mk (Kd.R_lower (Kd.R_new' (Kd.R_new' (Kd.R_new' (Kd.R_new' ho0 (Kd.R_lt (by (with_reducible repeat (first | apply Kd.R_alloc | apply Kd.R_drewN | apply Kd.R_drew)); exact HO_6.out))) (Kd.R_lt (by (with_reducible repeat (first | apply Kd.R_alloc | apply Kd.R_drewN | apply Kd.R_drew)); exact HO_7.out))) (Kd.R_lt (by (with_reducible repeat (first | apply Kd.R_alloc | apply Kd.R_drewN | apply Kd.R_drew)); exact HO237.out))) (Kd.R_lt (by (with_reducible repeat (first | apply Kd.R_alloc | apply Kd.R_drewN | apply Kd.R_drew)); exact HO241.out))) (below_size (by repeat (first | (with_reducible first | exact HB.out | apply below_alloc | apply pw_below_drewN | apply below_drew1) | exact HB.out)))); have n5_ := Aside0.mk (below_step (by repeat (first | (with_reducible first | exact HB.out | apply below_alloc | apply pw_below_drewN | apply below_drew1) | exact HB.out)) hb); clear HO_6; clear HO_7; clear HO237; clear HO241; clear HB; have HO_6 := n0_; have HO_7 := n1_; have HO237 := n2_; have HO241 := n3_; have HO244 := n4_; have HB := n5_; clear n0_ n1_ n2_ n3_ n4_ n5_; (try clear hb); (try clear hb2); (try clear hk); (try clear hi); (try clear ho0)))
                go_meet
                case rel => exact ⟨_, (t242), H', ⟨by have := HK1.out; first | omega | exact Nat.le_refl _⟩, ⟨by (with_reducible repeat (first | apply Kd.R_alloc | apply Kd.R_drewN | apply Kd.R_drew)); exact Kd.R_mono HO_6.out (fun _ hk => hk.2)⟩, ⟨by (with_reducible repeat (first | apply Kd.R_alloc | apply Kd.R_drewN | apply Kd.R_drew)); exact Kd.R_mono HO244.out (fun _ hk => hk.1.1.1.2)⟩, ⟨by repeat (first | (with_reducible first | exact HB.out | apply below_alloc | apply pw_below_drewN | apply below_drew1) | exact HB.out)⟩⟩
              · rw [if_neg c15] at H
                have c15b0 : (t238 == 1) = false := beq_eq_false_iff_ne.mpr c15
                have c15b1 : (t238 != 1) = true := bne_iff_ne.mpr c15
                (first | rw [c15b0] | (simp only [i64_w, i32_w]; rw [c15b0]) | skip)
                have H' := Aside0.mk H
                clear H
                go_wp2
                go_meet
                case rel => exact ⟨_, (t235), H', ⟨by have := HK1.out; first | omega | exact Nat.le_refl _⟩, ⟨by (with_reducible repeat (first | apply Kd.R_alloc | apply Kd.R_drewN | apply Kd.R_drew)); exact Kd.R_mono HO_6.out (fun _ hk => hk.2)⟩, ⟨by (with_reducible repeat (first | apply Kd.R_alloc | apply Kd.R_drewN | apply Kd.R_drew)); exact Kd.R_mono HO237.out (fun _ hk => hk.1.2)⟩, ⟨by repeat (first | (with_reducible first | exact HB.out | apply below_alloc | apply pw_below_drewN | apply below_drew1) | exact HB.out)⟩⟩
            case rest =>
              clear HC12
              try clear c1
              try clear p2
              try clear c3
              try clear c3b0
              try clear c3b1
              try clear c4
              try clear c4b0
              try clear c4b1
              try clear c5
              try clear p6
              try clear c9
              try clear c9b0
              try clear c15
              try clear c15b0
              try clear c15b1
              try clear p2
              try clear p6
              obtain ⟨kq, x7_11, HA, HJ11, HO_6, HO_7, HB⟩ := hcut
              cases kq with
              | zero => exact absurd HA.out (by simp [spec_split.j1])
              | succ kj11 =>
                have H := HA.out
                clear HA
                simp only [spec_split.j1] at H
                replace H := Option.bind_eq_some_iff.mp H
                obtain ⟨t245, A220, H⟩ := H
                replace H : (if t245 ≥ 0 then ((spec_less.f kj11 x7_11 l1).bind fun t246 => (if 0 ≤ (wrap64 ((wrap64 ((l0.length : Int) - 1)) - (wrap64 (Int.tdiv x8_1 8)))) then (if (wrap64 ((wrap64 ((l0.length : Int) - 1)) - (wrap64 (Int.tdiv x8_1 8)))) < (x6_1.length : Int) then (if 0 ≤ (IntKind.u64.wrap (Int.tmod x8_1 8)) then (spec_split.l0 kj11 l0 l1 (x6_1.set ((wrap64 ((wrap64 ((l0.length : Int) - 1)) - (wrap64 (Int.tdiv x8_1 8)))) : Int).toNat (Go.bits .or .u8 (rd x6_1 (wrap64 ((wrap64 ((l0.length : Int) - 1)) - (wrap64 (Int.tdiv x8_1 8))))) (shl .u8 1 (IntKind.u64.wrap (Int.tmod x8_1 8))))) t246 (wrap64 (x8_1 - 1))) else (none)) else (none)) else (none))) else (spec_split.l0 kj11 l0 l1 x6_1 x7_11 (wrap64 (x8_1 - 1)))) = some (r1, r2) := H
                have A22 := Aside0.mk A220
                clear A220
                by_cases c23 : t245 ≥ 0
                · rw [if_pos c23] at H
                  have c23b0 : decide (0 ≤ t245) = true := decide_eq_true c23
                  clear c23
                  replace H := Option.bind_eq_some_iff.mp H
                  obtain ⟨t246, A240, H⟩ := H
                  replace H : (if 0 ≤ (wrap64 ((wrap64 ((l0.length : Int) - 1)) - (wrap64 (Int.tdiv x8_1 8)))) then (if (wrap64 ((wrap64 ((l0.length : Int) - 1)) - (wrap64 (Int.tdiv x8_1 8)))) < (x6_1.length : Int) then (if 0 ≤ (IntKind.u64.wrap (Int.tmod x8_1 8)) then (spec_split.l0 kj11 l0 l1 (x6_1.set ((wrap64 ((wrap64 ((l0.length : Int) - 1)) - (wrap64 (Int.tdiv x8_1 8)))) : Int).toNat (Go.bits .or .u8 (rd x6_1 (wrap64 ((wrap64 ((l0.length : Int) - 1)) - (wrap64 (Int.tdiv x8_1 8))))) (shl .u8 1 (IntKind.u64.wrap (Int.tmod x8_1 8))))) t246 (wrap64 (x8_1 - 1))) else (none)) else (none)) else (none)) = some (r1, r2) := H
                  have A24 := Aside0.mk A240
                  clear A240
                  obtain ⟨ji25, hji25⟩ : ∃ j_ : Int, (wrap64 ((wrap64 ((l0.length : Int) - 1)) - (wrap64 (Int.tdiv x8_1 8)))) = j_ := ⟨_, rfl⟩
                  replace H : (if 0 ≤ (ji25) then (if (ji25) < (x6_1.length : Int) then (if 0 ≤ (IntKind.u64.wrap (Int.tmod x8_1 8)) then (spec_split.l0 kj11 l0 l1 (x6_1.set ((ji25) : Int).toNat (Go.bits .or .u8 (rd x6_1 (ji25)) (shl .u8 1 (IntKind.u64.wrap (Int.tmod x8_1 8))))) t246 (wrap64 (x8_1 - 1))) else (none)) else (none)) else (none)) = some (r1, r2) := by first | (rw [hji25] at H; exact H) | (simp only [hji25] at H ⊢; exact H)
                  (try rw [hji25] at A22)
                  (try rw [hji25] at A24)
                  have hji25w : (IntKind.i64.wrap ((wrap64 ((l0.length : Int) - 1)) - (wrap64 (Int.tdiv x8_1 8)))) = ji25 := (i64_w _).trans hji25
                  by_cases c26 : 0 ≤ (ji25)
                  · rw [if_pos c26] at H
                    have c26b0 : decide (0 ≤ (ji25)) = true := decide_eq_true c26
                    clear c26
                    by_cases c27 : (ji25) < (x6_1.length : Int)
                    · rw [if_pos c27] at H
                      have c27b0 : decide ((ji25) < (x6_1.length : Int)) = true := decide_eq_true c27
                      clear c27
                      obtain ⟨ji28, hji28⟩ : ∃ j_ : Int, (IntKind.u64.wrap (Int.tmod x8_1 8)) = j_ := ⟨_, rfl⟩
                      replace H : (if 0 ≤ (ji28) then (spec_split.l0 kj11 l0 l1 (x6_1.set ((ji25) : Int).toNat (Go.bits .or .u8 (rd x6_1 (ji25)) (shl .u8 1 (ji28)))) t246 (wrap64 (x8_1 - 1))) else (none)) = some (r1, r2) := by first | (rw [hji28] at H; exact H) | (simp only [hji28] at H ⊢; exact H)
                      (try rw [hji28] at A22)
                      (try rw [hji28] at A24)
                      by_cases c29 : 0 ≤ (ji28)
                      · rw [if_pos c29] at H
                        have c29b0 := eq_true c29
                        have c29b1 : decide (0 ≤ (ji28)) = true := decide_eq_true c29
                        clear c29
                        obtain ⟨ji30, hji30⟩ : ∃ j_ : Int, (shl .u8 1 (ji28)) = j_ := ⟨_, rfl⟩
                        replace H : (spec_split.l0 kj11 l0 l1 (x6_1.set ((ji25) : Int).toNat (Go.bits .or .u8 (rd x6_1 (ji25)) (ji30))) t246 (wrap64 (x8_1 - 1))) = some (r1, r2) := by first | (rw [hji30] at H; exact H) | (simp only [hji30] at H ⊢; exact H)
                        (try rw [hji30] at A22)
                        (try rw [hji30] at A24)
                        have hji30_ : (IntKind.u8.wrap (1 * 2 ^ min (ji28).toNat 8)) = ji30 := hji30
                        have hji30z : (ji28) ≤ 8 → (IntKind.u8.wrap (1 * 2 ^ (ji28).toNat)) = ji30 := shl_small hji30
                        have hji30u : (IntKind.u8.wrap (2 ^ min (ji28).toNat 8)) = ji30 := by have h_ := hji30_; rw [Int.one_mul] at h_; exact h_
                        have hji30v : (ji28) ≤ 8 → (IntKind.u8.wrap (2 ^ (ji28).toNat)) = ji30 := fun hle_ => by have h_ := hji30z hle_; rw [Int.one_mul] at h_; exact h_
                        obtain ⟨y250, hy250⟩ : ∃ y_ : List Int, y_ = (x6_1.set ((ji25) : Int).toNat (Go.bits .or .u8 (rd x6_1 (ji25)) (ji30))) := ⟨_, rfl⟩
                        replace H : (spec_split.l0 kj11 l0 l1 y250 t246 (wrap64 (x8_1 - 1))) = some (r1, r2) := by first | (rw [hy250]; with_reducible exact H) | (have H2_ := (Option.bind_some _ _).symm.trans H; rw [hy250]; with_reducible exact H2_) | (have H2_ := (Option.bind_some _ _).symm.trans H; with_reducible exact H2_) | with_reducible exact H | (rw [hy250]; exact H) | exact H
                        have Ny250 := Aside0.mk hy250
                        clear hy250
                        have H' := Aside0.mk H
                        clear H
                        obtain ⟨Ao32, co32, eo32⟩ := Kd.R_slice HO_7.out
                        subst eo32
                        go_wp2_with (first | ((with_reducible refine gate_callee (f := 46) rfl ?_); refine goesL_ (some 33) rfl rfl Tryz.func46 (by kernel_rfl) rfl #[.slice Ao32 x7_11.length co32, .slice A1 l1.length c1] rfl (by (try simp only [List.map_toArray, List.map_cons, List.map_nil]); first | done | rfl | (simp only [List.length_drop, List.length_take]; rfl)) ?_; (with_reducible refine (spec_order.calls kj11 _ _ x7_11 _ _ l1 t245 _ ?side1 ?side2 ?side3 ?side4 A22.out).mono ?_); (case side1 => repeat (first | exact (Kd.R_reads' HO_7.out).2.2 | (with_reducible refine Kd.C_alloc ?_ _) | (with_reducible refine Kd.C_drewN ?_ _) | (with_reducible refine Kd.C_drew ?_))); (case side2 => exact (Kd.R_reads' HO_7.out).2.1); (case side3 => repeat (first | exact (Kd.C_below HR1.out HB.out) | (with_reducible refine Kd.C_alloc ?_ _) | (with_reducible refine Kd.C_drewN ?_ _) | (with_reducible refine Kd.C_drew ?_))); (case side4 => exact HC1.out); rintro e w' ⟨rfl, ⟨nd, rfl⟩⟩; refine ⟨_, rfl, ?_⟩; (try (rw [drewN_self wc]; generalize hq_ : World.drewN wc _ = wc; have n0_ : Aside0 (Kd.R (Kd.int .u8) 5 wc w.heap.size (fun k_ => some k_ ≠ (.slice Ao32 x7_11.length co32 : Value).ownBlock) v227 x6_1) := ⟨by rw [← hq_]; exact (by (with_reducible repeat (first | apply Kd.R_alloc | apply Kd.R_drewN | apply Kd.R_drew)); exact HO_6.out)⟩; have n1_ : Aside0 (Kd.R (Kd.int .u8) 5 wc w.heap.size (fun k_ => some k_ ≠ (v227 : Value).ownBlock) (.slice Ao32 x7_11.length co32) x7_11) := ⟨by rw [← hq_]; exact (by (with_reducible repeat (first | apply Kd.R_alloc | apply Kd.R_drewN | apply Kd.R_drew)); exact HO_7.out)⟩; have n2_ : Aside0 (Below w.heap.size w wc) := ⟨by rw [← hq_]; exact (by repeat (first | (with_reducible first | exact HB.out | apply below_alloc | apply pw_below_drewN | apply below_drew1) | exact HB.out))⟩; clear HO_6 HO_7 HB hq_; have HO_6 := n0_; have HO_7 := n1_; have HB := n2_; clear n0_ n1_ n2_))) | ((with_reducible refine gate_callee (f := 45) rfl ?_); refine goesL_ (some 37) rfl rfl Tryz.func45 (by kernel_rfl) rfl #[.slice Ao32 x7_11.length co32, .slice A1 l1.length c1] rfl (by (try simp only [List.map_toArray, List.map_cons, List.map_nil]); first | done | rfl | (simp only [List.length_drop, List.length_take]; rfl)) ?_; (with_reducible refine (spec_less.calls kj11 _ _ x7_11 _ _ l1 t246 _ ?side1 ?side2 ?side3 ?side4 A24.out).mono ?_); (case side1 => repeat (first | exact (Kd.R_reads' HO_7.out).2.2 | (with_reducible refine Kd.C_alloc ?_ _) | (with_reducible refine Kd.C_drewN ?_ _) | (with_reducible refine Kd.C_drew ?_))); (case side2 => exact (Kd.R_reads' HO_7.out).2.1); (case side3 => repeat (first | exact (Kd.C_below HR1.out HB.out) | (with_reducible refine Kd.C_alloc ?_ _) | (with_reducible refine Kd.C_drewN ?_ _) | (with_reducible refine Kd.C_drew ?_))); (case side4 => exact HC1.out); rintro e w33 ⟨v247, rfl, ho0, hb⟩; refine ⟨_, rfl, ?_⟩; have n0_ := Aside0.mk (Kd.R_elder' (by (with_reducible repeat (first | apply Kd.R_alloc | apply Kd.R_drewN | apply Kd.R_drew)); exact HO_6.out) (Kd.R_base ho0) hb); have n1_ := Aside0.mk (Kd.R_elder' (by (with_reducible repeat (first | apply Kd.R_alloc | apply Kd.R_drewN | apply Kd.R_drew)); exact HO_7.out) (Kd.R_base ho0) hb); have n2_ := Aside0.mk (Kd.R_lower (Kd.R_new' (Kd.R_new' ho0 (Kd.R_lt (by (with_reducible repeat (first | apply Kd.R_alloc | apply Kd.R_drewN | apply Kd.R_drew)); exact HO_6.out))) (Kd.R_lt (by (with_reducible repeat (first | apply Kd.R_alloc | apply Kd.R_drewN | apply Kd.R_drew)); exact HO_7.out))) (below_size (by repeat (first | (with_reducible first | exact HB.out | apply below_alloc | apply pw_below_drewN | apply below_drew1) | exact HB.out)))); have n3_ := Aside0.mk (below_step (by repeat (first | (with_reducible first | exact HB.out | apply below_alloc | apply pw_below_drewN | apply below_drew1) | exact HB.out)) hb); clear HO_6; clear HO_7; clear HB; have HO_6 := n0_; have HO_7 := n1_; have HO248 := n2_; have HB := n3_; clear n0_ n1_ n2_ n3_; (try clear hb); (try clear hb2); (try clear hk); (try clear hi); (try clear ho0); obtain ⟨Ao34, co34, eo34⟩ := Kd.R_slice HO_6.out; subst eo34; have p249 : 0 ≤ ((ji25) : Int) := of_decide_eq_true (by first | (with_reducible assumption) | assumption); have q249 : (ji25) < (x6_1.length : Int) := of_decide_eq_true (by first | (with_reducible assumption) | assumption); obtain ⟨ad249, e249, hx249_0⟩ := Kd.at_int (Kd.R_reads' HO_6.out).2.2 (ji25) p249 q249; cases e249; replace p249 := eq_true p249; replace q249 := eq_true q249; have p31 : 0 ≤ ((ji25) : Int) := of_decide_eq_true (by first | (with_reducible assumption) | assumption); have q31 : ((ji25) : Int) < ((x6_1.length : Int) : Int) := of_decide_eq_true (by first | (with_reducible assumption) | assumption); obtain ⟨go31, co31, eo31, gb31, gl31, cl31, HG31⟩ := Kd.R_form HO_6.out (by omega); (first | cases eo31 | (injection eo31 with ea_ en_ ec_; (first | subst ea_ | (injection ea_ with ea_; subst ea_)); subst ec_; clear en_)); have GB31 := Aside0.mk gb31; have GG31 := Aside0.mk HG31; clear gb31 gl31 HG31; (first | simp only [add_plain] at hx249_0 | skip); obtain ⟨hx31_0, hf31_0⟩ := Kd.R_celln 0 HO_6.out ((ji25) : Int) p31 q31; replace p31 := eq_true p31; replace q31 := eq_true q31; obtain ⟨hy35_, hz35_⟩ := Kd.R_celln 0 HO_6.out ((ji25) : Int) (of_decide_eq_true (by first | (with_reducible assumption) | assumption)) (of_decide_eq_true (by first | (with_reducible assumption) | assumption)); have HP35 := Kd.R_putg HO_6.out ((ji25) : Int) (Go.bits .or .u8 (rd x6_1 (ji25)) (ji30))) | ((with_reducible refine gate_store (t := 5) (p := 52) rfl ?_); refine store_event (t := 5) (p := 52) (v := ?vo_w36) (w1 := (w33.setCell ⟨go31, ((ji25) : Int).toNat, none⟩ (.int .u8 (Go.bits .or .u8 (rd x6_1 (ji25)) (ji30))))) ?hg ?ho ?hn ?hr ?_; (case ho => rfl); (case hg => rfl); (case hn => rfl); (case hr => first | (go_simp; done) | (go_simp; rfl)); intro w36 hw; have hg : w33.grownBy w36 (some go31) := (by rw [hw]; exact HP35.2); have hp_ : Kd.R (Kd.int .u8) 5 w36 w.heap.size (fun k_ => some k_ ≠ (.slice Ao32 x7_11.length co32 : Value).ownBlock ∧ some k_ ≠ (v247 : Value).ownBlock) (.slice (some ⟨go31, 0, none⟩) x6_1.length co34) y250 := (by rw [hw, Ny250.out]; exact HP35.1); clear HP35; have n0_ := Aside0.mk (hp_); have n1_ := Aside0.mk (Kd.R_after (v := (.slice (some ⟨go31, 0, none⟩) x6_1.length co34)) (v1 := (.slice (some ⟨go31, 0, none⟩) x6_1.length co34)) (ok := (fun k_ => some k_ ≠ (v247 : Value).ownBlock)) (by (with_reducible repeat (first | apply Kd.R_alloc | apply Kd.R_drewN | apply Kd.R_drew)); exact Kd.R_mono HO_7.out (fun _ hk => ⟨hk.2, hk.1⟩)) hg (.inl rfl)); have n2_ := Aside0.mk (Kd.R_after (v := (.slice (some ⟨go31, 0, none⟩) x6_1.length co34)) (v1 := (.slice (some ⟨go31, 0, none⟩) x6_1.length co34)) (ok := (fun k_ => some k_ ≠ (.slice Ao32 x7_11.length co32 : Value).ownBlock)) (by (with_reducible repeat (first | apply Kd.R_alloc | apply Kd.R_drewN | apply Kd.R_drew)); exact Kd.R_mono HO248.out (fun _ hk => ⟨hk.2, hk.1.2⟩)) hg (.inl rfl)); have n3_ := Aside0.mk ((by rw [hw]; exact below_set (HB.out) GB31.out : Below w.heap.size w w36)); clear HO_6; clear HO_7; clear HO248; clear HB; have HO_6 := n0_; have HO_7 := n1_; have HO248 := n2_; have HB := n3_; clear n0_ n1_ n2_ n3_; clear hg hw hp_))
                        go_roundg kj11
                        case measure => have := HK1.out; have := HJ11.out; omega
                        case rel => exact ⟨(y250), (t246), (wrap64 (x8_1 - 1)), (by first | rfl | (simp; done) | (simp [*]; done)), H', ⟨by have := HK1.out; have := HJ11.out; omega⟩, ⟨by (with_reducible repeat (first | apply Kd.R_alloc | apply Kd.R_drewN | apply Kd.R_drew)); exact Kd.R_mono HO_6.out (fun _ hk => hk.2)⟩, ⟨by (with_reducible repeat (first | apply Kd.R_alloc | apply Kd.R_drewN | apply Kd.R_drew)); exact Kd.R_mono HO248.out (fun _ hk => hk.2)⟩, ⟨by repeat (first | (with_reducible first | exact HB.out | apply below_alloc | apply pw_below_drewN | apply below_drew1) | exact HB.out)⟩⟩
                      · rw [if_neg c29] at H
                        exact absurd H (by simp)
                    · rw [if_neg c27] at H
                      exact absurd H (by simp)
                  · rw [if_neg c26] at H
                    exact absurd H (by simp)
                · rw [if_neg c23] at H
                  have c23b0 : decide (0 ≤ t245) = false := decide_eq_false c23
                  clear c23
                  have H' := Aside0.mk H
                  clear H
                  obtain ⟨Ao37, co37, eo37⟩ := Kd.R_slice HO_7.out
                  subst eo37
                  go_wp2_with (first | ((with_reducible refine gate_callee (f := 46) rfl ?_); refine goesL_ (some 33) rfl rfl Tryz.func46 (by kernel_rfl) rfl #[.slice Ao37 x7_11.length co37, .slice A1 l1.length c1] rfl (by (try simp only [List.map_toArray, List.map_cons, List.map_nil]); first | done | rfl | (simp only [List.length_drop, List.length_take]; rfl)) ?_; (with_reducible refine (spec_order.calls kj11 _ _ x7_11 _ _ l1 t245 _ ?side1 ?side2 ?side3 ?side4 A22.out).mono ?_); (case side1 => repeat (first | exact (Kd.R_reads' HO_7.out).2.2 | (with_reducible refine Kd.C_alloc ?_ _) | (with_reducible refine Kd.C_drewN ?_ _) | (with_reducible refine Kd.C_drew ?_))); (case side2 => exact (Kd.R_reads' HO_7.out).2.1); (case side3 => repeat (first | exact (Kd.C_below HR1.out HB.out) | (with_reducible refine Kd.C_alloc ?_ _) | (with_reducible refine Kd.C_drewN ?_ _) | (with_reducible refine Kd.C_drew ?_))); (case side4 => exact HC1.out); rintro e w' ⟨rfl, ⟨nd, rfl⟩⟩; refine ⟨_, rfl, ?_⟩))
                  go_roundg kj11
                  case measure => have := HK1.out; have := HJ11.out; omega
                  case rel => exact ⟨(x6_1), (x7_11), (wrap64 (x8_1 - 1)), (by first | rfl | (simp; done) | (simp [*]; done)), H', ⟨by have := HK1.out; have := HJ11.out; omega⟩, ⟨by (with_reducible repeat (first | apply Kd.R_alloc | apply Kd.R_drewN | apply Kd.R_drew)); exact HO_6.out⟩, ⟨by (with_reducible repeat (first | apply Kd.R_alloc | apply Kd.R_drewN | apply Kd.R_drew)); exact HO_7.out⟩, ⟨by repeat (first | (with_reducible first | exact HB.out | apply below_alloc | apply pw_below_drewN | apply below_drew1) | exact HB.out)⟩⟩
          · rw [if_neg c9] at H
            have c9b0 : decide (0 ≤ x8_1) = false := decide_eq_false c9
            clear c9
            replace H := Option.bind_eq_some_iff.mp H
            obtain ⟨t232, A380, H⟩ := H
            replace H : (some (t232, x7_1)) = some (r1, r2) := H
            have A38 := Aside0.mk A380
            clear A380
            simp only [Option.some.injEq, Prod.mk.injEq] at H
            obtain ⟨rfl, rfl⟩ := H
            obtain ⟨Ao39, co39, eo39⟩ := Kd.R_slice HO_6.out
            subst eo39
            go_wp2_with (first | ((with_reducible refine gate_callee (f := 32) rfl ?_); refine goesL_ (some 54) rfl rfl Tryz.func32 (by kernel_rfl) rfl #[.slice Ao39 x6_1.length co39] rfl (by (try simp only [List.map_toArray, List.map_cons, List.map_nil]); first | done | rfl | (simp only [List.length_drop, List.length_take]; rfl)) ?_; (with_reducible refine (spec_cut.calls k1 _ _ x6_1 t232 _ ?side1 ?side2 A38.out).mono ?_); (case side1 => repeat (first | exact (Kd.R_reads' HO_6.out).2.2 | (with_reducible refine Kd.C_alloc ?_ _) | (with_reducible refine Kd.C_drewN ?_ _) | (with_reducible refine Kd.C_drew ?_))); (case side2 => exact (Kd.R_reads' HO_6.out).2.1); rintro e w40 ⟨v233, rfl, ho0, hb⟩; refine ⟨_, rfl, ?_⟩; have n0_ := Aside0.mk (Kd.R_elder' (by (with_reducible repeat (first | apply Kd.R_alloc | apply Kd.R_drewN | apply Kd.R_drew)); exact HO_6.out) (Kd.R_base ho0) hb); have n1_ := Aside0.mk (Kd.R_elder' (by (with_reducible repeat (first | apply Kd.R_alloc | apply Kd.R_drewN | apply Kd.R_drew)); exact HO_7.out) (Kd.R_base ho0) hb); have n2_ := Aside0.mk (Kd.R_lower (Kd.R_new' (Kd.R_new' ho0 (Kd.R_lt (by (with_reducible repeat (first | apply Kd.R_alloc | apply Kd.R_drewN | apply Kd.R_drew)); exact HO_6.out))) (Kd.R_lt (by (with_reducible repeat (first | apply Kd.R_alloc | apply Kd.R_drewN | apply Kd.R_drew)); exact HO_7.out))) (below_size (by repeat (first | (with_reducible first | exact HB.out | apply below_alloc | apply pw_below_drewN | apply below_drew1) | exact HB.out)))); have n3_ := Aside0.mk (below_step (by repeat (first | (with_reducible first | exact HB.out | apply below_alloc | apply pw_below_drewN | apply below_drew1) | exact HB.out)) hb); clear HO_6; clear HO_7; clear HB; have HO_6 := n0_; have HO_7 := n1_; have HO234 := n2_; have HB := n3_; clear n0_ n1_ n2_ n3_; (try clear hb); (try clear hb2); (try clear hk); (try clear hi); (try clear ho0)))
            go_ret2
            exact ⟨_, _, by first | rfl | (simp [errW_none, errW_some] <;> rfl) | (simp [*, errW_none, errW_some] <;> rfl), by (with_reducible repeat (first | apply Kd.R_alloc | apply Kd.R_drewN | apply Kd.R_drew)); exact Kd.R_mono HO234.out (fun _ hk => hk.2), by (with_reducible repeat (first | apply Kd.R_alloc | apply Kd.R_drewN | apply Kd.R_drew)); exact Kd.R_mono HO_7.out (fun _ hk => hk.2), by repeat (first | (with_reducible first | exact HB.out | apply below_alloc | apply pw_below_drewN | apply below_drew1) | exact HB.out)⟩
    · rw [if_neg c4] at H
      exact absurd H (by simp)
  · rw [if_neg c3] at H
    exact absurd H (by simp)
end Go.Proofs.YtdbjoiojiibdgaaGreatDoor.PFixed
namespace Go.Proofs.YtdbjoiojiibdgaaGreatDoor.PFixed
open Go.RowKit Go.Proofs.YtdbjoiojiibdgaaGreatDoorW.PrintWords Go.Proofs.YtdbjoiojiibdgaaGreatDoorW.PrintLast Go.Proofs.YtdbjoiojiibdgaaGreatDoorW.PrintMore
attribute [local go_sem] max2_int min2_int max_two min_two max_three min_three max_four min_four
set_option linter.unusedVariables false
set_option linter.unusedSimpArgs false
def spec_Int_Floor.f (k : Nat) (a0_0 : Bool) (l0_1 : List Int) (a1_0 : Bool) (l1_1 : List Int) : Option (Bool × List Int × Bool × List Int) := (spec_split.f k l0_1 l1_1).bind fun bt255 => (if (a0_0 == a1_0) = true then ((spec_Of.f k false bt255.1).bind fun bt261 => ((spec_Of.f k a1_0 bt255.2).bind fun bt265 => (some (bt261.1, bt261.2, bt265.1, bt265.2)))) else (if (bt255.2.length : Int) = 0 then ((spec_Of.f k true bt255.1).bind fun bt269 => (some (bt269.1, bt269.2, false, ([] : List Int)))) else ((spec_sum.f k bt255.1 (([1] : List Int))).bind fun t276 => ((spec_Of.f k true t276).bind fun bt279 => ((spec_less.f k l1_1 bt255.2).bind fun t283 => ((spec_Of.f k a1_0 t283).bind fun bt286 => (some (bt279.1, bt279.2, bt286.1, bt286.2))))))))
def spec_Int_Floor.T3 : Bool × List (List Nat × List Nat) := (true, [([], []), ([0], [0]), ([], []), ([2], [2]), ([], []), ([3, 4, 1], [3, 4]), ([1, 5, 0, 1], [1]), ([5, 6, 0, 1, 2, 3, 4, 5, 6], [5])])
def spec_Int_Floor.B3 : List Nat := [0, 1, 0, 4, 0, 31, 63, 127]
theorem spec_Int_Floor.tab3 : rtab .any (opsOf Tryz.f36 3) = spec_Int_Floor.T3 := by kernel_rfl
theorem spec_Int_Floor.bits3 : waitsOk spec_Int_Floor.T3.2 spec_Int_Floor.B3 = true := by kernel_rfl
def spec_Int_Floor.T6 : Bool × List (List Nat × List Nat) := (true, [([], []), ([], []), ([0, 1], [0, 1]), ([2, 2], [2]), ([], []), ([4], [4]), ([], []), ([6], [6]), ([], []), ([7, 8, 3], [7, 8]), ([5, 9, 9], [5, 9]), ([3, 10, 0, 1, 2, 3], [3]), ([10, 11, 0, 1, 2, 3, 4, 5, 6, 7, 8, 9, 10, 11], [10])])
def spec_Int_Floor.B6 : List Nat := [0, 0, 3, 7, 0, 16, 0, 64, 0, 463, 1023, 2047, 4095]
theorem spec_Int_Floor.tab6 : rtab .any (opsOf Tryz.f36 6) = spec_Int_Floor.T6 := by kernel_rfl
theorem spec_Int_Floor.bits6 : waitsOk spec_Int_Floor.T6.2 spec_Int_Floor.B6 = true := by kernel_rfl
set_option maxHeartbeats 8000000 in
set_option maxRecDepth 100000 in
theorem spec_Int_Floor.calls (k : Nat) (a0_0 : Bool) (A0_1 : Option Addr) (c0_1 : Nat) (l0_1 : List Int) (a1_0 : Bool) (A1_1 : Option Addr) (c1_1 : Nat) (l1_1 : List Int) (r1 : Bool) (r2 : List Int) (r3 : Bool) (r4 : List Int) (w : World) (hr0_1 : Kd.C (Kd.int .u8) w A0_1 l0_1.length l0_1) (hc0_1 : l0_1.length ≤ c0_1) (hr1_1 : Kd.C (Kd.int .u8) w A1_1 l1_1.length l1_1) (hc1_1 : l1_1.length ≤ c1_1) (h : spec_Int_Floor.f k a0_0 l0_1 a1_0 l1_1 = some (r1, r2, r3, r4)) :
    Calls Tryz.prog 36 #[.agg #[.bool a0_0, .slice A0_1 l0_1.length c0_1], .agg #[.bool a1_0, .slice A1_1 l1_1.length c1_1]] w fun e w' => ∃ v1_ v3_ : Value, e = .returned (.tuple #[.agg #[.bool r1, v1_], .agg #[.bool r3, v3_]]) ∧ Kd.R (Kd.int .u8) 5 w' w.heap.size (fun k_ => some k_ ≠ (v3_ : Value).ownBlock) v1_ r2 ∧ Kd.R (Kd.int .u8) 5 w' w.heap.size (fun k_ => some k_ ≠ (v1_ : Value).ownBlock) v3_ r4 ∧ Below w.heap.size w w' := by
  have hu37 := Tryz.underlying37
  have HR0_1 := Aside0.mk hr0_1
  have HC0_1 := Aside0.mk hc0_1
  clear hr0_1 hc0_1
  have HR1_1 := Aside0.mk hr1_1
  have HC1_1 := Aside0.mk hc1_1
  clear hr1_1 hc1_1
  have HB := Aside0.mk (Below.refl w.heap.size w)
  have H : ((spec_split.f k l0_1 l1_1).bind fun bt255 => (if (a0_0 == a1_0) = true then ((spec_Of.f k false bt255.1).bind fun bt261 => ((spec_Of.f k a1_0 bt255.2).bind fun bt265 => (some (bt261.1, bt261.2, bt265.1, bt265.2)))) else (if (bt255.2.length : Int) = 0 then ((spec_Of.f k true bt255.1).bind fun bt269 => (some (bt269.1, bt269.2, false, ([] : List Int)))) else ((spec_sum.f k bt255.1 (([1] : List Int))).bind fun t276 => ((spec_Of.f k true t276).bind fun bt279 => ((spec_less.f k l1_1 bt255.2).bind fun t283 => ((spec_Of.f k a1_0 t283).bind fun bt286 => (some (bt279.1, bt279.2, bt286.1, bt286.2))))))))) = some (r1, r2, r3, r4) := h
  clear h
  replace H := Option.bind_eq_some_iff.mp H
  obtain ⟨⟨t255, t256⟩, A30, H⟩ := H
  replace H : (if (a0_0 == a1_0) = true then ((spec_Of.f k false t255).bind fun bt261 => ((spec_Of.f k a1_0 t256).bind fun bt265 => (some (bt261.1, bt261.2, bt265.1, bt265.2)))) else (if (t256.length : Int) = 0 then ((spec_Of.f k true t255).bind fun bt269 => (some (bt269.1, bt269.2, false, ([] : List Int)))) else ((spec_sum.f k t255 (([1] : List Int))).bind fun t276 => ((spec_Of.f k true t276).bind fun bt279 => ((spec_less.f k l1_1 t256).bind fun t283 => ((spec_Of.f k a1_0 t283).bind fun bt286 => (some (bt279.1, bt279.2, bt286.1, bt286.2)))))))) = some (r1, r2, r3, r4) := H
  have A3 := Aside0.mk A30
  clear A30
  by_cases c4 : (a0_0 == a1_0) = true
  · rw [if_pos c4] at H
    have c4b0 : (a0_0 == a1_0) = true := c4
    (try (have c4b1 : decide (a0_0 = a1_0) = true := by simpa using c4))
    (try (have c4b2 : (a0_0 == a1_0) = true := by simpa using c4))
    clear c4
    replace H := Option.bind_eq_some_iff.mp H
    obtain ⟨⟨t261, t262⟩, A50, H⟩ := H
    replace H : ((spec_Of.f k a1_0 t256).bind fun bt265 => (some (t261, t262, bt265.1, bt265.2))) = some (r1, r2, r3, r4) := H
    have A5 := Aside0.mk A50
    clear A50
    replace H := Option.bind_eq_some_iff.mp H
    obtain ⟨⟨t265, t266⟩, A60, H⟩ := H
    replace H : (some (t261, t262, t265, t266)) = some (r1, r2, r3, r4) := H
    have A6 := Aside0.mk A60
    clear A60
    simp only [Option.some.injEq, Prod.mk.injEq] at H
    obtain ⟨rfl, rfl, rfl, rfl⟩ := H
    go_enter Tryz.func36, Tryz.ntmps36
    try go_wp2_with (first | ((with_reducible refine gate_dst (N := 2) rfl ?_); refine box_event ?hg (N := 2) ?hd (cs := #[.bool a0_0, .slice A0_1 l0_1.length c0_1]) (t := 37) ?hr ?_; (case hd => rfl); (case hg => rfl); (case hr => first | (go_simp; done) | (go_simp; rfl)); intro gb251 hg w7 hbox hb; have n0_ := Aside0.mk (below_step (by repeat (first | (with_reducible first | exact HB.out | apply below_alloc | apply pw_below_drewN | apply below_drew1) | exact HB.out)) hb); have n1_ := Aside0.mk (hbox); have n2_ := Aside0.mk ((by rw [hg]; exact (below_size (by repeat (first | (with_reducible first | exact HB.out | apply below_alloc | apply pw_below_drewN | apply below_drew1) | exact HB.out))) : w.heap.size ≤ gb251)); have n3_ := Aside0.mk ((by rw [hg]; exact (below_size (by repeat (first | (with_reducible first | exact HB.out | apply below_alloc | apply pw_below_drewN | apply below_drew1) | exact HB.out))) : w.heap.size ≤ gb251)); clear HB; have HB := n0_; have BK251 := n1_; have GW251 := n2_; have GE251 := n3_; clear n0_ n1_ n2_ n3_; clear hb hbox hg) | ((with_reducible refine gate_dst (N := 3) rfl ?_); refine box_event ?hg (N := 3) ?hd (cs := #[.bool a1_0, .slice A1_1 l1_1.length c1_1]) (t := 37) ?hr ?_; (case hd => rfl); (case hg => rfl); (case hr => first | (go_simp; done) | (go_simp; rfl)); intro gb252 hg w8 hbox hb; have n0_ := Aside0.mk (blk_below (g := gb251) (o := .cells #[.bool a0_0, .slice A0_1 l0_1.length c0_1] 37 (0, 0)) (by (with_reducible repeat (first | refine blk_drewN ?_ _ | refine blk_drew ?_ | refine blk_alloc ?_ _)); exact BK251.out) hb); have n1_ := Aside0.mk (below_step (by repeat (first | (with_reducible first | exact HB.out | apply below_alloc | apply pw_below_drewN | apply below_drew1 | refine below_set ?_ GE251.out) | exact HB.out)) hb); have n2_ := Aside0.mk (hbox); have n3_ := Aside0.mk ((by rw [hg]; exact (below_size (by repeat (first | (with_reducible first | exact HB.out | apply below_alloc | apply pw_below_drewN | apply below_drew1 | refine below_set ?_ GE251.out) | exact HB.out))) : w.heap.size ≤ gb252)); have n4_ := Aside0.mk ((by rw [hg]; exact (below_size (by repeat (first | (with_reducible first | exact HB.out | apply below_alloc | apply pw_below_drewN | apply below_drew1 | refine below_set ?_ GE251.out) | exact HB.out))) : w.heap.size ≤ gb252)); have n5_ := Aside0.mk ((by rw [hg]; exact Nat.ne_of_lt (blk_lt (g := gb251) (o := .cells #[.bool a0_0, .slice A0_1 l0_1.length c0_1] 37 (0, 0)) (by (with_reducible repeat (first | refine blk_drewN ?_ _ | refine blk_drew ?_ | refine blk_alloc ?_ _)); exact BK251.out)) : gb251 ≠ gb252)); have n6_ := Aside0.mk ((by rw [hg]; exact Nat.ne_of_gt (blk_lt (g := gb251) (o := .cells #[.bool a0_0, .slice A0_1 l0_1.length c0_1] 37 (0, 0)) (by (with_reducible repeat (first | refine blk_drewN ?_ _ | refine blk_drew ?_ | refine blk_alloc ?_ _)); exact BK251.out)) : gb252 ≠ gb251)); clear BK251; clear HB; have BK251 := n0_; have HB := n1_; have BK252 := n2_; have GW252 := n3_; have GE252 := n4_; have NB251_252 := n5_; have NB252_251 := n6_; clear n0_ n1_ n2_ n3_ n4_ n5_ n6_; clear hb hbox hg) | ((with_reducible refine gate_dst (N := 4) rfl ?_); refine box_event ?hg (N := 4) ?hd (cs := #[.bool false, .slice none 0 0]) (t := 37) ?hr ?_; (case hd => rfl); (case hg => rfl); (case hr => first | (go_simp; done) | (go_simp; rfl)); intro gb253 hg w9 hbox hb; have n0_ := Aside0.mk (blk_below (g := gb251) (o := .cells #[.bool a0_0, .slice A0_1 l0_1.length c0_1] 37 (0, 0)) (by (with_reducible repeat (first | refine blk_drewN ?_ _ | refine blk_drew ?_ | refine blk_alloc ?_ _)); exact BK251.out) hb); have n1_ := Aside0.mk (blk_below (g := gb252) (o := .cells #[.bool a1_0, .slice A1_1 l1_1.length c1_1] 37 (0, 0)) (by (with_reducible repeat (first | refine blk_drewN ?_ _ | refine blk_drew ?_ | refine blk_alloc ?_ _)); exact BK252.out) hb); have n2_ := Aside0.mk (below_step (by repeat (first | (with_reducible first | exact HB.out | apply below_alloc | apply pw_below_drewN | apply below_drew1 | refine below_set ?_ GE251.out | refine below_set ?_ GE252.out) | exact HB.out)) hb); have n3_ := Aside0.mk (hbox); have n4_ := Aside0.mk ((by rw [hg]; exact (below_size (by repeat (first | (with_reducible first | exact HB.out | apply below_alloc | apply pw_below_drewN | apply below_drew1 | refine below_set ?_ GE251.out | refine below_set ?_ GE252.out) | exact HB.out))) : w.heap.size ≤ gb253)); have n5_ := Aside0.mk ((by rw [hg]; exact (below_size (by repeat (first | (with_reducible first | exact HB.out | apply below_alloc | apply pw_below_drewN | apply below_drew1 | refine below_set ?_ GE251.out | refine below_set ?_ GE252.out) | exact HB.out))) : w.heap.size ≤ gb253)); have n6_ := Aside0.mk ((by rw [hg]; exact Nat.ne_of_lt (blk_lt (g := gb251) (o := .cells #[.bool a0_0, .slice A0_1 l0_1.length c0_1] 37 (0, 0)) (by (with_reducible repeat (first | refine blk_drewN ?_ _ | refine blk_drew ?_ | refine blk_alloc ?_ _)); exact BK251.out)) : gb251 ≠ gb253)); have n7_ := Aside0.mk ((by rw [hg]; exact Nat.ne_of_gt (blk_lt (g := gb251) (o := .cells #[.bool a0_0, .slice A0_1 l0_1.length c0_1] 37 (0, 0)) (by (with_reducible repeat (first | refine blk_drewN ?_ _ | refine blk_drew ?_ | refine blk_alloc ?_ _)); exact BK251.out)) : gb253 ≠ gb251)); have n8_ := Aside0.mk ((by rw [hg]; exact Nat.ne_of_lt (blk_lt (g := gb252) (o := .cells #[.bool a1_0, .slice A1_1 l1_1.length c1_1] 37 (0, 0)) (by (with_reducible repeat (first | refine blk_drewN ?_ _ | refine blk_drew ?_ | refine blk_alloc ?_ _)); exact BK252.out)) : gb252 ≠ gb253)); have n9_ := Aside0.mk ((by rw [hg]; exact Nat.ne_of_gt (blk_lt (g := gb252) (o := .cells #[.bool a1_0, .slice A1_1 l1_1.length c1_1] 37 (0, 0)) (by (with_reducible repeat (first | refine blk_drewN ?_ _ | refine blk_drew ?_ | refine blk_alloc ?_ _)); exact BK252.out)) : gb253 ≠ gb252)); clear BK251; clear BK252; clear HB; have BK251 := n0_; have BK252 := n1_; have HB := n2_; have BK253 := n3_; have GW253 := n4_; have GE253 := n5_; have NB251_253 := n6_; have NB253_251 := n7_; have NB252_253 := n8_; have NB253_252 := n9_; clear n0_ n1_ n2_ n3_ n4_ n5_ n6_ n7_ n8_ n9_; clear hb hbox hg) | ((with_reducible refine gate_dst (N := 5) rfl ?_); refine box_event ?hg (N := 5) ?hd (cs := #[.bool false, .slice none 0 0]) (t := 37) ?hr ?_; (case hd => rfl); (case hg => rfl); (case hr => first | (go_simp; done) | (go_simp; rfl)); intro gb254 hg w10 hbox hb; have n0_ := Aside0.mk (blk_below (g := gb251) (o := .cells #[.bool a0_0, .slice A0_1 l0_1.length c0_1] 37 (0, 0)) (by (with_reducible repeat (first | refine blk_drewN ?_ _ | refine blk_drew ?_ | refine blk_alloc ?_ _)); exact BK251.out) hb); have n1_ := Aside0.mk (blk_below (g := gb252) (o := .cells #[.bool a1_0, .slice A1_1 l1_1.length c1_1] 37 (0, 0)) (by (with_reducible repeat (first | refine blk_drewN ?_ _ | refine blk_drew ?_ | refine blk_alloc ?_ _)); exact BK252.out) hb); have n2_ := Aside0.mk (blk_below (g := gb253) (o := .cells #[.bool false, .slice none 0 0] 37 (0, 0)) (by (with_reducible repeat (first | refine blk_drewN ?_ _ | refine blk_drew ?_ | refine blk_alloc ?_ _)); exact BK253.out) hb); have n3_ := Aside0.mk (below_step (by repeat (first | (with_reducible first | exact HB.out | apply below_alloc | apply pw_below_drewN | apply below_drew1 | refine below_set ?_ GE251.out | refine below_set ?_ GE252.out | refine below_set ?_ GE253.out) | exact HB.out)) hb); have n4_ := Aside0.mk (hbox); have n5_ := Aside0.mk ((by rw [hg]; exact (below_size (by repeat (first | (with_reducible first | exact HB.out | apply below_alloc | apply pw_below_drewN | apply below_drew1 | refine below_set ?_ GE251.out | refine below_set ?_ GE252.out | refine below_set ?_ GE253.out) | exact HB.out))) : w.heap.size ≤ gb254)); have n6_ := Aside0.mk ((by rw [hg]; exact (below_size (by repeat (first | (with_reducible first | exact HB.out | apply below_alloc | apply pw_below_drewN | apply below_drew1 | refine below_set ?_ GE251.out | refine below_set ?_ GE252.out | refine below_set ?_ GE253.out) | exact HB.out))) : w.heap.size ≤ gb254)); have n7_ := Aside0.mk ((by rw [hg]; exact Nat.ne_of_lt (blk_lt (g := gb251) (o := .cells #[.bool a0_0, .slice A0_1 l0_1.length c0_1] 37 (0, 0)) (by (with_reducible repeat (first | refine blk_drewN ?_ _ | refine blk_drew ?_ | refine blk_alloc ?_ _)); exact BK251.out)) : gb251 ≠ gb254)); have n8_ := Aside0.mk ((by rw [hg]; exact Nat.ne_of_gt (blk_lt (g := gb251) (o := .cells #[.bool a0_0, .slice A0_1 l0_1.length c0_1] 37 (0, 0)) (by (with_reducible repeat (first | refine blk_drewN ?_ _ | refine blk_drew ?_ | refine blk_alloc ?_ _)); exact BK251.out)) : gb254 ≠ gb251)); have n9_ := Aside0.mk ((by rw [hg]; exact Nat.ne_of_lt (blk_lt (g := gb252) (o := .cells #[.bool a1_0, .slice A1_1 l1_1.length c1_1] 37 (0, 0)) (by (with_reducible repeat (first | refine blk_drewN ?_ _ | refine blk_drew ?_ | refine blk_alloc ?_ _)); exact BK252.out)) : gb252 ≠ gb254)); have n10_ := Aside0.mk ((by rw [hg]; exact Nat.ne_of_gt (blk_lt (g := gb252) (o := .cells #[.bool a1_0, .slice A1_1 l1_1.length c1_1] 37 (0, 0)) (by (with_reducible repeat (first | refine blk_drewN ?_ _ | refine blk_drew ?_ | refine blk_alloc ?_ _)); exact BK252.out)) : gb254 ≠ gb252)); have n11_ := Aside0.mk ((by rw [hg]; exact Nat.ne_of_lt (blk_lt (g := gb253) (o := .cells #[.bool false, .slice none 0 0] 37 (0, 0)) (by (with_reducible repeat (first | refine blk_drewN ?_ _ | refine blk_drew ?_ | refine blk_alloc ?_ _)); exact BK253.out)) : gb253 ≠ gb254)); have n12_ := Aside0.mk ((by rw [hg]; exact Nat.ne_of_gt (blk_lt (g := gb253) (o := .cells #[.bool false, .slice none 0 0] 37 (0, 0)) (by (with_reducible repeat (first | refine blk_drewN ?_ _ | refine blk_drew ?_ | refine blk_alloc ?_ _)); exact BK253.out)) : gb254 ≠ gb253)); clear BK251; clear BK252; clear BK253; clear HB; have BK251 := n0_; have BK252 := n1_; have BK253 := n2_; have HB := n3_; have BK254 := n4_; have GW254 := n5_; have GE254 := n6_; have NB251_254 := n7_; have NB254_251 := n8_; have NB252_254 := n9_; have NB254_252 := n10_; have NB253_254 := n11_; have NB254_253 := n12_; clear n0_ n1_ n2_ n3_ n4_ n5_ n6_ n7_ n8_ n9_ n10_ n11_ n12_; clear hb hbox hg; have hnb11 := NB251_252.out; have hnc11 := NB252_251.out; have hnb12 := NB251_253.out; have hnc12 := NB253_251.out; have hnb13 := NB251_254.out; have hnc13 := NB254_251.out; have hcz14_0 : w10.cell? ⟨gb251, 0, none⟩ = some (.bool a0_0) := (blk_cell BK251.out 0).trans rfl; have hcz14_1 : w10.cell? ⟨gb251, 1, none⟩ = some (.slice A0_1 l0_1.length c0_1) := (blk_cell BK251.out 1).trans rfl; have hfz14_0 := blk_frozen BK251.out 0; have hfz14_1 := blk_frozen BK251.out 1; have hnb15 := NB252_253.out; have hnc15 := NB253_252.out; have hnb16 := NB252_254.out; have hnc16 := NB254_252.out; have hcz17_0 : w10.cell? ⟨gb252, 0, none⟩ = some (.bool a1_0) := (blk_cell BK252.out 0).trans rfl; have hcz17_1 : w10.cell? ⟨gb252, 1, none⟩ = some (.slice A1_1 l1_1.length c1_1) := (blk_cell BK252.out 1).trans rfl; have hfz17_0 := blk_frozen BK252.out 0; have hfz17_1 := blk_frozen BK252.out 1) | ((with_reducible refine gate_callee (f := 43) rfl ?_); refine goesL_ (some 13) rfl rfl Tryz.func43 (by kernel_rfl) rfl #[.slice A0_1 l0_1.length c0_1, .slice A1_1 l1_1.length c1_1] rfl (by (try simp only [List.map_toArray, List.map_cons, List.map_nil]); first | done | rfl | (simp only [List.length_drop, List.length_take]; rfl)) ?_; (with_reducible refine (spec_split.calls k _ _ l0_1 _ _ l1_1 t255 t256 _ ?side1 ?side2 ?side3 ?side4 A3.out).mono ?_); (case side1 => repeat (first | exact (Kd.C_below HR0_1.out HB.out) | (with_reducible refine Kd.C_alloc ?_ _) | (with_reducible refine Kd.C_drewN ?_ _) | (with_reducible refine Kd.C_drew ?_))); (case side2 => exact HC0_1.out); (case side3 => repeat (first | exact (Kd.C_below HR1_1.out HB.out) | (with_reducible refine Kd.C_alloc ?_ _) | (with_reducible refine Kd.C_drewN ?_ _) | (with_reducible refine Kd.C_drew ?_))); (case side4 => exact HC1_1.out); rintro e w18 ⟨v257, v259, rfl, ho0, ho1, hb⟩; refine ⟨_, rfl, ?_⟩; have n0_ := Aside0.mk (Kd.R_lower ho0 (below_size (by repeat (first | (with_reducible first | exact HB.out | apply below_alloc | apply pw_below_drewN | apply below_drew1 | refine below_set ?_ GE251.out | refine below_set ?_ GE252.out | refine below_set ?_ GE253.out | refine below_set ?_ GE254.out) | exact HB.out)))); have n1_ := Aside0.mk (Kd.R_lower ho1 (below_size (by repeat (first | (with_reducible first | exact HB.out | apply below_alloc | apply pw_below_drewN | apply below_drew1 | refine below_set ?_ GE251.out | refine below_set ?_ GE252.out | refine below_set ?_ GE253.out | refine below_set ?_ GE254.out) | exact HB.out)))); have n2_ := Aside0.mk (blk_below (g := gb251) (o := .cells #[.bool a0_0, .slice A0_1 l0_1.length c0_1] 37 (0, 0)) (by (with_reducible repeat (first | refine blk_drewN ?_ _ | refine blk_drew ?_ | refine blk_alloc ?_ _)); exact BK251.out) hb); have n3_ := Aside0.mk (blk_below (g := gb252) (o := .cells #[.bool a1_0, .slice A1_1 l1_1.length c1_1] 37 (0, 0)) (by (with_reducible repeat (first | refine blk_drewN ?_ _ | refine blk_drew ?_ | refine blk_alloc ?_ _)); exact BK252.out) hb); have n4_ := Aside0.mk (blk_below (g := gb253) (o := .cells #[.bool false, .slice none 0 0] 37 (0, 0)) (by (with_reducible repeat (first | refine blk_drewN ?_ _ | refine blk_drew ?_ | refine blk_alloc ?_ _)); exact BK253.out) hb); have n5_ := Aside0.mk (blk_below (g := gb254) (o := .cells #[.bool false, .slice none 0 0] 37 (0, 0)) (by (with_reducible repeat (first | refine blk_drewN ?_ _ | refine blk_drew ?_ | refine blk_alloc ?_ _)); exact BK254.out) hb); have n6_ := Aside0.mk (below_step (by repeat (first | (with_reducible first | exact HB.out | apply below_alloc | apply pw_below_drewN | apply below_drew1 | refine below_set ?_ GE251.out | refine below_set ?_ GE252.out | refine below_set ?_ GE253.out | refine below_set ?_ GE254.out) | exact HB.out)) hb); clear BK251; clear BK252; clear BK253; clear BK254; clear HB; have HO258 := n0_; have HO260 := n1_; have BK251 := n2_; have BK252 := n3_; have BK253 := n4_; have BK254 := n5_; have HB := n6_; clear n0_ n1_ n2_ n3_ n4_ n5_ n6_; (try clear hb); (try clear hb2); (try clear hk); (try clear hi); (try clear ho0); (try clear ho1); have hcz19_0 : w18.cell? ⟨gb251, 0, none⟩ = some (.bool a0_0) := (blk_cell BK251.out 0).trans rfl; have hcz19_1 : w18.cell? ⟨gb251, 1, none⟩ = some (.slice A0_1 l0_1.length c0_1) := (blk_cell BK251.out 1).trans rfl; have hfz19_0 := blk_frozen BK251.out 0; have hfz19_1 := blk_frozen BK251.out 1; have hcz20_0 : w18.cell? ⟨gb252, 0, none⟩ = some (.bool a1_0) := (blk_cell BK252.out 0).trans rfl; have hcz20_1 : w18.cell? ⟨gb252, 1, none⟩ = some (.slice A1_1 l1_1.length c1_1) := (blk_cell BK252.out 1).trans rfl; have hfz20_0 := blk_frozen BK252.out 0; have hfz20_1 := blk_frozen BK252.out 1))
    have n0_ := Aside0.mk (Kd.R_drew HO258.out)
    have n1_ := Aside0.mk (Kd.R_drew HO260.out)
    have n2_ := Aside0.mk (blk_drew BK251.out)
    have n3_ := Aside0.mk (blk_drew BK252.out)
    have n4_ := Aside0.mk (blk_drew BK253.out)
    have n5_ := Aside0.mk (blk_drew BK254.out)
    have n6_ := Aside0.mk (below_drew1 HB.out)
    clear HO258
    clear HO260
    clear BK251
    clear BK252
    clear BK253
    clear BK254
    clear HB
    have HO258 := n0_
    have HO260 := n1_
    have BK251 := n2_
    have BK252 := n3_
    have BK253 := n4_
    have BK254 := n5_
    have HB := n6_
    clear n0_ n1_ n2_ n3_ n4_ n5_ n6_
    obtain ⟨Ao22, co22, eo22⟩ := Kd.R_slice HO258.out
    (first | subst eo22 | (injection eo22 with f1_ f2_ f3_; have f4_ := f1_.symm; have f5_ := f3_.symm; clear f1_ f2_ f3_; subst f4_; subst f5_))
    refine start_ (n := 8) (S := fun w' => w'.cell? ⟨gb252, 0, none⟩ = some (.bool a1_0) ∧ w'.cell? ⟨gb252, 1, none⟩ = some (.slice A1_1 l1_1.length c1_1)) (ds := []) #[false, false, false, false, false, false, false, false] (by kernel_rfl) rfl rfl ⟨(blk_cell BK252.out 0).trans rfl, (blk_cell BK252.out 1).trans rfl⟩ (fun hHeld => ?_); refine with_tabW spec_Int_Floor.tab3 spec_Int_Floor.bits3 (fun HT_ HW_ => ?_)
    generalize w18.drew = w21 at HO258 HO260 BK251 BK252 BK253 BK254 HB hHeld ⊢
    refine pure_ (i := 0) (N := some 21) (v := ?_) (a' := ?_) #[true, false, false, false, false, false, false, false] rfl rfl (any_of HT_.out (by kernel_rfl)) (fun _ _ _ h => h) (Or.inl ⟨by rfl, ?_⟩) ?_ ?_
    rotate_left
    · intro w'
      go_simp
      with_reducible rfl
    rotate_left
    · simp only [Act.put, List.setIfInBounds_toArray, List.set_cons_zero, List.set_cons_succ, i64_w, i32_w]
      rfl
    refine pure_ (i := 2) (N := some 23) (v := ?_) (a' := ?_) #[true, false, true, false, false, false, false, false] rfl rfl (any_of HT_.out (by kernel_rfl)) (fun _ _ _ h => h) (Or.inl ⟨by rfl, ?_⟩) ?_ ?_
    rotate_left
    · intro w'
      go_simp
      with_reducible rfl
    rotate_left
    · simp only [Act.put, List.setIfInBounds_toArray, List.set_cons_zero, List.set_cons_succ, i64_w, i32_w]
      rfl
    refine pure_ (i := 4) (N := some 25) (v := ?_) (a' := ?_) #[true, false, true, false, true, false, false, false] rfl rfl (any_of HT_.out (by kernel_rfl)) (fun _ _ _ h => h) (Or.inl ⟨by rfl, ?_⟩) ?_ ?_
    rotate_left
    · intro w'
      go_simp
      with_reducible rfl
    rotate_left
    · simp only [Act.put, List.setIfInBounds_toArray, List.set_cons_zero, List.set_cons_succ, i64_w, i32_w]
      rfl
    refine take_ (i := 3) (N := some 24) (v := ?_) (a' := ?_) #[true, false, true, true, true, false, false, false] rfl rfl (take_ofW HT_.out HW_.out (by kernel_rfl)) (fun _ _ _ h => h) (Or.inl ⟨by rfl, ?_⟩) hHeld ?_ ?_
    rotate_left
    · rintro w' ⟨s0, s1⟩
      go_simp
      with_reducible rfl
    rotate_left
    · simp only [Act.put, List.setIfInBounds_toArray, List.set_cons_zero, List.set_cons_succ, i64_w, i32_w]
      rfl
    refine one_ (i := 1) (N := some 22) #[true, true, true, true, true, false, false, false] rfl rfl (one_of HT_.out (by kernel_rfl)) (by decide) (fun K hK => ?_)
    refine goes_ Tryz.func20 (by kernel_rfl) rfl #[.bool false, .slice Ao22 t255.length co22] (by rfl) rfl rfl (by (try simp only [List.map_toArray, List.map_cons, List.map_nil]); first | done | rfl | (simp only [List.length_drop, List.length_take]; rfl)) ?_
    with_reducible refine (spec_Of.calls k false _ _ t255 t261 t262 _ ?side1 ?side2 A5.out).mono ?_
    (case side1 => repeat (first | exact (Kd.R_reads' HO258.out).2.2 | (with_reducible refine Kd.C_alloc ?_ _) | (with_reducible refine Kd.C_drewN ?_ _) | (with_reducible refine Kd.C_drew ?_)))
    (case side2 => exact (Kd.R_reads' HO258.out).2.1)
    rintro e w23 ⟨v263, rfl, ho0, hb⟩
    refine ⟨_, rfl, ?_⟩
    have n0_ := Aside0.mk (Kd.R_elder' (by (with_reducible repeat (first | apply Kd.R_alloc | apply Kd.R_drewN | apply Kd.R_drew)); exact HO258.out) (Kd.R_base ho0) hb)
    have n1_ := Aside0.mk (Kd.R_elder' (by (with_reducible repeat (first | apply Kd.R_alloc | apply Kd.R_drewN | apply Kd.R_drew)); exact HO260.out) (Kd.R_base ho0) hb)
    have n2_ := Aside0.mk (Kd.R_lower (Kd.R_new' (Kd.R_new' ho0 (Kd.R_lt (by (with_reducible repeat (first | apply Kd.R_alloc | apply Kd.R_drewN | apply Kd.R_drew)); exact HO258.out))) (Kd.R_lt (by (with_reducible repeat (first | apply Kd.R_alloc | apply Kd.R_drewN | apply Kd.R_drew)); exact HO260.out))) (below_size (by repeat (first | (with_reducible first | exact HB.out | apply below_alloc | apply pw_below_drewN | apply below_drew1 | refine below_set ?_ GE251.out | refine below_set ?_ GE252.out | refine below_set ?_ GE253.out | refine below_set ?_ GE254.out) | exact HB.out))))
    have n3_ := Aside0.mk (blk_below (g := gb251) (o := .cells #[.bool a0_0, .slice A0_1 l0_1.length c0_1] 37 (0, 0)) (by (with_reducible repeat (first | refine blk_drewN ?_ _ | refine blk_drew ?_ | refine blk_alloc ?_ _)); exact BK251.out) hb)
    have n4_ := Aside0.mk (blk_below (g := gb252) (o := .cells #[.bool a1_0, .slice A1_1 l1_1.length c1_1] 37 (0, 0)) (by (with_reducible repeat (first | refine blk_drewN ?_ _ | refine blk_drew ?_ | refine blk_alloc ?_ _)); exact BK252.out) hb)
    have n5_ := Aside0.mk (blk_below (g := gb253) (o := .cells #[.bool false, .slice none 0 0] 37 (0, 0)) (by (with_reducible repeat (first | refine blk_drewN ?_ _ | refine blk_drew ?_ | refine blk_alloc ?_ _)); exact BK253.out) hb)
    have n6_ := Aside0.mk (blk_below (g := gb254) (o := .cells #[.bool false, .slice none 0 0] 37 (0, 0)) (by (with_reducible repeat (first | refine blk_drewN ?_ _ | refine blk_drew ?_ | refine blk_alloc ?_ _)); exact BK254.out) hb)
    have n7_ := Aside0.mk (below_step (by repeat (first | (with_reducible first | exact HB.out | apply below_alloc | apply pw_below_drewN | apply below_drew1 | refine below_set ?_ GE251.out | refine below_set ?_ GE252.out | refine below_set ?_ GE253.out | refine below_set ?_ GE254.out) | exact HB.out)) hb)
    clear HO258
    clear HO260
    clear BK251
    clear BK252
    clear BK253
    clear BK254
    clear HB
    have HO258 := n0_
    have HO260 := n1_
    have HO264 := n2_
    have BK251 := n3_
    have BK252 := n4_
    have BK253 := n5_
    have BK254 := n6_
    have HB := n7_
    clear n0_ n1_ n2_ n3_ n4_ n5_ n6_ n7_
    (try clear hb)
    (try clear hb2)
    (try clear hk)
    (try clear hi)
    (try clear ho0)
    obtain ⟨Ao24, co24, eo24⟩ := Kd.R_slice HO260.out
    (first | subst eo24 | (injection eo24 with f1_ f2_ f3_; have f4_ := f1_.symm; have f5_ := f3_.symm; clear f1_ f2_ f3_; subst f4_; subst f5_))
    refine hK.out _ _ ⟨(blk_cell BK252.out 0).trans rfl, (blk_cell BK252.out 1).trans rfl⟩ (fun hHeld => ?_)
    clear hK K
    refine norm_ (a' := ?_) ?_ ?_
    rotate_left
    · show Act.put _ (some 22) _ = _
      simp only [Act.put, List.setIfInBounds_toArray, List.set_cons_zero, List.set_cons_succ, i64_w, i32_w]
      rfl
    refine one_ (i := 5) (N := some 26) #[true, true, true, true, true, true, false, false] rfl rfl (one_of HT_.out (by kernel_rfl)) (by decide) (fun K hK => ?_)
    refine goes_ Tryz.func20 (by kernel_rfl) rfl #[.bool a1_0, .slice Ao24 t256.length co24] (by rfl) rfl rfl (by (try simp only [List.map_toArray, List.map_cons, List.map_nil]); first | done | rfl | (simp only [List.length_drop, List.length_take]; rfl)) ?_
    with_reducible refine (spec_Of.calls k a1_0 _ _ t256 t265 t266 _ ?side1 ?side2 A6.out).mono ?_
    (case side1 => repeat (first | exact (Kd.R_reads' HO260.out).2.2 | (with_reducible refine Kd.C_alloc ?_ _) | (with_reducible refine Kd.C_drewN ?_ _) | (with_reducible refine Kd.C_drew ?_)))
    (case side2 => exact (Kd.R_reads' HO260.out).2.1)
    rintro e w25 ⟨v267, rfl, ho0, hb⟩
    refine ⟨_, rfl, ?_⟩
    have n0_ := Aside0.mk (Kd.R_elder' (by (with_reducible repeat (first | apply Kd.R_alloc | apply Kd.R_drewN | apply Kd.R_drew)); exact HO258.out) (Kd.R_base ho0) hb)
    have n1_ := Aside0.mk (Kd.R_elder' (by (with_reducible repeat (first | apply Kd.R_alloc | apply Kd.R_drewN | apply Kd.R_drew)); exact HO260.out) (Kd.R_base ho0) hb)
    have n2_ := Aside0.mk (Kd.R_elder' (by (with_reducible repeat (first | apply Kd.R_alloc | apply Kd.R_drewN | apply Kd.R_drew)); exact HO264.out) (Kd.R_base ho0) hb)
    have n3_ := Aside0.mk (Kd.R_lower (Kd.R_new' (Kd.R_new' (Kd.R_new' ho0 (Kd.R_lt (by (with_reducible repeat (first | apply Kd.R_alloc | apply Kd.R_drewN | apply Kd.R_drew)); exact HO258.out))) (Kd.R_lt (by (with_reducible repeat (first | apply Kd.R_alloc | apply Kd.R_drewN | apply Kd.R_drew)); exact HO260.out))) (Kd.R_lt (by (with_reducible repeat (first | apply Kd.R_alloc | apply Kd.R_drewN | apply Kd.R_drew)); exact HO264.out))) (below_size (by repeat (first | (with_reducible first | exact HB.out | apply below_alloc | apply pw_below_drewN | apply below_drew1 | refine below_set ?_ GE251.out | refine below_set ?_ GE252.out | refine below_set ?_ GE253.out | refine below_set ?_ GE254.out) | exact HB.out))))
    have n4_ := Aside0.mk (blk_below (g := gb251) (o := .cells #[.bool a0_0, .slice A0_1 l0_1.length c0_1] 37 (0, 0)) (by (with_reducible repeat (first | refine blk_drewN ?_ _ | refine blk_drew ?_ | refine blk_alloc ?_ _)); exact BK251.out) hb)
    have n5_ := Aside0.mk (blk_below (g := gb252) (o := .cells #[.bool a1_0, .slice A1_1 l1_1.length c1_1] 37 (0, 0)) (by (with_reducible repeat (first | refine blk_drewN ?_ _ | refine blk_drew ?_ | refine blk_alloc ?_ _)); exact BK252.out) hb)
    have n6_ := Aside0.mk (blk_below (g := gb253) (o := .cells #[.bool false, .slice none 0 0] 37 (0, 0)) (by (with_reducible repeat (first | refine blk_drewN ?_ _ | refine blk_drew ?_ | refine blk_alloc ?_ _)); exact BK253.out) hb)
    have n7_ := Aside0.mk (blk_below (g := gb254) (o := .cells #[.bool false, .slice none 0 0] 37 (0, 0)) (by (with_reducible repeat (first | refine blk_drewN ?_ _ | refine blk_drew ?_ | refine blk_alloc ?_ _)); exact BK254.out) hb)
    have n8_ := Aside0.mk (below_step (by repeat (first | (with_reducible first | exact HB.out | apply below_alloc | apply pw_below_drewN | apply below_drew1 | refine below_set ?_ GE251.out | refine below_set ?_ GE252.out | refine below_set ?_ GE253.out | refine below_set ?_ GE254.out) | exact HB.out)) hb)
    clear HO258
    clear HO260
    clear HO264
    clear BK251
    clear BK252
    clear BK253
    clear BK254
    clear HB
    have HO258 := n0_
    have HO260 := n1_
    have HO264 := n2_
    have HO268 := n3_
    have BK251 := n4_
    have BK252 := n5_
    have BK253 := n6_
    have BK254 := n7_
    have HB := n8_
    clear n0_ n1_ n2_ n3_ n4_ n5_ n6_ n7_ n8_
    (try clear hb)
    (try clear hb2)
    (try clear hk)
    (try clear hi)
    (try clear ho0)
    obtain ⟨Ao27, co27, eo27⟩ := Kd.R_slice HO264.out
    (first | subst eo27 | (injection eo27 with f1_ f2_ f3_; have f4_ := f1_.symm; have f5_ := f3_.symm; clear f1_ f2_ f3_; subst f4_; subst f5_))
    obtain ⟨Ao30, co30, eo30⟩ := Kd.R_slice HO268.out
    (first | subst eo30 | (injection eo30 with f1_ f2_ f3_; have f4_ := f1_.symm; have f5_ := f3_.symm; clear f1_ f2_ f3_; subst f4_; subst f5_))
    refine hK.out _ _ ⟨(blk_cell BK252.out 0).trans rfl, (blk_cell BK252.out 1).trans rfl⟩ (fun hHeld => ?_)
    clear hK K
    refine norm_ (a' := ?_) ?_ ?_
    rotate_left
    · show Act.put _ (some 26) _ = _
      simp only [Act.put, List.setIfInBounds_toArray, List.set_cons_zero, List.set_cons_succ, i64_w, i32_w]
      rfl
    refine one_ (i := 6) (N := none) #[true, true, true, true, true, true, true, false] rfl rfl (one_of HT_.out (by kernel_rfl)) (by decide) (fun K hK => ?_)
    have hs26 : w25.cell? ⟨gb253, 0, none⟩ = some (.bool false) := (blk_cell BK253.out 0).trans rfl
    have hfs26 := blk_frozen BK253.out 0
    have hns26_0 := NB251_253.out
    have hns26_1 := NB252_253.out
    have hns26_3 := NB254_253.out
    have hms26_0 := NB253_251.out
    have hms26_1 := NB253_252.out
    have hms26_3 := NB253_254.out
    have hs28 : w25.cell? ⟨gb253, 1, none⟩ = some (.slice none 0 0) := (blk_cell BK253.out 1).trans rfl
    have hfs28 := blk_frozen BK253.out 1
    have hns28_0 := NB251_253.out
    have hns28_1 := NB252_253.out
    have hns28_3 := NB254_253.out
    have hms28_0 := NB253_251.out
    have hms28_1 := NB253_252.out
    have hms28_3 := NB253_254.out
    refine skip_ (w1 := ?_) (by rfl) rfl ?_ ?_
    rotate_left
    · go_simp
      rfl
    refine hK.out _ _ ⟨((cell_far (p := ⟨gb253, _, none⟩) NB252_253.out _).trans (((cell_far (p := ⟨gb253, _, none⟩) NB252_253.out _).trans (hHeld.1)))), ((cell_far (p := ⟨gb253, _, none⟩) NB252_253.out _).trans (((cell_far (p := ⟨gb253, _, none⟩) NB252_253.out _).trans (hHeld.2))))⟩ (fun hHeld => ?_)
    clear hK K
    refine one_ (i := 7) (N := none) #[true, true, true, true, true, true, true, true] rfl rfl (one_of HT_.out (by kernel_rfl)) (by decide) (fun K hK => ?_)
    have hs29 : w25.cell? ⟨gb254, 0, none⟩ = some (.bool false) := (blk_cell BK254.out 0).trans rfl
    have hfs29 := blk_frozen BK254.out 0
    have hns29_0 := NB251_254.out
    have hns29_1 := NB252_254.out
    have hns29_2 := NB253_254.out
    have hms29_0 := NB254_251.out
    have hms29_1 := NB254_252.out
    have hms29_2 := NB254_253.out
    have hs31 : w25.cell? ⟨gb254, 1, none⟩ = some (.slice none 0 0) := (blk_cell BK254.out 1).trans rfl
    have hfs31 := blk_frozen BK254.out 1
    have hns31_0 := NB251_254.out
    have hns31_1 := NB252_254.out
    have hns31_2 := NB253_254.out
    have hms31_0 := NB254_251.out
    have hms31_1 := NB254_252.out
    have hms31_2 := NB254_253.out
    refine skip_ (w1 := ?_) (by rfl) rfl ?_ ?_
    rotate_left
    · go_simp
      rfl
    refine hK.out _ _ ⟨((cell_far (p := ⟨gb254, _, none⟩) NB252_254.out _).trans (((cell_far (p := ⟨gb254, _, none⟩) NB252_254.out _).trans (hHeld.1)))), ((cell_far (p := ⟨gb254, _, none⟩) NB252_254.out _).trans (((cell_far (p := ⟨gb254, _, none⟩) NB252_254.out _).trans (hHeld.2))))⟩ (fun hHeld => ?_)
    clear hK K
    refine done_ (done_of HT_.out (by kernel_rfl)) ?_
    try go_wp2
    refine bodyPost_ret (results_cc rfl _ _ gb253 gb254 37 37 #[.bool t261, .slice Ao27 t262.length co27] #[.bool t265, .slice Ao30 t266.length co30] (0, 0) (0, 0) _ _ rfl (by (with_reducible repeat (first | refine blk_drewN ?_ _ | refine blk_drew ?_ | refine blk_alloc ?_ _)); refine blk_far ?_ NB253_254.out _; (with_reducible repeat (first | refine blk_drewN ?_ _ | refine blk_drew ?_ | refine blk_alloc ?_ _)); refine blk_far ?_ NB253_254.out _; (with_reducible repeat (first | refine blk_drewN ?_ _ | refine blk_drew ?_ | refine blk_alloc ?_ _)); refine blk_put (cs := #[.bool t261, .slice none 0 0]) ?_ 1 _ rfl; (with_reducible repeat (first | refine blk_drewN ?_ _ | refine blk_drew ?_ | refine blk_alloc ?_ _)); refine blk_put (cs := #[.bool false, .slice none 0 0]) ?_ 0 _ rfl; (with_reducible repeat (first | refine blk_drewN ?_ _ | refine blk_drew ?_ | refine blk_alloc ?_ _)); exact BK253.out) Tryz.underlying37 rfl (by kernel_rfl) rfl (by (with_reducible repeat (first | refine blk_drewN ?_ _ | refine blk_drew ?_ | refine blk_alloc ?_ _)); refine blk_put (cs := #[.bool t265, .slice none 0 0]) ?_ 1 _ rfl; (with_reducible repeat (first | refine blk_drewN ?_ _ | refine blk_drew ?_ | refine blk_alloc ?_ _)); refine blk_put (cs := #[.bool false, .slice none 0 0]) ?_ 0 _ rfl; (with_reducible repeat (first | refine blk_drewN ?_ _ | refine blk_drew ?_ | refine blk_alloc ?_ _)); refine blk_far ?_ NB254_253.out _; (with_reducible repeat (first | refine blk_drewN ?_ _ | refine blk_drew ?_ | refine blk_alloc ?_ _)); refine blk_far ?_ NB254_253.out _; (with_reducible repeat (first | refine blk_drewN ?_ _ | refine blk_drew ?_ | refine blk_alloc ?_ _)); exact BK254.out) Tryz.underlying37 rfl (by kernel_rfl)) rfl ?_
    exact ⟨_, _, by first | rfl | (simp [errW_none, errW_some] <;> rfl) | (simp [*, errW_none, errW_some] <;> rfl), by (with_reducible repeat (first | apply Kd.R_alloc | apply Kd.R_drewN | apply Kd.R_drew)); exact Kd.R_mono (Kd.R_far (p := ⟨gb254, 1, none⟩) (Kd.R_far (p := ⟨gb254, 0, none⟩) (Kd.R_far (p := ⟨gb253, 1, none⟩) (Kd.R_far (p := ⟨gb253, 0, none⟩) (Kd.R_types (Kd.R_types HO264.out BK253.out (by decide)) BK254.out (by decide)) (fun _ hk => hk.1.2) (.bool t261)) (fun _ hk => hk.1.2) (.slice Ao27 t262.length co27)) (fun _ hk => hk.2) (.bool t265)) (fun _ hk => hk.2) (.slice Ao30 t266.length co30)) (fun _ hk => hk.1.1.2), by (with_reducible repeat (first | apply Kd.R_alloc | apply Kd.R_drewN | apply Kd.R_drew)); exact Kd.R_mono (Kd.R_far (p := ⟨gb254, 1, none⟩) (Kd.R_far (p := ⟨gb254, 0, none⟩) (Kd.R_far (p := ⟨gb253, 1, none⟩) (Kd.R_far (p := ⟨gb253, 0, none⟩) (Kd.R_types (Kd.R_types HO268.out BK253.out (by decide)) BK254.out (by decide)) (fun _ hk => hk.1.2) (.bool t261)) (fun _ hk => hk.1.2) (.slice Ao27 t262.length co27)) (fun _ hk => hk.2) (.bool t265)) (fun _ hk => hk.2) (.slice Ao30 t266.length co30)) (fun _ hk => hk.1.1.2), by repeat (first | (with_reducible first | exact HB.out | apply below_alloc | apply pw_below_drewN | apply below_drew1 | refine below_set ?_ GE251.out | refine below_set ?_ GE252.out | refine below_set ?_ GE253.out | refine below_set ?_ GE254.out) | exact HB.out)⟩
  · rw [if_neg c4] at H
    have c4b0 : (a0_0 == a1_0) = false := by simpa using c4
    (try (have c4b1 : decide (a0_0 = a1_0) = false := by simpa using c4))
    (try (have c4b2 : (a0_0 == a1_0) = false := by simpa using c4))
    (try (have c4b3 : ¬ (a0_0 = a1_0) := by simpa using c4))
    clear c4
    by_cases c32 : (t256.length : Int) = 0
    · rw [if_pos c32] at H
      have c32b0 : ((t256.length : Int) == 0) = true := beq_iff_eq.mpr c32
      have c32b1 : ((t256.length : Int) != 0) = false := bne_eq_false_iff_eq.mpr c32
      clear c32
      replace H := Option.bind_eq_some_iff.mp H
      obtain ⟨⟨t269, t270⟩, A330, H⟩ := H
      replace H : (some (t269, t270, false, ([] : List Int))) = some (r1, r2, r3, r4) := H
      have A33 := Aside0.mk A330
      clear A330
      simp only [Option.some.injEq, Prod.mk.injEq] at H
      obtain ⟨rfl, rfl, rfl, rfl⟩ := H
      go_enter Tryz.func36, Tryz.ntmps36
      go_wp2_with (first | ((with_reducible refine gate_dst (N := 2) rfl ?_); refine box_event ?hg (N := 2) ?hd (cs := #[.bool a0_0, .slice A0_1 l0_1.length c0_1]) (t := 37) ?hr ?_; (case hd => rfl); (case hg => rfl); (case hr => first | (go_simp; done) | (go_simp; rfl)); intro gb251 hg w34 hbox hb; have n0_ := Aside0.mk (below_step (by repeat (first | (with_reducible first | exact HB.out | apply below_alloc | apply pw_below_drewN | apply below_drew1) | exact HB.out)) hb); have n1_ := Aside0.mk (hbox); have n2_ := Aside0.mk ((by rw [hg]; exact (below_size (by repeat (first | (with_reducible first | exact HB.out | apply below_alloc | apply pw_below_drewN | apply below_drew1) | exact HB.out))) : w.heap.size ≤ gb251)); have n3_ := Aside0.mk ((by rw [hg]; exact (below_size (by repeat (first | (with_reducible first | exact HB.out | apply below_alloc | apply pw_below_drewN | apply below_drew1) | exact HB.out))) : w.heap.size ≤ gb251)); clear HB; have HB := n0_; have BK251 := n1_; have GW251 := n2_; have GE251 := n3_; clear n0_ n1_ n2_ n3_; clear hb hbox hg) | ((with_reducible refine gate_dst (N := 3) rfl ?_); refine box_event ?hg (N := 3) ?hd (cs := #[.bool a1_0, .slice A1_1 l1_1.length c1_1]) (t := 37) ?hr ?_; (case hd => rfl); (case hg => rfl); (case hr => first | (go_simp; done) | (go_simp; rfl)); intro gb252 hg w35 hbox hb; have n0_ := Aside0.mk (blk_below (g := gb251) (o := .cells #[.bool a0_0, .slice A0_1 l0_1.length c0_1] 37 (0, 0)) (by (with_reducible repeat (first | refine blk_drewN ?_ _ | refine blk_drew ?_ | refine blk_alloc ?_ _)); exact BK251.out) hb); have n1_ := Aside0.mk (below_step (by repeat (first | (with_reducible first | exact HB.out | apply below_alloc | apply pw_below_drewN | apply below_drew1 | refine below_set ?_ GE251.out) | exact HB.out)) hb); have n2_ := Aside0.mk (hbox); have n3_ := Aside0.mk ((by rw [hg]; exact (below_size (by repeat (first | (with_reducible first | exact HB.out | apply below_alloc | apply pw_below_drewN | apply below_drew1 | refine below_set ?_ GE251.out) | exact HB.out))) : w.heap.size ≤ gb252)); have n4_ := Aside0.mk ((by rw [hg]; exact (below_size (by repeat (first | (with_reducible first | exact HB.out | apply below_alloc | apply pw_below_drewN | apply below_drew1 | refine below_set ?_ GE251.out) | exact HB.out))) : w.heap.size ≤ gb252)); have n5_ := Aside0.mk ((by rw [hg]; exact Nat.ne_of_lt (blk_lt (g := gb251) (o := .cells #[.bool a0_0, .slice A0_1 l0_1.length c0_1] 37 (0, 0)) (by (with_reducible repeat (first | refine blk_drewN ?_ _ | refine blk_drew ?_ | refine blk_alloc ?_ _)); exact BK251.out)) : gb251 ≠ gb252)); have n6_ := Aside0.mk ((by rw [hg]; exact Nat.ne_of_gt (blk_lt (g := gb251) (o := .cells #[.bool a0_0, .slice A0_1 l0_1.length c0_1] 37 (0, 0)) (by (with_reducible repeat (first | refine blk_drewN ?_ _ | refine blk_drew ?_ | refine blk_alloc ?_ _)); exact BK251.out)) : gb252 ≠ gb251)); clear BK251; clear HB; have BK251 := n0_; have HB := n1_; have BK252 := n2_; have GW252 := n3_; have GE252 := n4_; have NB251_252 := n5_; have NB252_251 := n6_; clear n0_ n1_ n2_ n3_ n4_ n5_ n6_; clear hb hbox hg) | ((with_reducible refine gate_dst (N := 4) rfl ?_); refine box_event ?hg (N := 4) ?hd (cs := #[.bool false, .slice none 0 0]) (t := 37) ?hr ?_; (case hd => rfl); (case hg => rfl); (case hr => first | (go_simp; done) | (go_simp; rfl)); intro gb253 hg w36 hbox hb; have n0_ := Aside0.mk (blk_below (g := gb251) (o := .cells #[.bool a0_0, .slice A0_1 l0_1.length c0_1] 37 (0, 0)) (by (with_reducible repeat (first | refine blk_drewN ?_ _ | refine blk_drew ?_ | refine blk_alloc ?_ _)); exact BK251.out) hb); have n1_ := Aside0.mk (blk_below (g := gb252) (o := .cells #[.bool a1_0, .slice A1_1 l1_1.length c1_1] 37 (0, 0)) (by (with_reducible repeat (first | refine blk_drewN ?_ _ | refine blk_drew ?_ | refine blk_alloc ?_ _)); exact BK252.out) hb); have n2_ := Aside0.mk (below_step (by repeat (first | (with_reducible first | exact HB.out | apply below_alloc | apply pw_below_drewN | apply below_drew1 | refine below_set ?_ GE251.out | refine below_set ?_ GE252.out) | exact HB.out)) hb); have n3_ := Aside0.mk (hbox); have n4_ := Aside0.mk ((by rw [hg]; exact (below_size (by repeat (first | (with_reducible first | exact HB.out | apply below_alloc | apply pw_below_drewN | apply below_drew1 | refine below_set ?_ GE251.out | refine below_set ?_ GE252.out) | exact HB.out))) : w.heap.size ≤ gb253)); have n5_ := Aside0.mk ((by rw [hg]; exact (below_size (by repeat (first | (with_reducible first | exact HB.out | apply below_alloc | apply pw_below_drewN | apply below_drew1 | refine below_set ?_ GE251.out | refine below_set ?_ GE252.out) | exact HB.out))) : w.heap.size ≤ gb253)); have n6_ := Aside0.mk ((by rw [hg]; exact Nat.ne_of_lt (blk_lt (g := gb251) (o := .cells #[.bool a0_0, .slice A0_1 l0_1.length c0_1] 37 (0, 0)) (by (with_reducible repeat (first | refine blk_drewN ?_ _ | refine blk_drew ?_ | refine blk_alloc ?_ _)); exact BK251.out)) : gb251 ≠ gb253)); have n7_ := Aside0.mk ((by rw [hg]; exact Nat.ne_of_gt (blk_lt (g := gb251) (o := .cells #[.bool a0_0, .slice A0_1 l0_1.length c0_1] 37 (0, 0)) (by (with_reducible repeat (first | refine blk_drewN ?_ _ | refine blk_drew ?_ | refine blk_alloc ?_ _)); exact BK251.out)) : gb253 ≠ gb251)); have n8_ := Aside0.mk ((by rw [hg]; exact Nat.ne_of_lt (blk_lt (g := gb252) (o := .cells #[.bool a1_0, .slice A1_1 l1_1.length c1_1] 37 (0, 0)) (by (with_reducible repeat (first | refine blk_drewN ?_ _ | refine blk_drew ?_ | refine blk_alloc ?_ _)); exact BK252.out)) : gb252 ≠ gb253)); have n9_ := Aside0.mk ((by rw [hg]; exact Nat.ne_of_gt (blk_lt (g := gb252) (o := .cells #[.bool a1_0, .slice A1_1 l1_1.length c1_1] 37 (0, 0)) (by (with_reducible repeat (first | refine blk_drewN ?_ _ | refine blk_drew ?_ | refine blk_alloc ?_ _)); exact BK252.out)) : gb253 ≠ gb252)); clear BK251; clear BK252; clear HB; have BK251 := n0_; have BK252 := n1_; have HB := n2_; have BK253 := n3_; have GW253 := n4_; have GE253 := n5_; have NB251_253 := n6_; have NB253_251 := n7_; have NB252_253 := n8_; have NB253_252 := n9_; clear n0_ n1_ n2_ n3_ n4_ n5_ n6_ n7_ n8_ n9_; clear hb hbox hg) | ((with_reducible refine gate_dst (N := 5) rfl ?_); refine box_event ?hg (N := 5) ?hd (cs := #[.bool false, .slice none 0 0]) (t := 37) ?hr ?_; (case hd => rfl); (case hg => rfl); (case hr => first | (go_simp; done) | (go_simp; rfl)); intro gb254 hg w37 hbox hb; have n0_ := Aside0.mk (blk_below (g := gb251) (o := .cells #[.bool a0_0, .slice A0_1 l0_1.length c0_1] 37 (0, 0)) (by (with_reducible repeat (first | refine blk_drewN ?_ _ | refine blk_drew ?_ | refine blk_alloc ?_ _)); exact BK251.out) hb); have n1_ := Aside0.mk (blk_below (g := gb252) (o := .cells #[.bool a1_0, .slice A1_1 l1_1.length c1_1] 37 (0, 0)) (by (with_reducible repeat (first | refine blk_drewN ?_ _ | refine blk_drew ?_ | refine blk_alloc ?_ _)); exact BK252.out) hb); have n2_ := Aside0.mk (blk_below (g := gb253) (o := .cells #[.bool false, .slice none 0 0] 37 (0, 0)) (by (with_reducible repeat (first | refine blk_drewN ?_ _ | refine blk_drew ?_ | refine blk_alloc ?_ _)); exact BK253.out) hb); have n3_ := Aside0.mk (below_step (by repeat (first | (with_reducible first | exact HB.out | apply below_alloc | apply pw_below_drewN | apply below_drew1 | refine below_set ?_ GE251.out | refine below_set ?_ GE252.out | refine below_set ?_ GE253.out) | exact HB.out)) hb); have n4_ := Aside0.mk (hbox); have n5_ := Aside0.mk ((by rw [hg]; exact (below_size (by repeat (first | (with_reducible first | exact HB.out | apply below_alloc | apply pw_below_drewN | apply below_drew1 | refine below_set ?_ GE251.out | refine below_set ?_ GE252.out | refine below_set ?_ GE253.out) | exact HB.out))) : w.heap.size ≤ gb254)); have n6_ := Aside0.mk ((by rw [hg]; exact (below_size (by repeat (first | (with_reducible first | exact HB.out | apply below_alloc | apply pw_below_drewN | apply below_drew1 | refine below_set ?_ GE251.out | refine below_set ?_ GE252.out | refine below_set ?_ GE253.out) | exact HB.out))) : w.heap.size ≤ gb254)); have n7_ := Aside0.mk ((by rw [hg]; exact Nat.ne_of_lt (blk_lt (g := gb251) (o := .cells #[.bool a0_0, .slice A0_1 l0_1.length c0_1] 37 (0, 0)) (by (with_reducible repeat (first | refine blk_drewN ?_ _ | refine blk_drew ?_ | refine blk_alloc ?_ _)); exact BK251.out)) : gb251 ≠ gb254)); have n8_ := Aside0.mk ((by rw [hg]; exact Nat.ne_of_gt (blk_lt (g := gb251) (o := .cells #[.bool a0_0, .slice A0_1 l0_1.length c0_1] 37 (0, 0)) (by (with_reducible repeat (first | refine blk_drewN ?_ _ | refine blk_drew ?_ | refine blk_alloc ?_ _)); exact BK251.out)) : gb254 ≠ gb251)); have n9_ := Aside0.mk ((by rw [hg]; exact Nat.ne_of_lt (blk_lt (g := gb252) (o := .cells #[.bool a1_0, .slice A1_1 l1_1.length c1_1] 37 (0, 0)) (by (with_reducible repeat (first | refine blk_drewN ?_ _ | refine blk_drew ?_ | refine blk_alloc ?_ _)); exact BK252.out)) : gb252 ≠ gb254)); have n10_ := Aside0.mk ((by rw [hg]; exact Nat.ne_of_gt (blk_lt (g := gb252) (o := .cells #[.bool a1_0, .slice A1_1 l1_1.length c1_1] 37 (0, 0)) (by (with_reducible repeat (first | refine blk_drewN ?_ _ | refine blk_drew ?_ | refine blk_alloc ?_ _)); exact BK252.out)) : gb254 ≠ gb252)); have n11_ := Aside0.mk ((by rw [hg]; exact Nat.ne_of_lt (blk_lt (g := gb253) (o := .cells #[.bool false, .slice none 0 0] 37 (0, 0)) (by (with_reducible repeat (first | refine blk_drewN ?_ _ | refine blk_drew ?_ | refine blk_alloc ?_ _)); exact BK253.out)) : gb253 ≠ gb254)); have n12_ := Aside0.mk ((by rw [hg]; exact Nat.ne_of_gt (blk_lt (g := gb253) (o := .cells #[.bool false, .slice none 0 0] 37 (0, 0)) (by (with_reducible repeat (first | refine blk_drewN ?_ _ | refine blk_drew ?_ | refine blk_alloc ?_ _)); exact BK253.out)) : gb254 ≠ gb253)); clear BK251; clear BK252; clear BK253; clear HB; have BK251 := n0_; have BK252 := n1_; have BK253 := n2_; have HB := n3_; have BK254 := n4_; have GW254 := n5_; have GE254 := n6_; have NB251_254 := n7_; have NB254_251 := n8_; have NB252_254 := n9_; have NB254_252 := n10_; have NB253_254 := n11_; have NB254_253 := n12_; clear n0_ n1_ n2_ n3_ n4_ n5_ n6_ n7_ n8_ n9_ n10_ n11_ n12_; clear hb hbox hg; have hnb38 := NB251_252.out; have hnc38 := NB252_251.out; have hnb39 := NB251_253.out; have hnc39 := NB253_251.out; have hnb40 := NB251_254.out; have hnc40 := NB254_251.out; have hcz41_0 : w37.cell? ⟨gb251, 0, none⟩ = some (.bool a0_0) := (blk_cell BK251.out 0).trans rfl; have hcz41_1 : w37.cell? ⟨gb251, 1, none⟩ = some (.slice A0_1 l0_1.length c0_1) := (blk_cell BK251.out 1).trans rfl; have hfz41_0 := blk_frozen BK251.out 0; have hfz41_1 := blk_frozen BK251.out 1; have hnb42 := NB252_253.out; have hnc42 := NB253_252.out; have hnb43 := NB252_254.out; have hnc43 := NB254_252.out; have hcz44_0 : w37.cell? ⟨gb252, 0, none⟩ = some (.bool a1_0) := (blk_cell BK252.out 0).trans rfl; have hcz44_1 : w37.cell? ⟨gb252, 1, none⟩ = some (.slice A1_1 l1_1.length c1_1) := (blk_cell BK252.out 1).trans rfl; have hfz44_0 := blk_frozen BK252.out 0; have hfz44_1 := blk_frozen BK252.out 1) | ((with_reducible refine gate_callee (f := 43) rfl ?_); refine goesL_ (some 13) rfl rfl Tryz.func43 (by kernel_rfl) rfl #[.slice A0_1 l0_1.length c0_1, .slice A1_1 l1_1.length c1_1] rfl (by (try simp only [List.map_toArray, List.map_cons, List.map_nil]); first | done | rfl | (simp only [List.length_drop, List.length_take]; rfl)) ?_; (with_reducible refine (spec_split.calls k _ _ l0_1 _ _ l1_1 t255 t256 _ ?side1 ?side2 ?side3 ?side4 A3.out).mono ?_); (case side1 => repeat (first | exact (Kd.C_below HR0_1.out HB.out) | (with_reducible refine Kd.C_alloc ?_ _) | (with_reducible refine Kd.C_drewN ?_ _) | (with_reducible refine Kd.C_drew ?_))); (case side2 => exact HC0_1.out); (case side3 => repeat (first | exact (Kd.C_below HR1_1.out HB.out) | (with_reducible refine Kd.C_alloc ?_ _) | (with_reducible refine Kd.C_drewN ?_ _) | (with_reducible refine Kd.C_drew ?_))); (case side4 => exact HC1_1.out); rintro e w45 ⟨v257, v259, rfl, ho0, ho1, hb⟩; refine ⟨_, rfl, ?_⟩; have n0_ := Aside0.mk (Kd.R_lower ho0 (below_size (by repeat (first | (with_reducible first | exact HB.out | apply below_alloc | apply pw_below_drewN | apply below_drew1 | refine below_set ?_ GE251.out | refine below_set ?_ GE252.out | refine below_set ?_ GE253.out | refine below_set ?_ GE254.out) | exact HB.out)))); have n1_ := Aside0.mk (Kd.R_lower ho1 (below_size (by repeat (first | (with_reducible first | exact HB.out | apply below_alloc | apply pw_below_drewN | apply below_drew1 | refine below_set ?_ GE251.out | refine below_set ?_ GE252.out | refine below_set ?_ GE253.out | refine below_set ?_ GE254.out) | exact HB.out)))); have n2_ := Aside0.mk (blk_below (g := gb251) (o := .cells #[.bool a0_0, .slice A0_1 l0_1.length c0_1] 37 (0, 0)) (by (with_reducible repeat (first | refine blk_drewN ?_ _ | refine blk_drew ?_ | refine blk_alloc ?_ _)); exact BK251.out) hb); have n3_ := Aside0.mk (blk_below (g := gb252) (o := .cells #[.bool a1_0, .slice A1_1 l1_1.length c1_1] 37 (0, 0)) (by (with_reducible repeat (first | refine blk_drewN ?_ _ | refine blk_drew ?_ | refine blk_alloc ?_ _)); exact BK252.out) hb); have n4_ := Aside0.mk (blk_below (g := gb253) (o := .cells #[.bool false, .slice none 0 0] 37 (0, 0)) (by (with_reducible repeat (first | refine blk_drewN ?_ _ | refine blk_drew ?_ | refine blk_alloc ?_ _)); exact BK253.out) hb); have n5_ := Aside0.mk (blk_below (g := gb254) (o := .cells #[.bool false, .slice none 0 0] 37 (0, 0)) (by (with_reducible repeat (first | refine blk_drewN ?_ _ | refine blk_drew ?_ | refine blk_alloc ?_ _)); exact BK254.out) hb); have n6_ := Aside0.mk (below_step (by repeat (first | (with_reducible first | exact HB.out | apply below_alloc | apply pw_below_drewN | apply below_drew1 | refine below_set ?_ GE251.out | refine below_set ?_ GE252.out | refine below_set ?_ GE253.out | refine below_set ?_ GE254.out) | exact HB.out)) hb); clear BK251; clear BK252; clear BK253; clear BK254; clear HB; have HO258 := n0_; have HO260 := n1_; have BK251 := n2_; have BK252 := n3_; have BK253 := n4_; have BK254 := n5_; have HB := n6_; clear n0_ n1_ n2_ n3_ n4_ n5_ n6_; (try clear hb); (try clear hb2); (try clear hk); (try clear hi); (try clear ho0); (try clear ho1); have hcz46_0 : w45.cell? ⟨gb251, 0, none⟩ = some (.bool a0_0) := (blk_cell BK251.out 0).trans rfl; have hcz46_1 : w45.cell? ⟨gb251, 1, none⟩ = some (.slice A0_1 l0_1.length c0_1) := (blk_cell BK251.out 1).trans rfl; have hfz46_0 := blk_frozen BK251.out 0; have hfz46_1 := blk_frozen BK251.out 1; have hcz47_0 : w45.cell? ⟨gb252, 0, none⟩ = some (.bool a1_0) := (blk_cell BK252.out 0).trans rfl; have hcz47_1 : w45.cell? ⟨gb252, 1, none⟩ = some (.slice A1_1 l1_1.length c1_1) := (blk_cell BK252.out 1).trans rfl; have hfz47_0 := blk_frozen BK252.out 0; have hfz47_1 := blk_frozen BK252.out 1; obtain ⟨Ao48, co48, eo48⟩ := Kd.R_slice HO260.out; subst eo48; obtain ⟨Ao49, co49, eo49⟩ := Kd.R_slice HO258.out; subst eo49) | ((with_reducible refine gate_callee (f := 20) rfl ?_); refine goesL_ (some 31) rfl rfl Tryz.func20 (by kernel_rfl) rfl #[.bool true, .slice Ao49 t255.length co49] rfl (by (try simp only [List.map_toArray, List.map_cons, List.map_nil]); first | done | rfl | (simp only [List.length_drop, List.length_take]; rfl)) ?_; (with_reducible refine (spec_Of.calls k true _ _ t255 t269 t270 _ ?side1 ?side2 A33.out).mono ?_); (case side1 => repeat (first | exact (Kd.R_reads' HO258.out).2.2 | (with_reducible refine Kd.C_alloc ?_ _) | (with_reducible refine Kd.C_drewN ?_ _) | (with_reducible refine Kd.C_drew ?_))); (case side2 => exact (Kd.R_reads' HO258.out).2.1); rintro e w50 ⟨v271, rfl, ho0, hb⟩; refine ⟨_, rfl, ?_⟩; have n0_ := Aside0.mk (Kd.R_elder' (by (with_reducible repeat (first | apply Kd.R_alloc | apply Kd.R_drewN | apply Kd.R_drew)); exact HO258.out) (Kd.R_base ho0) hb); have n1_ := Aside0.mk (Kd.R_elder' (by (with_reducible repeat (first | apply Kd.R_alloc | apply Kd.R_drewN | apply Kd.R_drew)); exact HO260.out) (Kd.R_base ho0) hb); have n2_ := Aside0.mk (Kd.R_lower (Kd.R_new' (Kd.R_new' ho0 (Kd.R_lt (by (with_reducible repeat (first | apply Kd.R_alloc | apply Kd.R_drewN | apply Kd.R_drew)); exact HO258.out))) (Kd.R_lt (by (with_reducible repeat (first | apply Kd.R_alloc | apply Kd.R_drewN | apply Kd.R_drew)); exact HO260.out))) (below_size (by repeat (first | (with_reducible first | exact HB.out | apply below_alloc | apply pw_below_drewN | apply below_drew1 | refine below_set ?_ GE251.out | refine below_set ?_ GE252.out | refine below_set ?_ GE253.out | refine below_set ?_ GE254.out) | exact HB.out)))); have n3_ := Aside0.mk (blk_below (g := gb251) (o := .cells #[.bool a0_0, .slice A0_1 l0_1.length c0_1] 37 (0, 0)) (by (with_reducible repeat (first | refine blk_drewN ?_ _ | refine blk_drew ?_ | refine blk_alloc ?_ _)); exact BK251.out) hb); have n4_ := Aside0.mk (blk_below (g := gb252) (o := .cells #[.bool a1_0, .slice A1_1 l1_1.length c1_1] 37 (0, 0)) (by (with_reducible repeat (first | refine blk_drewN ?_ _ | refine blk_drew ?_ | refine blk_alloc ?_ _)); exact BK252.out) hb); have n5_ := Aside0.mk (blk_below (g := gb253) (o := .cells #[.bool false, .slice none 0 0] 37 (0, 0)) (by (with_reducible repeat (first | refine blk_drewN ?_ _ | refine blk_drew ?_ | refine blk_alloc ?_ _)); exact BK253.out) hb); have n6_ := Aside0.mk (blk_below (g := gb254) (o := .cells #[.bool false, .slice none 0 0] 37 (0, 0)) (by (with_reducible repeat (first | refine blk_drewN ?_ _ | refine blk_drew ?_ | refine blk_alloc ?_ _)); exact BK254.out) hb); have n7_ := Aside0.mk (below_step (by repeat (first | (with_reducible first | exact HB.out | apply below_alloc | apply pw_below_drewN | apply below_drew1 | refine below_set ?_ GE251.out | refine below_set ?_ GE252.out | refine below_set ?_ GE253.out | refine below_set ?_ GE254.out) | exact HB.out)) hb); clear HO258; clear HO260; clear BK251; clear BK252; clear BK253; clear BK254; clear HB; have HO258 := n0_; have HO260 := n1_; have HO272 := n2_; have BK251 := n3_; have BK252 := n4_; have BK253 := n5_; have BK254 := n6_; have HB := n7_; clear n0_ n1_ n2_ n3_ n4_ n5_ n6_ n7_; (try clear hb); (try clear hb2); (try clear hk); (try clear hi); (try clear ho0); have hnb51 := NB253_254.out; have hnc51 := NB254_253.out; have hcz52_0 : w50.cell? ⟨gb253, 0, none⟩ = some (.bool false) := (blk_cell BK253.out 0).trans rfl; have hcz52_1 : w50.cell? ⟨gb253, 1, none⟩ = some (.slice none 0 0) := (blk_cell BK253.out 1).trans rfl; have hfz52_0 := blk_frozen BK253.out 0; have hfz52_1 := blk_frozen BK253.out 1; obtain ⟨Ao53, co53, eo53⟩ := Kd.R_slice HO272.out; subst eo53; have hcz54_0 : w50.cell? ⟨gb254, 0, none⟩ = some (.bool false) := (blk_cell BK254.out 0).trans rfl; have hcz54_1 : w50.cell? ⟨gb254, 1, none⟩ = some (.slice none 0 0) := (blk_cell BK254.out 1).trans rfl; have hfz54_0 := blk_frozen BK254.out 0; have hfz54_1 := blk_frozen BK254.out 1))
      refine bodyPost_ret (results_cc rfl _ _ gb253 gb254 37 37 #[.bool t269, .slice Ao53 t270.length co53] #[.bool false, .slice none 0 0] (0, 0) (0, 0) _ _ rfl (by (with_reducible repeat (first | refine blk_drewN ?_ _ | refine blk_drew ?_ | refine blk_alloc ?_ _)); refine blk_far ?_ NB253_254.out _; (with_reducible repeat (first | refine blk_drewN ?_ _ | refine blk_drew ?_ | refine blk_alloc ?_ _)); refine blk_far ?_ NB253_254.out _; (with_reducible repeat (first | refine blk_drewN ?_ _ | refine blk_drew ?_ | refine blk_alloc ?_ _)); refine blk_put (cs := #[.bool t269, .slice none 0 0]) ?_ 1 _ rfl; (with_reducible repeat (first | refine blk_drewN ?_ _ | refine blk_drew ?_ | refine blk_alloc ?_ _)); refine blk_put (cs := #[.bool false, .slice none 0 0]) ?_ 0 _ rfl; (with_reducible repeat (first | refine blk_drewN ?_ _ | refine blk_drew ?_ | refine blk_alloc ?_ _)); exact BK253.out) Tryz.underlying37 rfl (by kernel_rfl) rfl (by (with_reducible repeat (first | refine blk_drewN ?_ _ | refine blk_drew ?_ | refine blk_alloc ?_ _)); refine blk_put (cs := #[.bool false, .slice none 0 0]) ?_ 1 _ rfl; (with_reducible repeat (first | refine blk_drewN ?_ _ | refine blk_drew ?_ | refine blk_alloc ?_ _)); refine blk_put (cs := #[.bool false, .slice none 0 0]) ?_ 0 _ rfl; (with_reducible repeat (first | refine blk_drewN ?_ _ | refine blk_drew ?_ | refine blk_alloc ?_ _)); refine blk_far ?_ NB254_253.out _; (with_reducible repeat (first | refine blk_drewN ?_ _ | refine blk_drew ?_ | refine blk_alloc ?_ _)); refine blk_far ?_ NB254_253.out _; (with_reducible repeat (first | refine blk_drewN ?_ _ | refine blk_drew ?_ | refine blk_alloc ?_ _)); exact BK254.out) Tryz.underlying37 rfl (by kernel_rfl)) rfl ?_
      exact ⟨_, _, by first | rfl | (simp [errW_none, errW_some] <;> rfl) | (simp [*, errW_none, errW_some] <;> rfl), by (with_reducible repeat (first | apply Kd.R_alloc | apply Kd.R_drewN | apply Kd.R_drew)); exact Kd.R_mono (Kd.R_far (p := ⟨gb254, 1, none⟩) (Kd.R_far (p := ⟨gb254, 0, none⟩) (Kd.R_far (p := ⟨gb253, 1, none⟩) (Kd.R_far (p := ⟨gb253, 0, none⟩) (Kd.R_types (Kd.R_types HO272.out BK253.out (by decide)) BK254.out (by decide)) (fun _ hk => hk.1.2) (.bool t269)) (fun _ hk => hk.1.2) (.slice Ao53 t270.length co53)) (fun _ hk => hk.2) (.bool false)) (fun _ hk => hk.2) (.slice none 0 0)) (fun _ hk => (by simp [Value.ownBlock])), by first | exact Kd.R_nil _ _ _ _ _ | exact Kd.N_nil _ _ _ _ _ | exact Kd.V_nil _ _ _ _ _ | exact Kd.Q_nil _ _ _ _ _ | exact Kd.S_nil _ _ _ _ _, by repeat (first | (with_reducible first | exact HB.out | apply below_alloc | apply pw_below_drewN | apply below_drew1 | refine below_set ?_ GE251.out | refine below_set ?_ GE252.out | refine below_set ?_ GE253.out | refine below_set ?_ GE254.out) | exact HB.out)⟩
    · rw [if_neg c32] at H
      have c32b0 : ((t256.length : Int) == 0) = false := beq_eq_false_iff_ne.mpr c32
      have c32b1 : ((t256.length : Int) != 0) = true := bne_iff_ne.mpr c32
      have c32b2 : ¬ (t256 = []) := fun h_ => c32 (by rw [h_]; rfl)
      obtain ⟨y273, hy273⟩ : ∃ y_ : List Int, y_ = (([1] : List Int)) := ⟨_, rfl⟩
      replace H : ((spec_sum.f k t255 y273).bind fun t276 => ((spec_Of.f k true t276).bind fun bt279 => ((spec_less.f k l1_1 t256).bind fun t283 => ((spec_Of.f k a1_0 t283).bind fun bt286 => (some (bt279.1, bt279.2, bt286.1, bt286.2)))))) = some (r1, r2, r3, r4) := by first | (rw [hy273]; with_reducible exact H) | (have H2_ := (Option.bind_some _ _).symm.trans H; rw [hy273]; with_reducible exact H2_) | (have H2_ := (Option.bind_some _ _).symm.trans H; with_reducible exact H2_) | with_reducible exact H | (rw [hy273]; exact H) | exact H
      have Ny273 := Aside0.mk hy273
      clear hy273
      replace H := Option.bind_eq_some_iff.mp H
      obtain ⟨t276, A550, H⟩ := H
      replace H : ((spec_Of.f k true t276).bind fun bt279 => ((spec_less.f k l1_1 t256).bind fun t283 => ((spec_Of.f k a1_0 t283).bind fun bt286 => (some (bt279.1, bt279.2, bt286.1, bt286.2))))) = some (r1, r2, r3, r4) := H
      have A55 := Aside0.mk A550
      clear A550
      replace H := Option.bind_eq_some_iff.mp H
      obtain ⟨⟨t279, t280⟩, A560, H⟩ := H
      replace H : ((spec_less.f k l1_1 t256).bind fun t283 => ((spec_Of.f k a1_0 t283).bind fun bt286 => (some (t279, t280, bt286.1, bt286.2)))) = some (r1, r2, r3, r4) := H
      have A56 := Aside0.mk A560
      clear A560
      replace H := Option.bind_eq_some_iff.mp H
      obtain ⟨t283, A570, H⟩ := H
      replace H : ((spec_Of.f k a1_0 t283).bind fun bt286 => (some (t279, t280, bt286.1, bt286.2))) = some (r1, r2, r3, r4) := H
      have A57 := Aside0.mk A570
      clear A570
      replace H := Option.bind_eq_some_iff.mp H
      obtain ⟨⟨t286, t287⟩, A580, H⟩ := H
      replace H : (some (t279, t280, t286, t287)) = some (r1, r2, r3, r4) := H
      have A58 := Aside0.mk A580
      clear A580
      simp only [Option.some.injEq, Prod.mk.injEq] at H
      obtain ⟨rfl, rfl, rfl, rfl⟩ := H
      go_enter Tryz.func36, Tryz.ntmps36
      try go_wp2_with (first | ((with_reducible refine gate_dst (N := 2) rfl ?_); refine box_event ?hg (N := 2) ?hd (cs := #[.bool a0_0, .slice A0_1 l0_1.length c0_1]) (t := 37) ?hr ?_; (case hd => rfl); (case hg => rfl); (case hr => first | (go_simp; done) | (go_simp; rfl)); intro gb251 hg w59 hbox hb; have n0_ := Aside0.mk (below_step (by repeat (first | (with_reducible first | exact HB.out | apply below_alloc | apply pw_below_drewN | apply below_drew1) | exact HB.out)) hb); have n1_ := Aside0.mk (hbox); have n2_ := Aside0.mk ((by rw [hg]; exact (below_size (by repeat (first | (with_reducible first | exact HB.out | apply below_alloc | apply pw_below_drewN | apply below_drew1) | exact HB.out))) : w.heap.size ≤ gb251)); have n3_ := Aside0.mk ((by rw [hg]; exact (below_size (by repeat (first | (with_reducible first | exact HB.out | apply below_alloc | apply pw_below_drewN | apply below_drew1) | exact HB.out))) : w.heap.size ≤ gb251)); clear HB; have HB := n0_; have BK251 := n1_; have GW251 := n2_; have GE251 := n3_; clear n0_ n1_ n2_ n3_; clear hb hbox hg) | ((with_reducible refine gate_dst (N := 3) rfl ?_); refine box_event ?hg (N := 3) ?hd (cs := #[.bool a1_0, .slice A1_1 l1_1.length c1_1]) (t := 37) ?hr ?_; (case hd => rfl); (case hg => rfl); (case hr => first | (go_simp; done) | (go_simp; rfl)); intro gb252 hg w60 hbox hb; have n0_ := Aside0.mk (blk_below (g := gb251) (o := .cells #[.bool a0_0, .slice A0_1 l0_1.length c0_1] 37 (0, 0)) (by (with_reducible repeat (first | refine blk_drewN ?_ _ | refine blk_drew ?_ | refine blk_alloc ?_ _)); exact BK251.out) hb); have n1_ := Aside0.mk (below_step (by repeat (first | (with_reducible first | exact HB.out | apply below_alloc | apply pw_below_drewN | apply below_drew1 | refine below_set ?_ GE251.out) | exact HB.out)) hb); have n2_ := Aside0.mk (hbox); have n3_ := Aside0.mk ((by rw [hg]; exact (below_size (by repeat (first | (with_reducible first | exact HB.out | apply below_alloc | apply pw_below_drewN | apply below_drew1 | refine below_set ?_ GE251.out) | exact HB.out))) : w.heap.size ≤ gb252)); have n4_ := Aside0.mk ((by rw [hg]; exact (below_size (by repeat (first | (with_reducible first | exact HB.out | apply below_alloc | apply pw_below_drewN | apply below_drew1 | refine below_set ?_ GE251.out) | exact HB.out))) : w.heap.size ≤ gb252)); have n5_ := Aside0.mk ((by rw [hg]; exact Nat.ne_of_lt (blk_lt (g := gb251) (o := .cells #[.bool a0_0, .slice A0_1 l0_1.length c0_1] 37 (0, 0)) (by (with_reducible repeat (first | refine blk_drewN ?_ _ | refine blk_drew ?_ | refine blk_alloc ?_ _)); exact BK251.out)) : gb251 ≠ gb252)); have n6_ := Aside0.mk ((by rw [hg]; exact Nat.ne_of_gt (blk_lt (g := gb251) (o := .cells #[.bool a0_0, .slice A0_1 l0_1.length c0_1] 37 (0, 0)) (by (with_reducible repeat (first | refine blk_drewN ?_ _ | refine blk_drew ?_ | refine blk_alloc ?_ _)); exact BK251.out)) : gb252 ≠ gb251)); clear BK251; clear HB; have BK251 := n0_; have HB := n1_; have BK252 := n2_; have GW252 := n3_; have GE252 := n4_; have NB251_252 := n5_; have NB252_251 := n6_; clear n0_ n1_ n2_ n3_ n4_ n5_ n6_; clear hb hbox hg) | ((with_reducible refine gate_dst (N := 4) rfl ?_); refine box_event ?hg (N := 4) ?hd (cs := #[.bool false, .slice none 0 0]) (t := 37) ?hr ?_; (case hd => rfl); (case hg => rfl); (case hr => first | (go_simp; done) | (go_simp; rfl)); intro gb253 hg w61 hbox hb; have n0_ := Aside0.mk (blk_below (g := gb251) (o := .cells #[.bool a0_0, .slice A0_1 l0_1.length c0_1] 37 (0, 0)) (by (with_reducible repeat (first | refine blk_drewN ?_ _ | refine blk_drew ?_ | refine blk_alloc ?_ _)); exact BK251.out) hb); have n1_ := Aside0.mk (blk_below (g := gb252) (o := .cells #[.bool a1_0, .slice A1_1 l1_1.length c1_1] 37 (0, 0)) (by (with_reducible repeat (first | refine blk_drewN ?_ _ | refine blk_drew ?_ | refine blk_alloc ?_ _)); exact BK252.out) hb); have n2_ := Aside0.mk (below_step (by repeat (first | (with_reducible first | exact HB.out | apply below_alloc | apply pw_below_drewN | apply below_drew1 | refine below_set ?_ GE251.out | refine below_set ?_ GE252.out) | exact HB.out)) hb); have n3_ := Aside0.mk (hbox); have n4_ := Aside0.mk ((by rw [hg]; exact (below_size (by repeat (first | (with_reducible first | exact HB.out | apply below_alloc | apply pw_below_drewN | apply below_drew1 | refine below_set ?_ GE251.out | refine below_set ?_ GE252.out) | exact HB.out))) : w.heap.size ≤ gb253)); have n5_ := Aside0.mk ((by rw [hg]; exact (below_size (by repeat (first | (with_reducible first | exact HB.out | apply below_alloc | apply pw_below_drewN | apply below_drew1 | refine below_set ?_ GE251.out | refine below_set ?_ GE252.out) | exact HB.out))) : w.heap.size ≤ gb253)); have n6_ := Aside0.mk ((by rw [hg]; exact Nat.ne_of_lt (blk_lt (g := gb251) (o := .cells #[.bool a0_0, .slice A0_1 l0_1.length c0_1] 37 (0, 0)) (by (with_reducible repeat (first | refine blk_drewN ?_ _ | refine blk_drew ?_ | refine blk_alloc ?_ _)); exact BK251.out)) : gb251 ≠ gb253)); have n7_ := Aside0.mk ((by rw [hg]; exact Nat.ne_of_gt (blk_lt (g := gb251) (o := .cells #[.bool a0_0, .slice A0_1 l0_1.length c0_1] 37 (0, 0)) (by (with_reducible repeat (first | refine blk_drewN ?_ _ | refine blk_drew ?_ | refine blk_alloc ?_ _)); exact BK251.out)) : gb253 ≠ gb251)); have n8_ := Aside0.mk ((by rw [hg]; exact Nat.ne_of_lt (blk_lt (g := gb252) (o := .cells #[.bool a1_0, .slice A1_1 l1_1.length c1_1] 37 (0, 0)) (by (with_reducible repeat (first | refine blk_drewN ?_ _ | refine blk_drew ?_ | refine blk_alloc ?_ _)); exact BK252.out)) : gb252 ≠ gb253)); have n9_ := Aside0.mk ((by rw [hg]; exact Nat.ne_of_gt (blk_lt (g := gb252) (o := .cells #[.bool a1_0, .slice A1_1 l1_1.length c1_1] 37 (0, 0)) (by (with_reducible repeat (first | refine blk_drewN ?_ _ | refine blk_drew ?_ | refine blk_alloc ?_ _)); exact BK252.out)) : gb253 ≠ gb252)); clear BK251; clear BK252; clear HB; have BK251 := n0_; have BK252 := n1_; have HB := n2_; have BK253 := n3_; have GW253 := n4_; have GE253 := n5_; have NB251_253 := n6_; have NB253_251 := n7_; have NB252_253 := n8_; have NB253_252 := n9_; clear n0_ n1_ n2_ n3_ n4_ n5_ n6_ n7_ n8_ n9_; clear hb hbox hg) | ((with_reducible refine gate_dst (N := 5) rfl ?_); refine box_event ?hg (N := 5) ?hd (cs := #[.bool false, .slice none 0 0]) (t := 37) ?hr ?_; (case hd => rfl); (case hg => rfl); (case hr => first | (go_simp; done) | (go_simp; rfl)); intro gb254 hg w62 hbox hb; have n0_ := Aside0.mk (blk_below (g := gb251) (o := .cells #[.bool a0_0, .slice A0_1 l0_1.length c0_1] 37 (0, 0)) (by (with_reducible repeat (first | refine blk_drewN ?_ _ | refine blk_drew ?_ | refine blk_alloc ?_ _)); exact BK251.out) hb); have n1_ := Aside0.mk (blk_below (g := gb252) (o := .cells #[.bool a1_0, .slice A1_1 l1_1.length c1_1] 37 (0, 0)) (by (with_reducible repeat (first | refine blk_drewN ?_ _ | refine blk_drew ?_ | refine blk_alloc ?_ _)); exact BK252.out) hb); have n2_ := Aside0.mk (blk_below (g := gb253) (o := .cells #[.bool false, .slice none 0 0] 37 (0, 0)) (by (with_reducible repeat (first | refine blk_drewN ?_ _ | refine blk_drew ?_ | refine blk_alloc ?_ _)); exact BK253.out) hb); have n3_ := Aside0.mk (below_step (by repeat (first | (with_reducible first | exact HB.out | apply below_alloc | apply pw_below_drewN | apply below_drew1 | refine below_set ?_ GE251.out | refine below_set ?_ GE252.out | refine below_set ?_ GE253.out) | exact HB.out)) hb); have n4_ := Aside0.mk (hbox); have n5_ := Aside0.mk ((by rw [hg]; exact (below_size (by repeat (first | (with_reducible first | exact HB.out | apply below_alloc | apply pw_below_drewN | apply below_drew1 | refine below_set ?_ GE251.out | refine below_set ?_ GE252.out | refine below_set ?_ GE253.out) | exact HB.out))) : w.heap.size ≤ gb254)); have n6_ := Aside0.mk ((by rw [hg]; exact (below_size (by repeat (first | (with_reducible first | exact HB.out | apply below_alloc | apply pw_below_drewN | apply below_drew1 | refine below_set ?_ GE251.out | refine below_set ?_ GE252.out | refine below_set ?_ GE253.out) | exact HB.out))) : w.heap.size ≤ gb254)); have n7_ := Aside0.mk ((by rw [hg]; exact Nat.ne_of_lt (blk_lt (g := gb251) (o := .cells #[.bool a0_0, .slice A0_1 l0_1.length c0_1] 37 (0, 0)) (by (with_reducible repeat (first | refine blk_drewN ?_ _ | refine blk_drew ?_ | refine blk_alloc ?_ _)); exact BK251.out)) : gb251 ≠ gb254)); have n8_ := Aside0.mk ((by rw [hg]; exact Nat.ne_of_gt (blk_lt (g := gb251) (o := .cells #[.bool a0_0, .slice A0_1 l0_1.length c0_1] 37 (0, 0)) (by (with_reducible repeat (first | refine blk_drewN ?_ _ | refine blk_drew ?_ | refine blk_alloc ?_ _)); exact BK251.out)) : gb254 ≠ gb251)); have n9_ := Aside0.mk ((by rw [hg]; exact Nat.ne_of_lt (blk_lt (g := gb252) (o := .cells #[.bool a1_0, .slice A1_1 l1_1.length c1_1] 37 (0, 0)) (by (with_reducible repeat (first | refine blk_drewN ?_ _ | refine blk_drew ?_ | refine blk_alloc ?_ _)); exact BK252.out)) : gb252 ≠ gb254)); have n10_ := Aside0.mk ((by rw [hg]; exact Nat.ne_of_gt (blk_lt (g := gb252) (o := .cells #[.bool a1_0, .slice A1_1 l1_1.length c1_1] 37 (0, 0)) (by (with_reducible repeat (first | refine blk_drewN ?_ _ | refine blk_drew ?_ | refine blk_alloc ?_ _)); exact BK252.out)) : gb254 ≠ gb252)); have n11_ := Aside0.mk ((by rw [hg]; exact Nat.ne_of_lt (blk_lt (g := gb253) (o := .cells #[.bool false, .slice none 0 0] 37 (0, 0)) (by (with_reducible repeat (first | refine blk_drewN ?_ _ | refine blk_drew ?_ | refine blk_alloc ?_ _)); exact BK253.out)) : gb253 ≠ gb254)); have n12_ := Aside0.mk ((by rw [hg]; exact Nat.ne_of_gt (blk_lt (g := gb253) (o := .cells #[.bool false, .slice none 0 0] 37 (0, 0)) (by (with_reducible repeat (first | refine blk_drewN ?_ _ | refine blk_drew ?_ | refine blk_alloc ?_ _)); exact BK253.out)) : gb254 ≠ gb253)); clear BK251; clear BK252; clear BK253; clear HB; have BK251 := n0_; have BK252 := n1_; have BK253 := n2_; have HB := n3_; have BK254 := n4_; have GW254 := n5_; have GE254 := n6_; have NB251_254 := n7_; have NB254_251 := n8_; have NB252_254 := n9_; have NB254_252 := n10_; have NB253_254 := n11_; have NB254_253 := n12_; clear n0_ n1_ n2_ n3_ n4_ n5_ n6_ n7_ n8_ n9_ n10_ n11_ n12_; clear hb hbox hg; have hnb63 := NB251_252.out; have hnc63 := NB252_251.out; have hnb64 := NB251_253.out; have hnc64 := NB253_251.out; have hnb65 := NB251_254.out; have hnc65 := NB254_251.out; have hcz66_0 : w62.cell? ⟨gb251, 0, none⟩ = some (.bool a0_0) := (blk_cell BK251.out 0).trans rfl; have hcz66_1 : w62.cell? ⟨gb251, 1, none⟩ = some (.slice A0_1 l0_1.length c0_1) := (blk_cell BK251.out 1).trans rfl; have hfz66_0 := blk_frozen BK251.out 0; have hfz66_1 := blk_frozen BK251.out 1; have hnb67 := NB252_253.out; have hnc67 := NB253_252.out; have hnb68 := NB252_254.out; have hnc68 := NB254_252.out; have hcz69_0 : w62.cell? ⟨gb252, 0, none⟩ = some (.bool a1_0) := (blk_cell BK252.out 0).trans rfl; have hcz69_1 : w62.cell? ⟨gb252, 1, none⟩ = some (.slice A1_1 l1_1.length c1_1) := (blk_cell BK252.out 1).trans rfl; have hfz69_0 := blk_frozen BK252.out 0; have hfz69_1 := blk_frozen BK252.out 1) | ((with_reducible refine gate_callee (f := 43) rfl ?_); refine goesL_ (some 13) rfl rfl Tryz.func43 (by kernel_rfl) rfl #[.slice A0_1 l0_1.length c0_1, .slice A1_1 l1_1.length c1_1] rfl (by (try simp only [List.map_toArray, List.map_cons, List.map_nil]); first | done | rfl | (simp only [List.length_drop, List.length_take]; rfl)) ?_; (with_reducible refine (spec_split.calls k _ _ l0_1 _ _ l1_1 t255 t256 _ ?side1 ?side2 ?side3 ?side4 A3.out).mono ?_); (case side1 => repeat (first | exact (Kd.C_below HR0_1.out HB.out) | (with_reducible refine Kd.C_alloc ?_ _) | (with_reducible refine Kd.C_drewN ?_ _) | (with_reducible refine Kd.C_drew ?_))); (case side2 => exact HC0_1.out); (case side3 => repeat (first | exact (Kd.C_below HR1_1.out HB.out) | (with_reducible refine Kd.C_alloc ?_ _) | (with_reducible refine Kd.C_drewN ?_ _) | (with_reducible refine Kd.C_drew ?_))); (case side4 => exact HC1_1.out); rintro e w70 ⟨v257, v259, rfl, ho0, ho1, hb⟩; refine ⟨_, rfl, ?_⟩; have n0_ := Aside0.mk (Kd.R_lower ho0 (below_size (by repeat (first | (with_reducible first | exact HB.out | apply below_alloc | apply pw_below_drewN | apply below_drew1 | refine below_set ?_ GE251.out | refine below_set ?_ GE252.out | refine below_set ?_ GE253.out | refine below_set ?_ GE254.out) | exact HB.out)))); have n1_ := Aside0.mk (Kd.R_lower ho1 (below_size (by repeat (first | (with_reducible first | exact HB.out | apply below_alloc | apply pw_below_drewN | apply below_drew1 | refine below_set ?_ GE251.out | refine below_set ?_ GE252.out | refine below_set ?_ GE253.out | refine below_set ?_ GE254.out) | exact HB.out)))); have n2_ := Aside0.mk (blk_below (g := gb251) (o := .cells #[.bool a0_0, .slice A0_1 l0_1.length c0_1] 37 (0, 0)) (by (with_reducible repeat (first | refine blk_drewN ?_ _ | refine blk_drew ?_ | refine blk_alloc ?_ _)); exact BK251.out) hb); have n3_ := Aside0.mk (blk_below (g := gb252) (o := .cells #[.bool a1_0, .slice A1_1 l1_1.length c1_1] 37 (0, 0)) (by (with_reducible repeat (first | refine blk_drewN ?_ _ | refine blk_drew ?_ | refine blk_alloc ?_ _)); exact BK252.out) hb); have n4_ := Aside0.mk (blk_below (g := gb253) (o := .cells #[.bool false, .slice none 0 0] 37 (0, 0)) (by (with_reducible repeat (first | refine blk_drewN ?_ _ | refine blk_drew ?_ | refine blk_alloc ?_ _)); exact BK253.out) hb); have n5_ := Aside0.mk (blk_below (g := gb254) (o := .cells #[.bool false, .slice none 0 0] 37 (0, 0)) (by (with_reducible repeat (first | refine blk_drewN ?_ _ | refine blk_drew ?_ | refine blk_alloc ?_ _)); exact BK254.out) hb); have n6_ := Aside0.mk (below_step (by repeat (first | (with_reducible first | exact HB.out | apply below_alloc | apply pw_below_drewN | apply below_drew1 | refine below_set ?_ GE251.out | refine below_set ?_ GE252.out | refine below_set ?_ GE253.out | refine below_set ?_ GE254.out) | exact HB.out)) hb); clear BK251; clear BK252; clear BK253; clear BK254; clear HB; have HO258 := n0_; have HO260 := n1_; have BK251 := n2_; have BK252 := n3_; have BK253 := n4_; have BK254 := n5_; have HB := n6_; clear n0_ n1_ n2_ n3_ n4_ n5_ n6_; (try clear hb); (try clear hb2); (try clear hk); (try clear hi); (try clear ho0); (try clear ho1); have hcz71_0 : w70.cell? ⟨gb251, 0, none⟩ = some (.bool a0_0) := (blk_cell BK251.out 0).trans rfl; have hcz71_1 : w70.cell? ⟨gb251, 1, none⟩ = some (.slice A0_1 l0_1.length c0_1) := (blk_cell BK251.out 1).trans rfl; have hfz71_0 := blk_frozen BK251.out 0; have hfz71_1 := blk_frozen BK251.out 1; have hcz72_0 : w70.cell? ⟨gb252, 0, none⟩ = some (.bool a1_0) := (blk_cell BK252.out 0).trans rfl; have hcz72_1 : w70.cell? ⟨gb252, 1, none⟩ = some (.slice A1_1 l1_1.length c1_1) := (blk_cell BK252.out 1).trans rfl; have hfz72_0 := blk_frozen BK252.out 0; have hfz72_1 := blk_frozen BK252.out 1; obtain ⟨Ao73, co73, eo73⟩ := Kd.R_slice HO260.out; subst eo73))
      have n0_ := Aside0.mk (Kd.R_drew HO258.out)
      have n1_ := Aside0.mk (Kd.R_drew HO260.out)
      have n2_ := Aside0.mk (blk_drew BK251.out)
      have n3_ := Aside0.mk (blk_drew BK252.out)
      have n4_ := Aside0.mk (blk_drew BK253.out)
      have n5_ := Aside0.mk (blk_drew BK254.out)
      have n6_ := Aside0.mk (below_drew1 HB.out)
      clear HO258
      clear HO260
      clear BK251
      clear BK252
      clear BK253
      clear BK254
      clear HB
      have HO258 := n0_
      have HO260 := n1_
      have BK251 := n2_
      have BK252 := n3_
      have BK253 := n4_
      have BK254 := n5_
      have HB := n6_
      clear n0_ n1_ n2_ n3_ n4_ n5_ n6_
      refine start_ (n := 13) (S := fun w' => w'.cell? ⟨gb252, 0, none⟩ = some (.bool a1_0) ∧ w'.cell? ⟨gb252, 1, none⟩ = some (.slice A1_1 l1_1.length c1_1)) (ds := []) #[false, false, false, false, false, false, false, false, false, false, false, false, false] (by kernel_rfl) rfl rfl ⟨(blk_cell BK252.out 0).trans rfl, (blk_cell BK252.out 1).trans rfl⟩ (fun hHeld => ?_); refine with_tabW spec_Int_Floor.tab6 spec_Int_Floor.bits6 (fun HT_ HW_ => ?_)
      generalize w70.drew = w74 at HO258 HO260 BK251 BK252 BK253 BK254 HB hHeld ⊢
      refine pure_ (i := 0) (N := some 33) (v := ?_) (a' := ?_) #[true, false, false, false, false, false, false, false, false, false, false, false, false] rfl rfl (any_of HT_.out (by kernel_rfl)) (fun _ _ _ h => h) (Or.inl ⟨by rfl, ?_⟩) ?_ ?_
      rotate_left
      · intro w'
        go_simp
        with_reducible rfl
      rotate_left
      · simp only [Act.put, List.setIfInBounds_toArray, List.set_cons_zero, List.set_cons_succ, i64_w, i32_w]
        rfl
      refine pure_ (i := 4) (N := some 37) (v := ?_) (a' := ?_) #[true, false, false, false, true, false, false, false, false, false, false, false, false] rfl rfl (any_of HT_.out (by kernel_rfl)) (fun _ _ _ h => h) (Or.inl ⟨by rfl, ?_⟩) ?_ ?_
      rotate_left
      · intro w'
        go_simp
        with_reducible rfl
      rotate_left
      · simp only [Act.put, List.setIfInBounds_toArray, List.set_cons_zero, List.set_cons_succ, i64_w, i32_w]
        rfl
      refine pure_ (i := 6) (N := some 39) (v := ?_) (a' := ?_) #[true, false, false, false, true, false, true, false, false, false, false, false, false] rfl rfl (any_of HT_.out (by kernel_rfl)) (fun _ _ _ h => h) (Or.inl ⟨by rfl, ?_⟩) ?_ ?_
      rotate_left
      · intro w'
        go_simp
        with_reducible rfl
      rotate_left
      · simp only [Act.put, List.setIfInBounds_toArray, List.set_cons_zero, List.set_cons_succ, i64_w, i32_w]
        rfl
      refine pure_ (i := 8) (N := some 41) (v := ?_) (a' := ?_) #[true, false, false, false, true, false, true, false, true, false, false, false, false] rfl rfl (any_of HT_.out (by kernel_rfl)) (fun _ _ _ h => h) (Or.inl ⟨by rfl, ?_⟩) ?_ ?_
      rotate_left
      · intro w'
        go_simp
        with_reducible rfl
      rotate_left
      · simp only [Act.put, List.setIfInBounds_toArray, List.set_cons_zero, List.set_cons_succ, i64_w, i32_w]
        rfl
      refine take_ (i := 5) (N := some 38) (v := ?_) (a' := ?_) #[true, false, false, false, true, true, true, false, true, false, false, false, false] rfl rfl (take_ofW HT_.out HW_.out (by kernel_rfl)) (fun _ _ _ h => h) (Or.inl ⟨by rfl, ?_⟩) hHeld ?_ ?_
      rotate_left
      · rintro w' ⟨s0, s1⟩
        go_simp
        with_reducible rfl
      rotate_left
      · simp only [Act.put, List.setIfInBounds_toArray, List.set_cons_zero, List.set_cons_succ, i64_w, i32_w]
        rfl
      refine take_ (i := 7) (N := some 40) (v := ?_) (a' := ?_) #[true, false, false, false, true, true, true, true, true, false, false, false, false] rfl rfl (take_ofW HT_.out HW_.out (by kernel_rfl)) (fun _ _ _ h => h) (Or.inl ⟨by rfl, ?_⟩) hHeld ?_ ?_
      rotate_left
      · rintro w' ⟨s0, s1⟩
        go_simp
        with_reducible rfl
      rotate_left
      · simp only [Act.put, List.setIfInBounds_toArray, List.set_cons_zero, List.set_cons_succ, i64_w, i32_w]
        rfl
      refine one_ (i := 1) (N := some 34) #[true, true, false, false, true, true, true, true, true, false, false, false, false] rfl rfl (one_of HT_.out (by kernel_rfl)) (by decide) (fun K hK => ?_)
      refine Kd.R_lit_step (Kd.int .u8) _ 5 ?hg (N := 34) ?hd (xs := ([1] : List Int)) (inner := [.int .u8 1]) (ok := fun _ => True) (okp := fun _ => True) ?hr ?hp (fun _ hk => hk) trivial (Below.refl _ _) (Nat.le_refl _) (by simp) ?_; (case hd => rfl); (case hg => rfl); (case hr => first | (go_simp; done) | (go_simp; rfl)); (case hp => exact (Reps.one (show Kd.M (Kd.int .u8) _ _ _ 1 [.int .u8 1] from rfl) (Reps.none _ _)))
      intro v274 w75 ho76 hb hg_ hnew_
      clear hg_ hnew_
      (first | rw [← Ny273.out] at ho76 | (simp only [Int.reduceToNat] at ho76; rw [← Ny273.out] at ho76))
      have n0_ := Aside0.mk (Kd.R_elder' (by (with_reducible repeat (first | apply Kd.R_alloc | apply Kd.R_drewN | apply Kd.R_drew)); exact HO258.out) (Kd.R_base ho76) hb)
      have n1_ := Aside0.mk (Kd.R_elder' (by (with_reducible repeat (first | apply Kd.R_alloc | apply Kd.R_drewN | apply Kd.R_drew)); exact HO260.out) (Kd.R_base ho76) hb)
      have n2_ := Aside0.mk (Kd.R_lower (Kd.R_new' (Kd.R_new' ho76 (Kd.R_lt (by (with_reducible repeat (first | apply Kd.R_alloc | apply Kd.R_drewN | apply Kd.R_drew)); exact HO258.out))) (Kd.R_lt (by (with_reducible repeat (first | apply Kd.R_alloc | apply Kd.R_drewN | apply Kd.R_drew)); exact HO260.out))) (below_size (by repeat (first | (with_reducible first | exact HB.out | apply below_alloc | apply pw_below_drewN | apply below_drew1 | refine below_set ?_ GE251.out | refine below_set ?_ GE252.out | refine below_set ?_ GE253.out | refine below_set ?_ GE254.out) | exact HB.out))))
      have n3_ := Aside0.mk (blk_below (g := gb251) (o := .cells #[.bool a0_0, .slice A0_1 l0_1.length c0_1] 37 (0, 0)) (by (with_reducible repeat (first | refine blk_drewN ?_ _ | refine blk_drew ?_ | refine blk_alloc ?_ _)); exact BK251.out) hb)
      have n4_ := Aside0.mk (blk_below (g := gb252) (o := .cells #[.bool a1_0, .slice A1_1 l1_1.length c1_1] 37 (0, 0)) (by (with_reducible repeat (first | refine blk_drewN ?_ _ | refine blk_drew ?_ | refine blk_alloc ?_ _)); exact BK252.out) hb)
      have n5_ := Aside0.mk (blk_below (g := gb253) (o := .cells #[.bool false, .slice none 0 0] 37 (0, 0)) (by (with_reducible repeat (first | refine blk_drewN ?_ _ | refine blk_drew ?_ | refine blk_alloc ?_ _)); exact BK253.out) hb)
      have n6_ := Aside0.mk (blk_below (g := gb254) (o := .cells #[.bool false, .slice none 0 0] 37 (0, 0)) (by (with_reducible repeat (first | refine blk_drewN ?_ _ | refine blk_drew ?_ | refine blk_alloc ?_ _)); exact BK254.out) hb)
      have n7_ := Aside0.mk (below_step (by repeat (first | (with_reducible first | exact HB.out | apply below_alloc | apply pw_below_drewN | apply below_drew1 | refine below_set ?_ GE251.out | refine below_set ?_ GE252.out | refine below_set ?_ GE253.out | refine below_set ?_ GE254.out) | exact HB.out)) hb)
      clear HO258
      clear HO260
      clear BK251
      clear BK252
      clear BK253
      clear BK254
      clear HB
      have HO258 := n0_
      have HO260 := n1_
      have HO275 := n2_
      have BK251 := n3_
      have BK252 := n4_
      have BK253 := n5_
      have BK254 := n6_
      have HB := n7_
      clear n0_ n1_ n2_ n3_ n4_ n5_ n6_ n7_
      clear hb ho76
      obtain ⟨Ao77, co77, eo77⟩ := Kd.R_slice HO258.out
      (first | subst eo77 | (injection eo77 with f1_ f2_ f3_; have f4_ := f1_.symm; have f5_ := f3_.symm; clear f1_ f2_ f3_; subst f4_; subst f5_))
      obtain ⟨Ao78, co78, eo78⟩ := Kd.R_slice HO275.out
      (first | subst eo78 | (injection eo78 with f1_ f2_ f3_; have f4_ := f1_.symm; have f5_ := f3_.symm; clear f1_ f2_ f3_; subst f4_; subst f5_))
      refine hK.out _ _ ⟨(blk_cell BK252.out 0).trans rfl, (blk_cell BK252.out 1).trans rfl⟩ (fun hHeld => ?_)
      clear hK K
      refine norm_ (a' := ?_) ?_ ?_
      rotate_left
      · show Act.put _ (some 34) _ = _
        simp only [Act.put, List.setIfInBounds_toArray, List.set_cons_zero, List.set_cons_succ, i64_w, i32_w]
        rfl
      refine one_ (i := 2) (N := some 35) #[true, true, true, false, true, true, true, true, true, false, false, false, false] rfl rfl (one_of HT_.out (by kernel_rfl)) (by decide) (fun K hK => ?_)
      refine goes_ Tryz.func44 (by kernel_rfl) rfl #[.slice Ao77 t255.length co77, .slice Ao78 y273.length co78] (by rfl) rfl rfl (by (try simp only [List.map_toArray, List.map_cons, List.map_nil]); first | done | rfl | (simp only [List.length_drop, List.length_take]; rfl)) ?_
      with_reducible refine (spec_sum.calls k _ _ t255 _ _ y273 t276 _ ?side1 ?side2 ?side3 ?side4 A55.out).mono ?_
      (case side1 => repeat (first | exact (Kd.R_reads' HO258.out).2.2 | (with_reducible refine Kd.C_alloc ?_ _) | (with_reducible refine Kd.C_drewN ?_ _) | (with_reducible refine Kd.C_drew ?_)))
      (case side2 => exact (Kd.R_reads' HO258.out).2.1)
      (case side3 => repeat (first | exact (Kd.R_reads' HO275.out).2.2 | (with_reducible refine Kd.C_alloc ?_ _) | (with_reducible refine Kd.C_drewN ?_ _) | (with_reducible refine Kd.C_drew ?_)))
      (case side4 => exact (Kd.R_reads' HO275.out).2.1)
      rintro e w79 ⟨v277, rfl, ho0, hb⟩
      refine ⟨_, rfl, ?_⟩
      have n0_ := Aside0.mk (Kd.R_elder' (by (with_reducible repeat (first | apply Kd.R_alloc | apply Kd.R_drewN | apply Kd.R_drew)); exact HO258.out) (Kd.R_base ho0) hb)
      have n1_ := Aside0.mk (Kd.R_elder' (by (with_reducible repeat (first | apply Kd.R_alloc | apply Kd.R_drewN | apply Kd.R_drew)); exact HO260.out) (Kd.R_base ho0) hb)
      have n2_ := Aside0.mk (Kd.R_elder' (by (with_reducible repeat (first | apply Kd.R_alloc | apply Kd.R_drewN | apply Kd.R_drew)); exact HO275.out) (Kd.R_base ho0) hb)
      have n3_ := Aside0.mk (Kd.R_lower (Kd.R_new' (Kd.R_new' (Kd.R_new' ho0 (Kd.R_lt (by (with_reducible repeat (first | apply Kd.R_alloc | apply Kd.R_drewN | apply Kd.R_drew)); exact HO258.out))) (Kd.R_lt (by (with_reducible repeat (first | apply Kd.R_alloc | apply Kd.R_drewN | apply Kd.R_drew)); exact HO260.out))) (Kd.R_lt (by (with_reducible repeat (first | apply Kd.R_alloc | apply Kd.R_drewN | apply Kd.R_drew)); exact HO275.out))) (below_size (by repeat (first | (with_reducible first | exact HB.out | apply below_alloc | apply pw_below_drewN | apply below_drew1 | refine below_set ?_ GE251.out | refine below_set ?_ GE252.out | refine below_set ?_ GE253.out | refine below_set ?_ GE254.out) | exact HB.out))))
      have n4_ := Aside0.mk (blk_below (g := gb251) (o := .cells #[.bool a0_0, .slice A0_1 l0_1.length c0_1] 37 (0, 0)) (by (with_reducible repeat (first | refine blk_drewN ?_ _ | refine blk_drew ?_ | refine blk_alloc ?_ _)); exact BK251.out) hb)
      have n5_ := Aside0.mk (blk_below (g := gb252) (o := .cells #[.bool a1_0, .slice A1_1 l1_1.length c1_1] 37 (0, 0)) (by (with_reducible repeat (first | refine blk_drewN ?_ _ | refine blk_drew ?_ | refine blk_alloc ?_ _)); exact BK252.out) hb)
      have n6_ := Aside0.mk (blk_below (g := gb253) (o := .cells #[.bool false, .slice none 0 0] 37 (0, 0)) (by (with_reducible repeat (first | refine blk_drewN ?_ _ | refine blk_drew ?_ | refine blk_alloc ?_ _)); exact BK253.out) hb)
      have n7_ := Aside0.mk (blk_below (g := gb254) (o := .cells #[.bool false, .slice none 0 0] 37 (0, 0)) (by (with_reducible repeat (first | refine blk_drewN ?_ _ | refine blk_drew ?_ | refine blk_alloc ?_ _)); exact BK254.out) hb)
      have n8_ := Aside0.mk (below_step (by repeat (first | (with_reducible first | exact HB.out | apply below_alloc | apply pw_below_drewN | apply below_drew1 | refine below_set ?_ GE251.out | refine below_set ?_ GE252.out | refine below_set ?_ GE253.out | refine below_set ?_ GE254.out) | exact HB.out)) hb)
      clear HO258
      clear HO260
      clear HO275
      clear BK251
      clear BK252
      clear BK253
      clear BK254
      clear HB
      have HO258 := n0_
      have HO260 := n1_
      have HO275 := n2_
      have HO278 := n3_
      have BK251 := n4_
      have BK252 := n5_
      have BK253 := n6_
      have BK254 := n7_
      have HB := n8_
      clear n0_ n1_ n2_ n3_ n4_ n5_ n6_ n7_ n8_
      (try clear hb)
      (try clear hb2)
      (try clear hk)
      (try clear hi)
      (try clear ho0)
      obtain ⟨Ao80, co80, eo80⟩ := Kd.R_slice HO278.out
      (first | subst eo80 | (injection eo80 with f1_ f2_ f3_; have f4_ := f1_.symm; have f5_ := f3_.symm; clear f1_ f2_ f3_; subst f4_; subst f5_))
      refine hK.out _ _ ⟨(blk_cell BK252.out 0).trans rfl, (blk_cell BK252.out 1).trans rfl⟩ (fun hHeld => ?_)
      clear hK K
      refine norm_ (a' := ?_) ?_ ?_
      rotate_left
      · show Act.put _ (some 35) _ = _
        simp only [Act.put, List.setIfInBounds_toArray, List.set_cons_zero, List.set_cons_succ, i64_w, i32_w]
        rfl
      refine one_ (i := 3) (N := some 36) #[true, true, true, true, true, true, true, true, true, false, false, false, false] rfl rfl (one_of HT_.out (by kernel_rfl)) (by decide) (fun K hK => ?_)
      refine goes_ Tryz.func20 (by kernel_rfl) rfl #[.bool true, .slice Ao80 t276.length co80] (by rfl) rfl rfl (by (try simp only [List.map_toArray, List.map_cons, List.map_nil]); first | done | rfl | (simp only [List.length_drop, List.length_take]; rfl)) ?_
      with_reducible refine (spec_Of.calls k true _ _ t276 t279 t280 _ ?side1 ?side2 A56.out).mono ?_
      (case side1 => repeat (first | exact (Kd.R_reads' HO278.out).2.2 | (with_reducible refine Kd.C_alloc ?_ _) | (with_reducible refine Kd.C_drewN ?_ _) | (with_reducible refine Kd.C_drew ?_)))
      (case side2 => exact (Kd.R_reads' HO278.out).2.1)
      rintro e w81 ⟨v281, rfl, ho0, hb⟩
      refine ⟨_, rfl, ?_⟩
      have n0_ := Aside0.mk (Kd.R_elder' (by (with_reducible repeat (first | apply Kd.R_alloc | apply Kd.R_drewN | apply Kd.R_drew)); exact HO258.out) (Kd.R_base ho0) hb)
      have n1_ := Aside0.mk (Kd.R_elder' (by (with_reducible repeat (first | apply Kd.R_alloc | apply Kd.R_drewN | apply Kd.R_drew)); exact HO260.out) (Kd.R_base ho0) hb)
      have n2_ := Aside0.mk (Kd.R_elder' (by (with_reducible repeat (first | apply Kd.R_alloc | apply Kd.R_drewN | apply Kd.R_drew)); exact HO275.out) (Kd.R_base ho0) hb)
      have n3_ := Aside0.mk (Kd.R_elder' (by (with_reducible repeat (first | apply Kd.R_alloc | apply Kd.R_drewN | apply Kd.R_drew)); exact HO278.out) (Kd.R_base ho0) hb)
      have n4_ := Aside0.mk (Kd.R_lower (Kd.R_new' (Kd.R_new' (Kd.R_new' (Kd.R_new' ho0 (Kd.R_lt (by (with_reducible repeat (first | apply Kd.R_alloc | apply Kd.R_drewN | apply Kd.R_drew)); exact HO258.out))) (Kd.R_lt (by (with_reducible repeat (first | apply Kd.R_alloc | apply Kd.R_drewN | apply Kd.R_drew)); exact HO260.out))) (Kd.R_lt (by (with_reducible repeat (first | apply Kd.R_alloc | apply Kd.R_drewN | apply Kd.R_drew)); exact HO275.out))) (Kd.R_lt (by (with_reducible repeat (first | apply Kd.R_alloc | apply Kd.R_drewN | apply Kd.R_drew)); exact HO278.out))) (below_size (by repeat (first | (with_reducible first | exact HB.out | apply below_alloc | apply pw_below_drewN | apply below_drew1 | refine below_set ?_ GE251.out | refine below_set ?_ GE252.out | refine below_set ?_ GE253.out | refine below_set ?_ GE254.out) | exact HB.out))))
      have n5_ := Aside0.mk (blk_below (g := gb251) (o := .cells #[.bool a0_0, .slice A0_1 l0_1.length c0_1] 37 (0, 0)) (by (with_reducible repeat (first | refine blk_drewN ?_ _ | refine blk_drew ?_ | refine blk_alloc ?_ _)); exact BK251.out) hb)
      have n6_ := Aside0.mk (blk_below (g := gb252) (o := .cells #[.bool a1_0, .slice A1_1 l1_1.length c1_1] 37 (0, 0)) (by (with_reducible repeat (first | refine blk_drewN ?_ _ | refine blk_drew ?_ | refine blk_alloc ?_ _)); exact BK252.out) hb)
      have n7_ := Aside0.mk (blk_below (g := gb253) (o := .cells #[.bool false, .slice none 0 0] 37 (0, 0)) (by (with_reducible repeat (first | refine blk_drewN ?_ _ | refine blk_drew ?_ | refine blk_alloc ?_ _)); exact BK253.out) hb)
      have n8_ := Aside0.mk (blk_below (g := gb254) (o := .cells #[.bool false, .slice none 0 0] 37 (0, 0)) (by (with_reducible repeat (first | refine blk_drewN ?_ _ | refine blk_drew ?_ | refine blk_alloc ?_ _)); exact BK254.out) hb)
      have n9_ := Aside0.mk (below_step (by repeat (first | (with_reducible first | exact HB.out | apply below_alloc | apply pw_below_drewN | apply below_drew1 | refine below_set ?_ GE251.out | refine below_set ?_ GE252.out | refine below_set ?_ GE253.out | refine below_set ?_ GE254.out) | exact HB.out)) hb)
      clear HO258
      clear HO260
      clear HO275
      clear HO278
      clear BK251
      clear BK252
      clear BK253
      clear BK254
      clear HB
      have HO258 := n0_
      have HO260 := n1_
      have HO275 := n2_
      have HO278 := n3_
      have HO282 := n4_
      have BK251 := n5_
      have BK252 := n6_
      have BK253 := n7_
      have BK254 := n8_
      have HB := n9_
      clear n0_ n1_ n2_ n3_ n4_ n5_ n6_ n7_ n8_ n9_
      (try clear hb)
      (try clear hb2)
      (try clear hk)
      (try clear hi)
      (try clear ho0)
      refine hK.out _ _ ⟨(blk_cell BK252.out 0).trans rfl, (blk_cell BK252.out 1).trans rfl⟩ (fun hHeld => ?_)
      clear hK K
      refine norm_ (a' := ?_) ?_ ?_
      rotate_left
      · show Act.put _ (some 36) _ = _
        simp only [Act.put, List.setIfInBounds_toArray, List.set_cons_zero, List.set_cons_succ, i64_w, i32_w]
        rfl
      refine one_ (i := 9) (N := some 42) #[true, true, true, true, true, true, true, true, true, true, false, false, false] rfl rfl (one_of HT_.out (by kernel_rfl)) (by decide) (fun K hK => ?_)
      refine goes_ Tryz.func45 (by kernel_rfl) rfl #[.slice A1_1 l1_1.length c1_1, .slice Ao73 t256.length co73] (by rfl) rfl rfl (by (try simp only [List.map_toArray, List.map_cons, List.map_nil]); first | done | rfl | (simp only [List.length_drop, List.length_take]; rfl)) ?_
      with_reducible refine (spec_less.calls k _ _ l1_1 _ _ t256 t283 _ ?side1 ?side2 ?side3 ?side4 A57.out).mono ?_
      (case side1 => repeat (first | exact (Kd.C_below HR1_1.out HB.out) | (with_reducible refine Kd.C_alloc ?_ _) | (with_reducible refine Kd.C_drewN ?_ _) | (with_reducible refine Kd.C_drew ?_)))
      (case side2 => exact HC1_1.out)
      (case side3 => repeat (first | exact (Kd.R_reads' HO260.out).2.2 | (with_reducible refine Kd.C_alloc ?_ _) | (with_reducible refine Kd.C_drewN ?_ _) | (with_reducible refine Kd.C_drew ?_)))
      (case side4 => exact (Kd.R_reads' HO260.out).2.1)
      rintro e w82 ⟨v284, rfl, ho0, hb⟩
      refine ⟨_, rfl, ?_⟩
      have n0_ := Aside0.mk (Kd.R_elder' (by (with_reducible repeat (first | apply Kd.R_alloc | apply Kd.R_drewN | apply Kd.R_drew)); exact HO258.out) (Kd.R_base ho0) hb)
      have n1_ := Aside0.mk (Kd.R_elder' (by (with_reducible repeat (first | apply Kd.R_alloc | apply Kd.R_drewN | apply Kd.R_drew)); exact HO260.out) (Kd.R_base ho0) hb)
      have n2_ := Aside0.mk (Kd.R_elder' (by (with_reducible repeat (first | apply Kd.R_alloc | apply Kd.R_drewN | apply Kd.R_drew)); exact HO275.out) (Kd.R_base ho0) hb)
      have n3_ := Aside0.mk (Kd.R_elder' (by (with_reducible repeat (first | apply Kd.R_alloc | apply Kd.R_drewN | apply Kd.R_drew)); exact HO278.out) (Kd.R_base ho0) hb)
      have n4_ := Aside0.mk (Kd.R_elder' (by (with_reducible repeat (first | apply Kd.R_alloc | apply Kd.R_drewN | apply Kd.R_drew)); exact HO282.out) (Kd.R_base ho0) hb)
      have n5_ := Aside0.mk (Kd.R_lower (Kd.R_new' (Kd.R_new' (Kd.R_new' (Kd.R_new' (Kd.R_new' ho0 (Kd.R_lt (by (with_reducible repeat (first | apply Kd.R_alloc | apply Kd.R_drewN | apply Kd.R_drew)); exact HO258.out))) (Kd.R_lt (by (with_reducible repeat (first | apply Kd.R_alloc | apply Kd.R_drewN | apply Kd.R_drew)); exact HO260.out))) (Kd.R_lt (by (with_reducible repeat (first | apply Kd.R_alloc | apply Kd.R_drewN | apply Kd.R_drew)); exact HO275.out))) (Kd.R_lt (by (with_reducible repeat (first | apply Kd.R_alloc | apply Kd.R_drewN | apply Kd.R_drew)); exact HO278.out))) (Kd.R_lt (by (with_reducible repeat (first | apply Kd.R_alloc | apply Kd.R_drewN | apply Kd.R_drew)); exact HO282.out))) (below_size (by repeat (first | (with_reducible first | exact HB.out | apply below_alloc | apply pw_below_drewN | apply below_drew1 | refine below_set ?_ GE251.out | refine below_set ?_ GE252.out | refine below_set ?_ GE253.out | refine below_set ?_ GE254.out) | exact HB.out))))
      have n6_ := Aside0.mk (blk_below (g := gb251) (o := .cells #[.bool a0_0, .slice A0_1 l0_1.length c0_1] 37 (0, 0)) (by (with_reducible repeat (first | refine blk_drewN ?_ _ | refine blk_drew ?_ | refine blk_alloc ?_ _)); exact BK251.out) hb)
      have n7_ := Aside0.mk (blk_below (g := gb252) (o := .cells #[.bool a1_0, .slice A1_1 l1_1.length c1_1] 37 (0, 0)) (by (with_reducible repeat (first | refine blk_drewN ?_ _ | refine blk_drew ?_ | refine blk_alloc ?_ _)); exact BK252.out) hb)
      have n8_ := Aside0.mk (blk_below (g := gb253) (o := .cells #[.bool false, .slice none 0 0] 37 (0, 0)) (by (with_reducible repeat (first | refine blk_drewN ?_ _ | refine blk_drew ?_ | refine blk_alloc ?_ _)); exact BK253.out) hb)
      have n9_ := Aside0.mk (blk_below (g := gb254) (o := .cells #[.bool false, .slice none 0 0] 37 (0, 0)) (by (with_reducible repeat (first | refine blk_drewN ?_ _ | refine blk_drew ?_ | refine blk_alloc ?_ _)); exact BK254.out) hb)
      have n10_ := Aside0.mk (below_step (by repeat (first | (with_reducible first | exact HB.out | apply below_alloc | apply pw_below_drewN | apply below_drew1 | refine below_set ?_ GE251.out | refine below_set ?_ GE252.out | refine below_set ?_ GE253.out | refine below_set ?_ GE254.out) | exact HB.out)) hb)
      clear HO258
      clear HO260
      clear HO275
      clear HO278
      clear HO282
      clear BK251
      clear BK252
      clear BK253
      clear BK254
      clear HB
      have HO258 := n0_
      have HO260 := n1_
      have HO275 := n2_
      have HO278 := n3_
      have HO282 := n4_
      have HO285 := n5_
      have BK251 := n6_
      have BK252 := n7_
      have BK253 := n8_
      have BK254 := n9_
      have HB := n10_
      clear n0_ n1_ n2_ n3_ n4_ n5_ n6_ n7_ n8_ n9_ n10_
      (try clear hb)
      (try clear hb2)
      (try clear hk)
      (try clear hi)
      (try clear ho0)
      obtain ⟨Ao83, co83, eo83⟩ := Kd.R_slice HO285.out
      (first | subst eo83 | (injection eo83 with f1_ f2_ f3_; have f4_ := f1_.symm; have f5_ := f3_.symm; clear f1_ f2_ f3_; subst f4_; subst f5_))
      refine hK.out _ _ ⟨(blk_cell BK252.out 0).trans rfl, (blk_cell BK252.out 1).trans rfl⟩ (fun hHeld => ?_)
      clear hK K
      refine norm_ (a' := ?_) ?_ ?_
      rotate_left
      · show Act.put _ (some 42) _ = _
        simp only [Act.put, List.setIfInBounds_toArray, List.set_cons_zero, List.set_cons_succ, i64_w, i32_w]
        rfl
      refine one_ (i := 10) (N := some 43) #[true, true, true, true, true, true, true, true, true, true, true, false, false] rfl rfl (one_of HT_.out (by kernel_rfl)) (by decide) (fun K hK => ?_)
      refine goes_ Tryz.func20 (by kernel_rfl) rfl #[.bool a1_0, .slice Ao83 t283.length co83] (by rfl) rfl rfl (by (try simp only [List.map_toArray, List.map_cons, List.map_nil]); first | done | rfl | (simp only [List.length_drop, List.length_take]; rfl)) ?_
      with_reducible refine (spec_Of.calls k a1_0 _ _ t283 t286 t287 _ ?side1 ?side2 A58.out).mono ?_
      (case side1 => repeat (first | exact (Kd.R_reads' HO285.out).2.2 | (with_reducible refine Kd.C_alloc ?_ _) | (with_reducible refine Kd.C_drewN ?_ _) | (with_reducible refine Kd.C_drew ?_)))
      (case side2 => exact (Kd.R_reads' HO285.out).2.1)
      rintro e w84 ⟨v288, rfl, ho0, hb⟩
      refine ⟨_, rfl, ?_⟩
      have n0_ := Aside0.mk (Kd.R_elder' (by (with_reducible repeat (first | apply Kd.R_alloc | apply Kd.R_drewN | apply Kd.R_drew)); exact HO258.out) (Kd.R_base ho0) hb)
      have n1_ := Aside0.mk (Kd.R_elder' (by (with_reducible repeat (first | apply Kd.R_alloc | apply Kd.R_drewN | apply Kd.R_drew)); exact HO260.out) (Kd.R_base ho0) hb)
      have n2_ := Aside0.mk (Kd.R_elder' (by (with_reducible repeat (first | apply Kd.R_alloc | apply Kd.R_drewN | apply Kd.R_drew)); exact HO275.out) (Kd.R_base ho0) hb)
      have n3_ := Aside0.mk (Kd.R_elder' (by (with_reducible repeat (first | apply Kd.R_alloc | apply Kd.R_drewN | apply Kd.R_drew)); exact HO278.out) (Kd.R_base ho0) hb)
      have n4_ := Aside0.mk (Kd.R_elder' (by (with_reducible repeat (first | apply Kd.R_alloc | apply Kd.R_drewN | apply Kd.R_drew)); exact HO282.out) (Kd.R_base ho0) hb)
      have n5_ := Aside0.mk (Kd.R_elder' (by (with_reducible repeat (first | apply Kd.R_alloc | apply Kd.R_drewN | apply Kd.R_drew)); exact HO285.out) (Kd.R_base ho0) hb)
      have n6_ := Aside0.mk (Kd.R_lower (Kd.R_new' (Kd.R_new' (Kd.R_new' (Kd.R_new' (Kd.R_new' (Kd.R_new' ho0 (Kd.R_lt (by (with_reducible repeat (first | apply Kd.R_alloc | apply Kd.R_drewN | apply Kd.R_drew)); exact HO258.out))) (Kd.R_lt (by (with_reducible repeat (first | apply Kd.R_alloc | apply Kd.R_drewN | apply Kd.R_drew)); exact HO260.out))) (Kd.R_lt (by (with_reducible repeat (first | apply Kd.R_alloc | apply Kd.R_drewN | apply Kd.R_drew)); exact HO275.out))) (Kd.R_lt (by (with_reducible repeat (first | apply Kd.R_alloc | apply Kd.R_drewN | apply Kd.R_drew)); exact HO278.out))) (Kd.R_lt (by (with_reducible repeat (first | apply Kd.R_alloc | apply Kd.R_drewN | apply Kd.R_drew)); exact HO282.out))) (Kd.R_lt (by (with_reducible repeat (first | apply Kd.R_alloc | apply Kd.R_drewN | apply Kd.R_drew)); exact HO285.out))) (below_size (by repeat (first | (with_reducible first | exact HB.out | apply below_alloc | apply pw_below_drewN | apply below_drew1 | refine below_set ?_ GE251.out | refine below_set ?_ GE252.out | refine below_set ?_ GE253.out | refine below_set ?_ GE254.out) | exact HB.out))))
      have n7_ := Aside0.mk (blk_below (g := gb251) (o := .cells #[.bool a0_0, .slice A0_1 l0_1.length c0_1] 37 (0, 0)) (by (with_reducible repeat (first | refine blk_drewN ?_ _ | refine blk_drew ?_ | refine blk_alloc ?_ _)); exact BK251.out) hb)
      have n8_ := Aside0.mk (blk_below (g := gb252) (o := .cells #[.bool a1_0, .slice A1_1 l1_1.length c1_1] 37 (0, 0)) (by (with_reducible repeat (first | refine blk_drewN ?_ _ | refine blk_drew ?_ | refine blk_alloc ?_ _)); exact BK252.out) hb)
      have n9_ := Aside0.mk (blk_below (g := gb253) (o := .cells #[.bool false, .slice none 0 0] 37 (0, 0)) (by (with_reducible repeat (first | refine blk_drewN ?_ _ | refine blk_drew ?_ | refine blk_alloc ?_ _)); exact BK253.out) hb)
      have n10_ := Aside0.mk (blk_below (g := gb254) (o := .cells #[.bool false, .slice none 0 0] 37 (0, 0)) (by (with_reducible repeat (first | refine blk_drewN ?_ _ | refine blk_drew ?_ | refine blk_alloc ?_ _)); exact BK254.out) hb)
      have n11_ := Aside0.mk (below_step (by repeat (first | (with_reducible first | exact HB.out | apply below_alloc | apply pw_below_drewN | apply below_drew1 | refine below_set ?_ GE251.out | refine below_set ?_ GE252.out | refine below_set ?_ GE253.out | refine below_set ?_ GE254.out) | exact HB.out)) hb)
      clear HO258
      clear HO260
      clear HO275
      clear HO278
      clear HO282
      clear HO285
      clear BK251
      clear BK252
      clear BK253
      clear BK254
      clear HB
      have HO258 := n0_
      have HO260 := n1_
      have HO275 := n2_
      have HO278 := n3_
      have HO282 := n4_
      have HO285 := n5_
      have HO289 := n6_
      have BK251 := n7_
      have BK252 := n8_
      have BK253 := n9_
      have BK254 := n10_
      have HB := n11_
      clear n0_ n1_ n2_ n3_ n4_ n5_ n6_ n7_ n8_ n9_ n10_ n11_
      (try clear hb)
      (try clear hb2)
      (try clear hk)
      (try clear hi)
      (try clear ho0)
      obtain ⟨Ao86, co86, eo86⟩ := Kd.R_slice HO282.out
      (first | subst eo86 | (injection eo86 with f1_ f2_ f3_; have f4_ := f1_.symm; have f5_ := f3_.symm; clear f1_ f2_ f3_; subst f4_; subst f5_))
      obtain ⟨Ao89, co89, eo89⟩ := Kd.R_slice HO289.out
      (first | subst eo89 | (injection eo89 with f1_ f2_ f3_; have f4_ := f1_.symm; have f5_ := f3_.symm; clear f1_ f2_ f3_; subst f4_; subst f5_))
      refine hK.out _ _ ⟨(blk_cell BK252.out 0).trans rfl, (blk_cell BK252.out 1).trans rfl⟩ (fun hHeld => ?_)
      clear hK K
      refine norm_ (a' := ?_) ?_ ?_
      rotate_left
      · show Act.put _ (some 43) _ = _
        simp only [Act.put, List.setIfInBounds_toArray, List.set_cons_zero, List.set_cons_succ, i64_w, i32_w]
        rfl
      refine one_ (i := 11) (N := none) #[true, true, true, true, true, true, true, true, true, true, true, true, false] rfl rfl (one_of HT_.out (by kernel_rfl)) (by decide) (fun K hK => ?_)
      have hs85 : w84.cell? ⟨gb253, 0, none⟩ = some (.bool false) := (blk_cell BK253.out 0).trans rfl
      have hfs85 := blk_frozen BK253.out 0
      have hns85_0 := NB251_253.out
      have hns85_1 := NB252_253.out
      have hns85_3 := NB254_253.out
      have hms85_0 := NB253_251.out
      have hms85_1 := NB253_252.out
      have hms85_3 := NB253_254.out
      have hs87 : w84.cell? ⟨gb253, 1, none⟩ = some (.slice none 0 0) := (blk_cell BK253.out 1).trans rfl
      have hfs87 := blk_frozen BK253.out 1
      have hns87_0 := NB251_253.out
      have hns87_1 := NB252_253.out
      have hns87_3 := NB254_253.out
      have hms87_0 := NB253_251.out
      have hms87_1 := NB253_252.out
      have hms87_3 := NB253_254.out
      refine skip_ (w1 := ?_) (by rfl) rfl ?_ ?_
      rotate_left
      · go_simp
        rfl
      refine hK.out _ _ ⟨((cell_far (p := ⟨gb253, _, none⟩) NB252_253.out _).trans (((cell_far (p := ⟨gb253, _, none⟩) NB252_253.out _).trans (hHeld.1)))), ((cell_far (p := ⟨gb253, _, none⟩) NB252_253.out _).trans (((cell_far (p := ⟨gb253, _, none⟩) NB252_253.out _).trans (hHeld.2))))⟩ (fun hHeld => ?_)
      clear hK K
      refine one_ (i := 12) (N := none) #[true, true, true, true, true, true, true, true, true, true, true, true, true] rfl rfl (one_of HT_.out (by kernel_rfl)) (by decide) (fun K hK => ?_)
      have hs88 : w84.cell? ⟨gb254, 0, none⟩ = some (.bool false) := (blk_cell BK254.out 0).trans rfl
      have hfs88 := blk_frozen BK254.out 0
      have hns88_0 := NB251_254.out
      have hns88_1 := NB252_254.out
      have hns88_2 := NB253_254.out
      have hms88_0 := NB254_251.out
      have hms88_1 := NB254_252.out
      have hms88_2 := NB254_253.out
      have hs90 : w84.cell? ⟨gb254, 1, none⟩ = some (.slice none 0 0) := (blk_cell BK254.out 1).trans rfl
      have hfs90 := blk_frozen BK254.out 1
      have hns90_0 := NB251_254.out
      have hns90_1 := NB252_254.out
      have hns90_2 := NB253_254.out
      have hms90_0 := NB254_251.out
      have hms90_1 := NB254_252.out
      have hms90_2 := NB254_253.out
      refine skip_ (w1 := ?_) (by rfl) rfl ?_ ?_
      rotate_left
      · go_simp
        rfl
      refine hK.out _ _ ⟨((cell_far (p := ⟨gb254, _, none⟩) NB252_254.out _).trans (((cell_far (p := ⟨gb254, _, none⟩) NB252_254.out _).trans (hHeld.1)))), ((cell_far (p := ⟨gb254, _, none⟩) NB252_254.out _).trans (((cell_far (p := ⟨gb254, _, none⟩) NB252_254.out _).trans (hHeld.2))))⟩ (fun hHeld => ?_)
      clear hK K
      refine done_ (done_of HT_.out (by kernel_rfl)) ?_
      try go_wp2
      refine bodyPost_ret (results_cc rfl _ _ gb253 gb254 37 37 #[.bool t279, .slice Ao86 t280.length co86] #[.bool t286, .slice Ao89 t287.length co89] (0, 0) (0, 0) _ _ rfl (by (with_reducible repeat (first | refine blk_drewN ?_ _ | refine blk_drew ?_ | refine blk_alloc ?_ _)); refine blk_far ?_ NB253_254.out _; (with_reducible repeat (first | refine blk_drewN ?_ _ | refine blk_drew ?_ | refine blk_alloc ?_ _)); refine blk_far ?_ NB253_254.out _; (with_reducible repeat (first | refine blk_drewN ?_ _ | refine blk_drew ?_ | refine blk_alloc ?_ _)); refine blk_put (cs := #[.bool t279, .slice none 0 0]) ?_ 1 _ rfl; (with_reducible repeat (first | refine blk_drewN ?_ _ | refine blk_drew ?_ | refine blk_alloc ?_ _)); refine blk_put (cs := #[.bool false, .slice none 0 0]) ?_ 0 _ rfl; (with_reducible repeat (first | refine blk_drewN ?_ _ | refine blk_drew ?_ | refine blk_alloc ?_ _)); exact BK253.out) Tryz.underlying37 rfl (by kernel_rfl) rfl (by (with_reducible repeat (first | refine blk_drewN ?_ _ | refine blk_drew ?_ | refine blk_alloc ?_ _)); refine blk_put (cs := #[.bool t286, .slice none 0 0]) ?_ 1 _ rfl; (with_reducible repeat (first | refine blk_drewN ?_ _ | refine blk_drew ?_ | refine blk_alloc ?_ _)); refine blk_put (cs := #[.bool false, .slice none 0 0]) ?_ 0 _ rfl; (with_reducible repeat (first | refine blk_drewN ?_ _ | refine blk_drew ?_ | refine blk_alloc ?_ _)); refine blk_far ?_ NB254_253.out _; (with_reducible repeat (first | refine blk_drewN ?_ _ | refine blk_drew ?_ | refine blk_alloc ?_ _)); refine blk_far ?_ NB254_253.out _; (with_reducible repeat (first | refine blk_drewN ?_ _ | refine blk_drew ?_ | refine blk_alloc ?_ _)); exact BK254.out) Tryz.underlying37 rfl (by kernel_rfl)) rfl ?_
      exact ⟨_, _, by first | rfl | (simp [errW_none, errW_some] <;> rfl) | (simp [*, errW_none, errW_some] <;> rfl), by (with_reducible repeat (first | apply Kd.R_alloc | apply Kd.R_drewN | apply Kd.R_drew)); exact Kd.R_mono (Kd.R_far (p := ⟨gb254, 1, none⟩) (Kd.R_far (p := ⟨gb254, 0, none⟩) (Kd.R_far (p := ⟨gb253, 1, none⟩) (Kd.R_far (p := ⟨gb253, 0, none⟩) (Kd.R_types (Kd.R_types HO282.out BK253.out (by decide)) BK254.out (by decide)) (fun _ hk => hk.1.2) (.bool t279)) (fun _ hk => hk.1.2) (.slice Ao86 t280.length co86)) (fun _ hk => hk.2) (.bool t286)) (fun _ hk => hk.2) (.slice Ao89 t287.length co89)) (fun _ hk => hk.1.1.2), by (with_reducible repeat (first | apply Kd.R_alloc | apply Kd.R_drewN | apply Kd.R_drew)); exact Kd.R_mono (Kd.R_far (p := ⟨gb254, 1, none⟩) (Kd.R_far (p := ⟨gb254, 0, none⟩) (Kd.R_far (p := ⟨gb253, 1, none⟩) (Kd.R_far (p := ⟨gb253, 0, none⟩) (Kd.R_types (Kd.R_types HO289.out BK253.out (by decide)) BK254.out (by decide)) (fun _ hk => hk.1.2) (.bool t279)) (fun _ hk => hk.1.2) (.slice Ao86 t280.length co86)) (fun _ hk => hk.2) (.bool t286)) (fun _ hk => hk.2) (.slice Ao89 t287.length co89)) (fun _ hk => hk.1.1.1.2), by repeat (first | (with_reducible first | exact HB.out | apply below_alloc | apply pw_below_drewN | apply below_drew1 | refine below_set ?_ GE251.out | refine below_set ?_ GE252.out | refine below_set ?_ GE253.out | refine below_set ?_ GE254.out) | exact HB.out)⟩
end Go.Proofs.YtdbjoiojiibdgaaGreatDoor.PFixed
namespace Go.Proofs.YtdbjoiojiibdgaaGreatDoor.PFixed
open Go.RowKit Go.Proofs.YtdbjoiojiibdgaaGreatDoorW.PrintWords Go.Proofs.YtdbjoiojiibdgaaGreatDoorW.PrintLast Go.Proofs.YtdbjoiojiibdgaaGreatDoorW.PrintMore
attribute [local go_sem] max2_int min2_int max_two min_two max_three min_three max_four min_four
set_option linter.unusedVariables false
set_option linter.unusedSimpArgs false
def spec_Int_Add.f (k : Nat) (a0_0 : Bool) (l0_1 : List Int) (a1_0 : Bool) (l1_1 : List Int) : Option (Bool × List Int) := if (a0_0 == a1_0) = true then ((spec_sum.f k l0_1 l1_1).bind fun t293 => ((spec_Of.f k a0_0 t293).bind fun bt296 => (some (bt296.1, bt296.2)))) else ((spec_order.f k l0_1 l1_1).bind fun t300 => (if t300 ≥ 0 then ((spec_less.f k l0_1 l1_1).bind fun t301 => ((spec_Of.f k a0_0 t301).bind fun bt304 => (some (bt304.1, bt304.2)))) else ((spec_less.f k l1_1 l0_1).bind fun t308 => ((spec_Of.f k a1_0 t308).bind fun bt311 => (some (bt311.1, bt311.2))))))
def spec_Int_Add.T2 : Bool × List (List Nat × List Nat) := (true, [([], []), ([0], [0]), ([], []), ([2], [2]), ([], []), ([4], [4]), ([3, 5], [3, 5]), ([1, 6, 6], [1, 6]), ([7, 7, 0, 1, 2, 3, 4, 5, 6, 7], [7])])
def spec_Int_Add.B2 : List Nat := [0, 1, 0, 4, 0, 16, 60, 127, 255]
theorem spec_Int_Add.tab2 : rtab .any (opsOf Tryz.f37 2) = spec_Int_Add.T2 := by kernel_rfl
theorem spec_Int_Add.bits2 : waitsOk spec_Int_Add.T2.2 spec_Int_Add.B2 = true := by kernel_rfl
def spec_Int_Add.T4 : Bool × List (List Nat × List Nat) := (true, [([], []), ([0], [0]), ([], []), ([2], [2]), ([], []), ([4], [4]), ([3, 5], [3, 5]), ([1, 6, 6], [1, 6]), ([7, 7, 0, 1, 2, 3, 4, 5, 6, 7], [7])])
def spec_Int_Add.B4 : List Nat := [0, 1, 0, 4, 0, 16, 60, 127, 255]
theorem spec_Int_Add.tab4 : rtab .any (opsOf Tryz.f37 4) = spec_Int_Add.T4 := by kernel_rfl
theorem spec_Int_Add.bits4 : waitsOk spec_Int_Add.T4.2 spec_Int_Add.B4 = true := by kernel_rfl
def spec_Int_Add.T5 : Bool × List (List Nat × List Nat) := (true, [([], []), ([0], [0]), ([], []), ([2], [2]), ([], []), ([4], [4]), ([3, 5], [3, 5]), ([1, 6, 6], [1, 6]), ([7, 7, 0, 1, 2, 3, 4, 5, 6, 7], [7])])
def spec_Int_Add.B5 : List Nat := [0, 1, 0, 4, 0, 16, 60, 127, 255]
theorem spec_Int_Add.tab5 : rtab .any (opsOf Tryz.f37 5) = spec_Int_Add.T5 := by kernel_rfl
theorem spec_Int_Add.bits5 : waitsOk spec_Int_Add.T5.2 spec_Int_Add.B5 = true := by kernel_rfl
set_option maxHeartbeats 8000000 in
set_option maxRecDepth 100000 in
theorem spec_Int_Add.calls (k : Nat) (a0_0 : Bool) (A0_1 : Option Addr) (c0_1 : Nat) (l0_1 : List Int) (a1_0 : Bool) (A1_1 : Option Addr) (c1_1 : Nat) (l1_1 : List Int) (r1 : Bool) (r2 : List Int) (w : World) (hr0_1 : Kd.C (Kd.int .u8) w A0_1 l0_1.length l0_1) (hc0_1 : l0_1.length ≤ c0_1) (hr1_1 : Kd.C (Kd.int .u8) w A1_1 l1_1.length l1_1) (hc1_1 : l1_1.length ≤ c1_1) (h : spec_Int_Add.f k a0_0 l0_1 a1_0 l1_1 = some (r1, r2)) :
    Calls Tryz.prog 37 #[.agg #[.bool a0_0, .slice A0_1 l0_1.length c0_1], .agg #[.bool a1_0, .slice A1_1 l1_1.length c1_1]] w fun e w' => ∃ v1_ : Value, e = .returned (.agg #[.bool r1, v1_]) ∧ Kd.R (Kd.int .u8) 5 w' w.heap.size (fun _ => True) v1_ r2 ∧ Below w.heap.size w w' := by
  have hu37 := Tryz.underlying37
  have HR0_1 := Aside0.mk hr0_1
  have HC0_1 := Aside0.mk hc0_1
  clear hr0_1 hc0_1
  have HR1_1 := Aside0.mk hr1_1
  have HC1_1 := Aside0.mk hc1_1
  clear hr1_1 hc1_1
  have HB := Aside0.mk (Below.refl w.heap.size w)
  have H : (if (a0_0 == a1_0) = true then ((spec_sum.f k l0_1 l1_1).bind fun t293 => ((spec_Of.f k a0_0 t293).bind fun bt296 => (some (bt296.1, bt296.2)))) else ((spec_order.f k l0_1 l1_1).bind fun t300 => (if t300 ≥ 0 then ((spec_less.f k l0_1 l1_1).bind fun t301 => ((spec_Of.f k a0_0 t301).bind fun bt304 => (some (bt304.1, bt304.2)))) else ((spec_less.f k l1_1 l0_1).bind fun t308 => ((spec_Of.f k a1_0 t308).bind fun bt311 => (some (bt311.1, bt311.2))))))) = some (r1, r2) := h
  clear h
  by_cases c3 : (a0_0 == a1_0) = true
  · rw [if_pos c3] at H
    have c3b0 : (a0_0 == a1_0) = true := c3
    (try (have c3b1 : decide (a0_0 = a1_0) = true := by simpa using c3))
    (try (have c3b2 : (a0_0 == a1_0) = true := by simpa using c3))
    clear c3
    replace H := Option.bind_eq_some_iff.mp H
    obtain ⟨t293, A40, H⟩ := H
    replace H : ((spec_Of.f k a0_0 t293).bind fun bt296 => (some (bt296.1, bt296.2))) = some (r1, r2) := H
    have A4 := Aside0.mk A40
    clear A40
    replace H := Option.bind_eq_some_iff.mp H
    obtain ⟨⟨t296, t297⟩, A50, H⟩ := H
    replace H : (some (t296, t297)) = some (r1, r2) := H
    have A5 := Aside0.mk A50
    clear A50
    simp only [Option.some.injEq, Prod.mk.injEq] at H
    obtain ⟨rfl, rfl⟩ := H
    go_enter Tryz.func37, Tryz.ntmps37
    try go_wp2_with (first | ((with_reducible refine gate_dst (N := 2) rfl ?_); refine box_event ?hg (N := 2) ?hd (cs := #[.bool a0_0, .slice A0_1 l0_1.length c0_1]) (t := 37) ?hr ?_; (case hd => rfl); (case hg => rfl); (case hr => first | (go_simp; done) | (go_simp; rfl)); intro gb290 hg w6 hbox hb; have n0_ := Aside0.mk (below_step (by repeat (first | (with_reducible first | exact HB.out | apply below_alloc | apply pw_below_drewN | apply below_drew1) | exact HB.out)) hb); have n1_ := Aside0.mk (hbox); have n2_ := Aside0.mk ((by rw [hg]; exact (below_size (by repeat (first | (with_reducible first | exact HB.out | apply below_alloc | apply pw_below_drewN | apply below_drew1) | exact HB.out))) : w.heap.size ≤ gb290)); have n3_ := Aside0.mk ((by rw [hg]; exact (below_size (by repeat (first | (with_reducible first | exact HB.out | apply below_alloc | apply pw_below_drewN | apply below_drew1) | exact HB.out))) : w.heap.size ≤ gb290)); clear HB; have HB := n0_; have BK290 := n1_; have GW290 := n2_; have GE290 := n3_; clear n0_ n1_ n2_ n3_; clear hb hbox hg) | ((with_reducible refine gate_dst (N := 3) rfl ?_); refine box_event ?hg (N := 3) ?hd (cs := #[.bool a1_0, .slice A1_1 l1_1.length c1_1]) (t := 37) ?hr ?_; (case hd => rfl); (case hg => rfl); (case hr => first | (go_simp; done) | (go_simp; rfl)); intro gb291 hg w7 hbox hb; have n0_ := Aside0.mk (blk_below (g := gb290) (o := .cells #[.bool a0_0, .slice A0_1 l0_1.length c0_1] 37 (0, 0)) (by (with_reducible repeat (first | refine blk_drewN ?_ _ | refine blk_drew ?_ | refine blk_alloc ?_ _)); exact BK290.out) hb); have n1_ := Aside0.mk (below_step (by repeat (first | (with_reducible first | exact HB.out | apply below_alloc | apply pw_below_drewN | apply below_drew1 | refine below_set ?_ GE290.out) | exact HB.out)) hb); have n2_ := Aside0.mk (hbox); have n3_ := Aside0.mk ((by rw [hg]; exact (below_size (by repeat (first | (with_reducible first | exact HB.out | apply below_alloc | apply pw_below_drewN | apply below_drew1 | refine below_set ?_ GE290.out) | exact HB.out))) : w.heap.size ≤ gb291)); have n4_ := Aside0.mk ((by rw [hg]; exact (below_size (by repeat (first | (with_reducible first | exact HB.out | apply below_alloc | apply pw_below_drewN | apply below_drew1 | refine below_set ?_ GE290.out) | exact HB.out))) : w.heap.size ≤ gb291)); have n5_ := Aside0.mk ((by rw [hg]; exact Nat.ne_of_lt (blk_lt (g := gb290) (o := .cells #[.bool a0_0, .slice A0_1 l0_1.length c0_1] 37 (0, 0)) (by (with_reducible repeat (first | refine blk_drewN ?_ _ | refine blk_drew ?_ | refine blk_alloc ?_ _)); exact BK290.out)) : gb290 ≠ gb291)); have n6_ := Aside0.mk ((by rw [hg]; exact Nat.ne_of_gt (blk_lt (g := gb290) (o := .cells #[.bool a0_0, .slice A0_1 l0_1.length c0_1] 37 (0, 0)) (by (with_reducible repeat (first | refine blk_drewN ?_ _ | refine blk_drew ?_ | refine blk_alloc ?_ _)); exact BK290.out)) : gb291 ≠ gb290)); clear BK290; clear HB; have BK290 := n0_; have HB := n1_; have BK291 := n2_; have GW291 := n3_; have GE291 := n4_; have NB290_291 := n5_; have NB291_290 := n6_; clear n0_ n1_ n2_ n3_ n4_ n5_ n6_; clear hb hbox hg) | ((with_reducible refine gate_dst (N := 4) rfl ?_); refine box_event ?hg (N := 4) ?hd (cs := #[.bool false, .slice none 0 0]) (t := 37) ?hr ?_; (case hd => rfl); (case hg => rfl); (case hr => first | (go_simp; done) | (go_simp; rfl)); intro gb292 hg w8 hbox hb; have n0_ := Aside0.mk (blk_below (g := gb290) (o := .cells #[.bool a0_0, .slice A0_1 l0_1.length c0_1] 37 (0, 0)) (by (with_reducible repeat (first | refine blk_drewN ?_ _ | refine blk_drew ?_ | refine blk_alloc ?_ _)); exact BK290.out) hb); have n1_ := Aside0.mk (blk_below (g := gb291) (o := .cells #[.bool a1_0, .slice A1_1 l1_1.length c1_1] 37 (0, 0)) (by (with_reducible repeat (first | refine blk_drewN ?_ _ | refine blk_drew ?_ | refine blk_alloc ?_ _)); exact BK291.out) hb); have n2_ := Aside0.mk (below_step (by repeat (first | (with_reducible first | exact HB.out | apply below_alloc | apply pw_below_drewN | apply below_drew1 | refine below_set ?_ GE290.out | refine below_set ?_ GE291.out) | exact HB.out)) hb); have n3_ := Aside0.mk (hbox); have n4_ := Aside0.mk ((by rw [hg]; exact (below_size (by repeat (first | (with_reducible first | exact HB.out | apply below_alloc | apply pw_below_drewN | apply below_drew1 | refine below_set ?_ GE290.out | refine below_set ?_ GE291.out) | exact HB.out))) : w.heap.size ≤ gb292)); have n5_ := Aside0.mk ((by rw [hg]; exact (below_size (by repeat (first | (with_reducible first | exact HB.out | apply below_alloc | apply pw_below_drewN | apply below_drew1 | refine below_set ?_ GE290.out | refine below_set ?_ GE291.out) | exact HB.out))) : w.heap.size ≤ gb292)); have n6_ := Aside0.mk ((by rw [hg]; exact Nat.ne_of_lt (blk_lt (g := gb290) (o := .cells #[.bool a0_0, .slice A0_1 l0_1.length c0_1] 37 (0, 0)) (by (with_reducible repeat (first | refine blk_drewN ?_ _ | refine blk_drew ?_ | refine blk_alloc ?_ _)); exact BK290.out)) : gb290 ≠ gb292)); have n7_ := Aside0.mk ((by rw [hg]; exact Nat.ne_of_gt (blk_lt (g := gb290) (o := .cells #[.bool a0_0, .slice A0_1 l0_1.length c0_1] 37 (0, 0)) (by (with_reducible repeat (first | refine blk_drewN ?_ _ | refine blk_drew ?_ | refine blk_alloc ?_ _)); exact BK290.out)) : gb292 ≠ gb290)); have n8_ := Aside0.mk ((by rw [hg]; exact Nat.ne_of_lt (blk_lt (g := gb291) (o := .cells #[.bool a1_0, .slice A1_1 l1_1.length c1_1] 37 (0, 0)) (by (with_reducible repeat (first | refine blk_drewN ?_ _ | refine blk_drew ?_ | refine blk_alloc ?_ _)); exact BK291.out)) : gb291 ≠ gb292)); have n9_ := Aside0.mk ((by rw [hg]; exact Nat.ne_of_gt (blk_lt (g := gb291) (o := .cells #[.bool a1_0, .slice A1_1 l1_1.length c1_1] 37 (0, 0)) (by (with_reducible repeat (first | refine blk_drewN ?_ _ | refine blk_drew ?_ | refine blk_alloc ?_ _)); exact BK291.out)) : gb292 ≠ gb291)); clear BK290; clear BK291; clear HB; have BK290 := n0_; have BK291 := n1_; have HB := n2_; have BK292 := n3_; have GW292 := n4_; have GE292 := n5_; have NB290_292 := n6_; have NB292_290 := n7_; have NB291_292 := n8_; have NB292_291 := n9_; clear n0_ n1_ n2_ n3_ n4_ n5_ n6_ n7_ n8_ n9_; clear hb hbox hg; have hnb9 := NB290_291.out; have hnc9 := NB291_290.out; have hnb10 := NB290_292.out; have hnc10 := NB292_290.out; have hcz11_0 : w8.cell? ⟨gb290, 0, none⟩ = some (.bool a0_0) := (blk_cell BK290.out 0).trans rfl; have hcz11_1 : w8.cell? ⟨gb290, 1, none⟩ = some (.slice A0_1 l0_1.length c0_1) := (blk_cell BK290.out 1).trans rfl; have hfz11_0 := blk_frozen BK290.out 0; have hfz11_1 := blk_frozen BK290.out 1; have hnb12 := NB291_292.out; have hnc12 := NB292_291.out; have hcz13_0 : w8.cell? ⟨gb291, 0, none⟩ = some (.bool a1_0) := (blk_cell BK291.out 0).trans rfl; have hcz13_1 : w8.cell? ⟨gb291, 1, none⟩ = some (.slice A1_1 l1_1.length c1_1) := (blk_cell BK291.out 1).trans rfl; have hfz13_0 := blk_frozen BK291.out 0; have hfz13_1 := blk_frozen BK291.out 1))
    have n0_ := Aside0.mk (blk_drew BK290.out)
    have n1_ := Aside0.mk (blk_drew BK291.out)
    have n2_ := Aside0.mk (blk_drew BK292.out)
    have n3_ := Aside0.mk (below_drew1 HB.out)
    clear BK290
    clear BK291
    clear BK292
    clear HB
    have BK290 := n0_
    have BK291 := n1_
    have BK292 := n2_
    have HB := n3_
    clear n0_ n1_ n2_ n3_
    refine start_ (n := 9) (S := fun w' => w'.cell? ⟨gb290, 0, none⟩ = some (.bool a0_0) ∧ w'.cell? ⟨gb290, 1, none⟩ = some (.slice A0_1 l0_1.length c0_1) ∧ w'.cell? ⟨gb291, 0, none⟩ = some (.bool a1_0) ∧ w'.cell? ⟨gb291, 1, none⟩ = some (.slice A1_1 l1_1.length c1_1)) (ds := []) #[false, false, false, false, false, false, false, false, false] (by kernel_rfl) rfl rfl ⟨(blk_cell BK290.out 0).trans rfl, (blk_cell BK290.out 1).trans rfl, (blk_cell BK291.out 0).trans rfl, (blk_cell BK291.out 1).trans rfl⟩ (fun hHeld => ?_); refine with_tabW spec_Int_Add.tab2 spec_Int_Add.bits2 (fun HT_ HW_ => ?_)
    generalize w8.drew = w14 at BK290 BK291 BK292 HB hHeld ⊢
    refine pure_ (i := 0) (N := some 10) (v := ?_) (a' := ?_) #[true, false, false, false, false, false, false, false, false] rfl rfl (any_of HT_.out (by kernel_rfl)) (fun _ _ _ h => h) (Or.inl ⟨by rfl, ?_⟩) ?_ ?_
    rotate_left
    · intro w'
      go_simp
      with_reducible rfl
    rotate_left
    · simp only [Act.put, List.setIfInBounds_toArray, List.set_cons_zero, List.set_cons_succ, i64_w, i32_w]
      rfl
    refine pure_ (i := 2) (N := some 12) (v := ?_) (a' := ?_) #[true, false, true, false, false, false, false, false, false] rfl rfl (any_of HT_.out (by kernel_rfl)) (fun _ _ _ h => h) (Or.inl ⟨by rfl, ?_⟩) ?_ ?_
    rotate_left
    · intro w'
      go_simp
      with_reducible rfl
    rotate_left
    · simp only [Act.put, List.setIfInBounds_toArray, List.set_cons_zero, List.set_cons_succ, i64_w, i32_w]
      rfl
    refine pure_ (i := 4) (N := some 14) (v := ?_) (a' := ?_) #[true, false, true, false, true, false, false, false, false] rfl rfl (any_of HT_.out (by kernel_rfl)) (fun _ _ _ h => h) (Or.inl ⟨by rfl, ?_⟩) ?_ ?_
    rotate_left
    · intro w'
      go_simp
      with_reducible rfl
    rotate_left
    · simp only [Act.put, List.setIfInBounds_toArray, List.set_cons_zero, List.set_cons_succ, i64_w, i32_w]
      rfl
    refine take_ (i := 1) (N := some 11) (v := ?_) (a' := ?_) #[true, true, true, false, true, false, false, false, false] rfl rfl (take_ofW HT_.out HW_.out (by kernel_rfl)) (fun _ _ _ h => h) (Or.inl ⟨by rfl, ?_⟩) hHeld ?_ ?_
    rotate_left
    · rintro w' ⟨s0, s1, s2, s3⟩
      go_simp
      with_reducible rfl
    rotate_left
    · simp only [Act.put, List.setIfInBounds_toArray, List.set_cons_zero, List.set_cons_succ, i64_w, i32_w]
      rfl
    refine take_ (i := 3) (N := some 13) (v := ?_) (a' := ?_) #[true, true, true, true, true, false, false, false, false] rfl rfl (take_ofW HT_.out HW_.out (by kernel_rfl)) (fun _ _ _ h => h) (Or.inl ⟨by rfl, ?_⟩) hHeld ?_ ?_
    rotate_left
    · rintro w' ⟨s0, s1, s2, s3⟩
      go_simp
      with_reducible rfl
    rotate_left
    · simp only [Act.put, List.setIfInBounds_toArray, List.set_cons_zero, List.set_cons_succ, i64_w, i32_w]
      rfl
    refine take_ (i := 5) (N := some 15) (v := ?_) (a' := ?_) #[true, true, true, true, true, true, false, false, false] rfl rfl (take_ofW HT_.out HW_.out (by kernel_rfl)) (fun _ _ _ h => h) (Or.inl ⟨by rfl, ?_⟩) hHeld ?_ ?_
    rotate_left
    · rintro w' ⟨s0, s1, s2, s3⟩
      go_simp
      with_reducible rfl
    rotate_left
    · simp only [Act.put, List.setIfInBounds_toArray, List.set_cons_zero, List.set_cons_succ, i64_w, i32_w]
      rfl
    refine one_ (i := 6) (N := some 16) #[true, true, true, true, true, true, true, false, false] rfl rfl (one_of HT_.out (by kernel_rfl)) (by decide) (fun K hK => ?_)
    refine goes_ Tryz.func44 (by kernel_rfl) rfl #[.slice A0_1 l0_1.length c0_1, .slice A1_1 l1_1.length c1_1] (by rfl) rfl rfl (by (try simp only [List.map_toArray, List.map_cons, List.map_nil]); first | done | rfl | (simp only [List.length_drop, List.length_take]; rfl)) ?_
    with_reducible refine (spec_sum.calls k _ _ l0_1 _ _ l1_1 t293 _ ?side1 ?side2 ?side3 ?side4 A4.out).mono ?_
    (case side1 => repeat (first | exact (Kd.C_below HR0_1.out HB.out) | (with_reducible refine Kd.C_alloc ?_ _) | (with_reducible refine Kd.C_drewN ?_ _) | (with_reducible refine Kd.C_drew ?_)))
    (case side2 => exact HC0_1.out)
    (case side3 => repeat (first | exact (Kd.C_below HR1_1.out HB.out) | (with_reducible refine Kd.C_alloc ?_ _) | (with_reducible refine Kd.C_drewN ?_ _) | (with_reducible refine Kd.C_drew ?_)))
    (case side4 => exact HC1_1.out)
    rintro e w15 ⟨v294, rfl, ho0, hb⟩
    refine ⟨_, rfl, ?_⟩
    have n0_ := Aside0.mk (Kd.R_lower ho0 (below_size (by repeat (first | (with_reducible first | exact HB.out | apply below_alloc | apply pw_below_drewN | apply below_drew1 | refine below_set ?_ GE290.out | refine below_set ?_ GE291.out | refine below_set ?_ GE292.out) | exact HB.out))))
    have n1_ := Aside0.mk (blk_below (g := gb290) (o := .cells #[.bool a0_0, .slice A0_1 l0_1.length c0_1] 37 (0, 0)) (by (with_reducible repeat (first | refine blk_drewN ?_ _ | refine blk_drew ?_ | refine blk_alloc ?_ _)); exact BK290.out) hb)
    have n2_ := Aside0.mk (blk_below (g := gb291) (o := .cells #[.bool a1_0, .slice A1_1 l1_1.length c1_1] 37 (0, 0)) (by (with_reducible repeat (first | refine blk_drewN ?_ _ | refine blk_drew ?_ | refine blk_alloc ?_ _)); exact BK291.out) hb)
    have n3_ := Aside0.mk (blk_below (g := gb292) (o := .cells #[.bool false, .slice none 0 0] 37 (0, 0)) (by (with_reducible repeat (first | refine blk_drewN ?_ _ | refine blk_drew ?_ | refine blk_alloc ?_ _)); exact BK292.out) hb)
    have n4_ := Aside0.mk (below_step (by repeat (first | (with_reducible first | exact HB.out | apply below_alloc | apply pw_below_drewN | apply below_drew1 | refine below_set ?_ GE290.out | refine below_set ?_ GE291.out | refine below_set ?_ GE292.out) | exact HB.out)) hb)
    clear BK290
    clear BK291
    clear BK292
    clear HB
    have HO295 := n0_
    have BK290 := n1_
    have BK291 := n2_
    have BK292 := n3_
    have HB := n4_
    clear n0_ n1_ n2_ n3_ n4_
    (try clear hb)
    (try clear hb2)
    (try clear hk)
    (try clear hi)
    (try clear ho0)
    obtain ⟨Ao16, co16, eo16⟩ := Kd.R_slice HO295.out
    (first | subst eo16 | (injection eo16 with f1_ f2_ f3_; have f4_ := f1_.symm; have f5_ := f3_.symm; clear f1_ f2_ f3_; subst f4_; subst f5_))
    refine hK.out _ _ ⟨(blk_cell BK290.out 0).trans rfl, (blk_cell BK290.out 1).trans rfl, (blk_cell BK291.out 0).trans rfl, (blk_cell BK291.out 1).trans rfl⟩ (fun hHeld => ?_)
    clear hK K
    refine norm_ (a' := ?_) ?_ ?_
    rotate_left
    · show Act.put _ (some 16) _ = _
      simp only [Act.put, List.setIfInBounds_toArray, List.set_cons_zero, List.set_cons_succ, i64_w, i32_w]
      rfl
    refine one_ (i := 7) (N := some 17) #[true, true, true, true, true, true, true, true, false] rfl rfl (one_of HT_.out (by kernel_rfl)) (by decide) (fun K hK => ?_)
    refine goes_ Tryz.func20 (by kernel_rfl) rfl #[.bool a0_0, .slice Ao16 t293.length co16] (by rfl) rfl rfl (by (try simp only [List.map_toArray, List.map_cons, List.map_nil]); first | done | rfl | (simp only [List.length_drop, List.length_take]; rfl)) ?_
    with_reducible refine (spec_Of.calls k a0_0 _ _ t293 t296 t297 _ ?side1 ?side2 A5.out).mono ?_
    (case side1 => repeat (first | exact (Kd.R_reads' HO295.out).2.2 | (with_reducible refine Kd.C_alloc ?_ _) | (with_reducible refine Kd.C_drewN ?_ _) | (with_reducible refine Kd.C_drew ?_)))
    (case side2 => exact (Kd.R_reads' HO295.out).2.1)
    rintro e w17 ⟨v298, rfl, ho0, hb⟩
    refine ⟨_, rfl, ?_⟩
    have n0_ := Aside0.mk (Kd.R_elder' (by (with_reducible repeat (first | apply Kd.R_alloc | apply Kd.R_drewN | apply Kd.R_drew)); exact HO295.out) (Kd.R_base ho0) hb)
    have n1_ := Aside0.mk (Kd.R_lower (Kd.R_new' ho0 (Kd.R_lt (by (with_reducible repeat (first | apply Kd.R_alloc | apply Kd.R_drewN | apply Kd.R_drew)); exact HO295.out))) (below_size (by repeat (first | (with_reducible first | exact HB.out | apply below_alloc | apply pw_below_drewN | apply below_drew1 | refine below_set ?_ GE290.out | refine below_set ?_ GE291.out | refine below_set ?_ GE292.out) | exact HB.out))))
    have n2_ := Aside0.mk (blk_below (g := gb290) (o := .cells #[.bool a0_0, .slice A0_1 l0_1.length c0_1] 37 (0, 0)) (by (with_reducible repeat (first | refine blk_drewN ?_ _ | refine blk_drew ?_ | refine blk_alloc ?_ _)); exact BK290.out) hb)
    have n3_ := Aside0.mk (blk_below (g := gb291) (o := .cells #[.bool a1_0, .slice A1_1 l1_1.length c1_1] 37 (0, 0)) (by (with_reducible repeat (first | refine blk_drewN ?_ _ | refine blk_drew ?_ | refine blk_alloc ?_ _)); exact BK291.out) hb)
    have n4_ := Aside0.mk (blk_below (g := gb292) (o := .cells #[.bool false, .slice none 0 0] 37 (0, 0)) (by (with_reducible repeat (first | refine blk_drewN ?_ _ | refine blk_drew ?_ | refine blk_alloc ?_ _)); exact BK292.out) hb)
    have n5_ := Aside0.mk (below_step (by repeat (first | (with_reducible first | exact HB.out | apply below_alloc | apply pw_below_drewN | apply below_drew1 | refine below_set ?_ GE290.out | refine below_set ?_ GE291.out | refine below_set ?_ GE292.out) | exact HB.out)) hb)
    clear HO295
    clear BK290
    clear BK291
    clear BK292
    clear HB
    have HO295 := n0_
    have HO299 := n1_
    have BK290 := n2_
    have BK291 := n3_
    have BK292 := n4_
    have HB := n5_
    clear n0_ n1_ n2_ n3_ n4_ n5_
    (try clear hb)
    (try clear hb2)
    (try clear hk)
    (try clear hi)
    (try clear ho0)
    obtain ⟨Ao19, co19, eo19⟩ := Kd.R_slice HO299.out
    (first | subst eo19 | (injection eo19 with f1_ f2_ f3_; have f4_ := f1_.symm; have f5_ := f3_.symm; clear f1_ f2_ f3_; subst f4_; subst f5_))
    refine hK.out _ _ ⟨(blk_cell BK290.out 0).trans rfl, (blk_cell BK290.out 1).trans rfl, (blk_cell BK291.out 0).trans rfl, (blk_cell BK291.out 1).trans rfl⟩ (fun hHeld => ?_)
    clear hK K
    refine norm_ (a' := ?_) ?_ ?_
    rotate_left
    · show Act.put _ (some 17) _ = _
      simp only [Act.put, List.setIfInBounds_toArray, List.set_cons_zero, List.set_cons_succ, i64_w, i32_w]
      rfl
    refine one_ (i := 8) (N := none) #[true, true, true, true, true, true, true, true, true] rfl rfl (one_of HT_.out (by kernel_rfl)) (by decide) (fun K hK => ?_)
    have hs18 : w17.cell? ⟨gb292, 0, none⟩ = some (.bool false) := (blk_cell BK292.out 0).trans rfl
    have hfs18 := blk_frozen BK292.out 0
    have hns18_0 := NB290_292.out
    have hns18_1 := NB291_292.out
    have hms18_0 := NB292_290.out
    have hms18_1 := NB292_291.out
    have hs20 : w17.cell? ⟨gb292, 1, none⟩ = some (.slice none 0 0) := (blk_cell BK292.out 1).trans rfl
    have hfs20 := blk_frozen BK292.out 1
    have hns20_0 := NB290_292.out
    have hns20_1 := NB291_292.out
    have hms20_0 := NB292_290.out
    have hms20_1 := NB292_291.out
    refine skip_ (w1 := ?_) (by rfl) rfl ?_ ?_
    rotate_left
    · go_simp
      rfl
    refine hK.out _ _ ⟨((cell_far (p := ⟨gb292, _, none⟩) NB290_292.out _).trans (((cell_far (p := ⟨gb292, _, none⟩) NB290_292.out _).trans (hHeld.1)))), ((cell_far (p := ⟨gb292, _, none⟩) NB290_292.out _).trans (((cell_far (p := ⟨gb292, _, none⟩) NB290_292.out _).trans (hHeld.2.1)))), ((cell_far (p := ⟨gb292, _, none⟩) NB291_292.out _).trans (((cell_far (p := ⟨gb292, _, none⟩) NB291_292.out _).trans (hHeld.2.2.1)))), ((cell_far (p := ⟨gb292, _, none⟩) NB291_292.out _).trans (((cell_far (p := ⟨gb292, _, none⟩) NB291_292.out _).trans (hHeld.2.2.2))))⟩ (fun hHeld => ?_)
    clear hK K
    refine done_ (done_of HT_.out (by kernel_rfl)) ?_
    try go_wp2
    refine bodyPost_ret (results_cell_row rfl _ _ gb292 37 #[.bool t296, .slice Ao19 t297.length co19] (0, 0) _ rfl (by (with_reducible repeat (first | refine blk_drewN ?_ _ | refine blk_drew ?_ | refine blk_alloc ?_ _)); refine blk_put (cs := #[.bool t296, .slice none 0 0]) ?_ 1 _ rfl; (with_reducible repeat (first | refine blk_drewN ?_ _ | refine blk_drew ?_ | refine blk_alloc ?_ _)); refine blk_put (cs := #[.bool false, .slice none 0 0]) ?_ 0 _ rfl; (with_reducible repeat (first | refine blk_drewN ?_ _ | refine blk_drew ?_ | refine blk_alloc ?_ _)); exact BK292.out) Tryz.underlying37 rfl (by kernel_rfl)) rfl ?_
    exact ⟨_, by first | rfl | (simp [errW_none, errW_some] <;> rfl) | (simp [*, errW_none, errW_some] <;> rfl), by (with_reducible repeat (first | apply Kd.R_alloc | apply Kd.R_drewN | apply Kd.R_drew)); exact Kd.R_mono (Kd.R_far (p := ⟨gb292, 1, none⟩) (Kd.R_far (p := ⟨gb292, 0, none⟩) (Kd.R_types HO299.out BK292.out (by decide)) (fun _ hk => hk.2) (.bool t296)) (fun _ hk => hk.2) (.slice Ao19 t297.length co19)) (fun _ hk => trivial), by repeat (first | (with_reducible first | exact HB.out | apply below_alloc | apply pw_below_drewN | apply below_drew1 | refine below_set ?_ GE290.out | refine below_set ?_ GE291.out | refine below_set ?_ GE292.out) | exact HB.out)⟩
  · rw [if_neg c3] at H
    have c3b0 : (a0_0 == a1_0) = false := by simpa using c3
    (try (have c3b1 : decide (a0_0 = a1_0) = false := by simpa using c3))
    (try (have c3b2 : (a0_0 == a1_0) = false := by simpa using c3))
    (try (have c3b3 : ¬ (a0_0 = a1_0) := by simpa using c3))
    clear c3
    replace H := Option.bind_eq_some_iff.mp H
    obtain ⟨t300, A210, H⟩ := H
    replace H : (if t300 ≥ 0 then ((spec_less.f k l0_1 l1_1).bind fun t301 => ((spec_Of.f k a0_0 t301).bind fun bt304 => (some (bt304.1, bt304.2)))) else ((spec_less.f k l1_1 l0_1).bind fun t308 => ((spec_Of.f k a1_0 t308).bind fun bt311 => (some (bt311.1, bt311.2))))) = some (r1, r2) := H
    have A21 := Aside0.mk A210
    clear A210
    by_cases c22 : t300 ≥ 0
    · rw [if_pos c22] at H
      have c22b0 : decide (0 ≤ t300) = true := decide_eq_true c22
      clear c22
      replace H := Option.bind_eq_some_iff.mp H
      obtain ⟨t301, A230, H⟩ := H
      replace H : ((spec_Of.f k a0_0 t301).bind fun bt304 => (some (bt304.1, bt304.2))) = some (r1, r2) := H
      have A23 := Aside0.mk A230
      clear A230
      replace H := Option.bind_eq_some_iff.mp H
      obtain ⟨⟨t304, t305⟩, A240, H⟩ := H
      replace H : (some (t304, t305)) = some (r1, r2) := H
      have A24 := Aside0.mk A240
      clear A240
      simp only [Option.some.injEq, Prod.mk.injEq] at H
      obtain ⟨rfl, rfl⟩ := H
      go_enter Tryz.func37, Tryz.ntmps37
      try go_wp2_with (first | ((with_reducible refine gate_dst (N := 2) rfl ?_); refine box_event ?hg (N := 2) ?hd (cs := #[.bool a0_0, .slice A0_1 l0_1.length c0_1]) (t := 37) ?hr ?_; (case hd => rfl); (case hg => rfl); (case hr => first | (go_simp; done) | (go_simp; rfl)); intro gb290 hg w25 hbox hb; have n0_ := Aside0.mk (below_step (by repeat (first | (with_reducible first | exact HB.out | apply below_alloc | apply pw_below_drewN | apply below_drew1) | exact HB.out)) hb); have n1_ := Aside0.mk (hbox); have n2_ := Aside0.mk ((by rw [hg]; exact (below_size (by repeat (first | (with_reducible first | exact HB.out | apply below_alloc | apply pw_below_drewN | apply below_drew1) | exact HB.out))) : w.heap.size ≤ gb290)); have n3_ := Aside0.mk ((by rw [hg]; exact (below_size (by repeat (first | (with_reducible first | exact HB.out | apply below_alloc | apply pw_below_drewN | apply below_drew1) | exact HB.out))) : w.heap.size ≤ gb290)); clear HB; have HB := n0_; have BK290 := n1_; have GW290 := n2_; have GE290 := n3_; clear n0_ n1_ n2_ n3_; clear hb hbox hg) | ((with_reducible refine gate_dst (N := 3) rfl ?_); refine box_event ?hg (N := 3) ?hd (cs := #[.bool a1_0, .slice A1_1 l1_1.length c1_1]) (t := 37) ?hr ?_; (case hd => rfl); (case hg => rfl); (case hr => first | (go_simp; done) | (go_simp; rfl)); intro gb291 hg w26 hbox hb; have n0_ := Aside0.mk (blk_below (g := gb290) (o := .cells #[.bool a0_0, .slice A0_1 l0_1.length c0_1] 37 (0, 0)) (by (with_reducible repeat (first | refine blk_drewN ?_ _ | refine blk_drew ?_ | refine blk_alloc ?_ _)); exact BK290.out) hb); have n1_ := Aside0.mk (below_step (by repeat (first | (with_reducible first | exact HB.out | apply below_alloc | apply pw_below_drewN | apply below_drew1 | refine below_set ?_ GE290.out) | exact HB.out)) hb); have n2_ := Aside0.mk (hbox); have n3_ := Aside0.mk ((by rw [hg]; exact (below_size (by repeat (first | (with_reducible first | exact HB.out | apply below_alloc | apply pw_below_drewN | apply below_drew1 | refine below_set ?_ GE290.out) | exact HB.out))) : w.heap.size ≤ gb291)); have n4_ := Aside0.mk ((by rw [hg]; exact (below_size (by repeat (first | (with_reducible first | exact HB.out | apply below_alloc | apply pw_below_drewN | apply below_drew1 | refine below_set ?_ GE290.out) | exact HB.out))) : w.heap.size ≤ gb291)); have n5_ := Aside0.mk ((by rw [hg]; exact Nat.ne_of_lt (blk_lt (g := gb290) (o := .cells #[.bool a0_0, .slice A0_1 l0_1.length c0_1] 37 (0, 0)) (by (with_reducible repeat (first | refine blk_drewN ?_ _ | refine blk_drew ?_ | refine blk_alloc ?_ _)); exact BK290.out)) : gb290 ≠ gb291)); have n6_ := Aside0.mk ((by rw [hg]; exact Nat.ne_of_gt (blk_lt (g := gb290) (o := .cells #[.bool a0_0, .slice A0_1 l0_1.length c0_1] 37 (0, 0)) (by (with_reducible repeat (first | refine blk_drewN ?_ _ | refine blk_drew ?_ | refine blk_alloc ?_ _)); exact BK290.out)) : gb291 ≠ gb290)); clear BK290; clear HB; have BK290 := n0_; have HB := n1_; have BK291 := n2_; have GW291 := n3_; have GE291 := n4_; have NB290_291 := n5_; have NB291_290 := n6_; clear n0_ n1_ n2_ n3_ n4_ n5_ n6_; clear hb hbox hg) | ((with_reducible refine gate_dst (N := 4) rfl ?_); refine box_event ?hg (N := 4) ?hd (cs := #[.bool false, .slice none 0 0]) (t := 37) ?hr ?_; (case hd => rfl); (case hg => rfl); (case hr => first | (go_simp; done) | (go_simp; rfl)); intro gb292 hg w27 hbox hb; have n0_ := Aside0.mk (blk_below (g := gb290) (o := .cells #[.bool a0_0, .slice A0_1 l0_1.length c0_1] 37 (0, 0)) (by (with_reducible repeat (first | refine blk_drewN ?_ _ | refine blk_drew ?_ | refine blk_alloc ?_ _)); exact BK290.out) hb); have n1_ := Aside0.mk (blk_below (g := gb291) (o := .cells #[.bool a1_0, .slice A1_1 l1_1.length c1_1] 37 (0, 0)) (by (with_reducible repeat (first | refine blk_drewN ?_ _ | refine blk_drew ?_ | refine blk_alloc ?_ _)); exact BK291.out) hb); have n2_ := Aside0.mk (below_step (by repeat (first | (with_reducible first | exact HB.out | apply below_alloc | apply pw_below_drewN | apply below_drew1 | refine below_set ?_ GE290.out | refine below_set ?_ GE291.out) | exact HB.out)) hb); have n3_ := Aside0.mk (hbox); have n4_ := Aside0.mk ((by rw [hg]; exact (below_size (by repeat (first | (with_reducible first | exact HB.out | apply below_alloc | apply pw_below_drewN | apply below_drew1 | refine below_set ?_ GE290.out | refine below_set ?_ GE291.out) | exact HB.out))) : w.heap.size ≤ gb292)); have n5_ := Aside0.mk ((by rw [hg]; exact (below_size (by repeat (first | (with_reducible first | exact HB.out | apply below_alloc | apply pw_below_drewN | apply below_drew1 | refine below_set ?_ GE290.out | refine below_set ?_ GE291.out) | exact HB.out))) : w.heap.size ≤ gb292)); have n6_ := Aside0.mk ((by rw [hg]; exact Nat.ne_of_lt (blk_lt (g := gb290) (o := .cells #[.bool a0_0, .slice A0_1 l0_1.length c0_1] 37 (0, 0)) (by (with_reducible repeat (first | refine blk_drewN ?_ _ | refine blk_drew ?_ | refine blk_alloc ?_ _)); exact BK290.out)) : gb290 ≠ gb292)); have n7_ := Aside0.mk ((by rw [hg]; exact Nat.ne_of_gt (blk_lt (g := gb290) (o := .cells #[.bool a0_0, .slice A0_1 l0_1.length c0_1] 37 (0, 0)) (by (with_reducible repeat (first | refine blk_drewN ?_ _ | refine blk_drew ?_ | refine blk_alloc ?_ _)); exact BK290.out)) : gb292 ≠ gb290)); have n8_ := Aside0.mk ((by rw [hg]; exact Nat.ne_of_lt (blk_lt (g := gb291) (o := .cells #[.bool a1_0, .slice A1_1 l1_1.length c1_1] 37 (0, 0)) (by (with_reducible repeat (first | refine blk_drewN ?_ _ | refine blk_drew ?_ | refine blk_alloc ?_ _)); exact BK291.out)) : gb291 ≠ gb292)); have n9_ := Aside0.mk ((by rw [hg]; exact Nat.ne_of_gt (blk_lt (g := gb291) (o := .cells #[.bool a1_0, .slice A1_1 l1_1.length c1_1] 37 (0, 0)) (by (with_reducible repeat (first | refine blk_drewN ?_ _ | refine blk_drew ?_ | refine blk_alloc ?_ _)); exact BK291.out)) : gb292 ≠ gb291)); clear BK290; clear BK291; clear HB; have BK290 := n0_; have BK291 := n1_; have HB := n2_; have BK292 := n3_; have GW292 := n4_; have GE292 := n5_; have NB290_292 := n6_; have NB292_290 := n7_; have NB291_292 := n8_; have NB292_291 := n9_; clear n0_ n1_ n2_ n3_ n4_ n5_ n6_ n7_ n8_ n9_; clear hb hbox hg; have hnb28 := NB290_291.out; have hnc28 := NB291_290.out; have hnb29 := NB290_292.out; have hnc29 := NB292_290.out; have hcz30_0 : w27.cell? ⟨gb290, 0, none⟩ = some (.bool a0_0) := (blk_cell BK290.out 0).trans rfl; have hcz30_1 : w27.cell? ⟨gb290, 1, none⟩ = some (.slice A0_1 l0_1.length c0_1) := (blk_cell BK290.out 1).trans rfl; have hfz30_0 := blk_frozen BK290.out 0; have hfz30_1 := blk_frozen BK290.out 1; have hnb31 := NB291_292.out; have hnc31 := NB292_291.out; have hcz32_0 : w27.cell? ⟨gb291, 0, none⟩ = some (.bool a1_0) := (blk_cell BK291.out 0).trans rfl; have hcz32_1 : w27.cell? ⟨gb291, 1, none⟩ = some (.slice A1_1 l1_1.length c1_1) := (blk_cell BK291.out 1).trans rfl; have hfz32_0 := blk_frozen BK291.out 0; have hfz32_1 := blk_frozen BK291.out 1) | ((with_reducible refine gate_callee (f := 46) rfl ?_); refine goesL_ (some 22) rfl rfl Tryz.func46 (by kernel_rfl) rfl #[.slice A0_1 l0_1.length c0_1, .slice A1_1 l1_1.length c1_1] rfl (by (try simp only [List.map_toArray, List.map_cons, List.map_nil]); first | done | rfl | (simp only [List.length_drop, List.length_take]; rfl)) ?_; (with_reducible refine (spec_order.calls k _ _ l0_1 _ _ l1_1 t300 _ ?side1 ?side2 ?side3 ?side4 A21.out).mono ?_); (case side1 => repeat (first | exact (Kd.C_below HR0_1.out HB.out) | (with_reducible refine Kd.C_alloc ?_ _) | (with_reducible refine Kd.C_drewN ?_ _) | (with_reducible refine Kd.C_drew ?_))); (case side2 => exact HC0_1.out); (case side3 => repeat (first | exact (Kd.C_below HR1_1.out HB.out) | (with_reducible refine Kd.C_alloc ?_ _) | (with_reducible refine Kd.C_drewN ?_ _) | (with_reducible refine Kd.C_drew ?_))); (case side4 => exact HC1_1.out); rintro e w' ⟨rfl, ⟨nd, rfl⟩⟩; refine ⟨_, rfl, ?_⟩; (try (rw [drewN_self w27]; generalize hq_ : World.drewN w27 _ = w27; have n0_ : Aside0 (w27.heap[gb290]? = some (.cells #[.bool a0_0, .slice A0_1 l0_1.length c0_1] 37 (0, 0))) := ⟨by rw [← hq_]; exact (by (with_reducible repeat (first | refine blk_drewN ?_ _ | refine blk_drew ?_ | refine blk_alloc ?_ _)); exact BK290.out)⟩; have n1_ : Aside0 (w27.heap[gb291]? = some (.cells #[.bool a1_0, .slice A1_1 l1_1.length c1_1] 37 (0, 0))) := ⟨by rw [← hq_]; exact (by (with_reducible repeat (first | refine blk_drewN ?_ _ | refine blk_drew ?_ | refine blk_alloc ?_ _)); exact BK291.out)⟩; have n2_ : Aside0 (w27.heap[gb292]? = some (.cells #[.bool false, .slice none 0 0] 37 (0, 0))) := ⟨by rw [← hq_]; exact (by (with_reducible repeat (first | refine blk_drewN ?_ _ | refine blk_drew ?_ | refine blk_alloc ?_ _)); exact BK292.out)⟩; have n3_ : Aside0 (Below w.heap.size w w27) := ⟨by rw [← hq_]; exact (by repeat (first | (with_reducible first | exact HB.out | apply below_alloc | apply pw_below_drewN | apply below_drew1 | refine below_set ?_ GE290.out | refine below_set ?_ GE291.out | refine below_set ?_ GE292.out) | exact HB.out))⟩; clear BK290 BK291 BK292 HB hq_; have BK290 := n0_; have BK291 := n1_; have BK292 := n2_; have HB := n3_; clear n0_ n1_ n2_ n3_))))
      have n0_ := Aside0.mk (blk_drew BK290.out)
      have n1_ := Aside0.mk (blk_drew BK291.out)
      have n2_ := Aside0.mk (blk_drew BK292.out)
      have n3_ := Aside0.mk (below_drew1 HB.out)
      clear BK290
      clear BK291
      clear BK292
      clear HB
      have BK290 := n0_
      have BK291 := n1_
      have BK292 := n2_
      have HB := n3_
      clear n0_ n1_ n2_ n3_
      refine start_ (n := 9) (S := fun w' => w'.cell? ⟨gb290, 0, none⟩ = some (.bool a0_0) ∧ w'.cell? ⟨gb290, 1, none⟩ = some (.slice A0_1 l0_1.length c0_1) ∧ w'.cell? ⟨gb291, 0, none⟩ = some (.bool a1_0) ∧ w'.cell? ⟨gb291, 1, none⟩ = some (.slice A1_1 l1_1.length c1_1)) (ds := []) #[false, false, false, false, false, false, false, false, false] (by kernel_rfl) rfl rfl ⟨(blk_cell BK290.out 0).trans rfl, (blk_cell BK290.out 1).trans rfl, (blk_cell BK291.out 0).trans rfl, (blk_cell BK291.out 1).trans rfl⟩ (fun hHeld => ?_); refine with_tabW spec_Int_Add.tab4 spec_Int_Add.bits4 (fun HT_ HW_ => ?_)
      generalize w27.drew = w33 at BK290 BK291 BK292 HB hHeld ⊢
      refine pure_ (i := 0) (N := some 24) (v := ?_) (a' := ?_) #[true, false, false, false, false, false, false, false, false] rfl rfl (any_of HT_.out (by kernel_rfl)) (fun _ _ _ h => h) (Or.inl ⟨by rfl, ?_⟩) ?_ ?_
      rotate_left
      · intro w'
        go_simp
        with_reducible rfl
      rotate_left
      · simp only [Act.put, List.setIfInBounds_toArray, List.set_cons_zero, List.set_cons_succ, i64_w, i32_w]
        rfl
      refine pure_ (i := 2) (N := some 26) (v := ?_) (a' := ?_) #[true, false, true, false, false, false, false, false, false] rfl rfl (any_of HT_.out (by kernel_rfl)) (fun _ _ _ h => h) (Or.inl ⟨by rfl, ?_⟩) ?_ ?_
      rotate_left
      · intro w'
        go_simp
        with_reducible rfl
      rotate_left
      · simp only [Act.put, List.setIfInBounds_toArray, List.set_cons_zero, List.set_cons_succ, i64_w, i32_w]
        rfl
      refine pure_ (i := 4) (N := some 28) (v := ?_) (a' := ?_) #[true, false, true, false, true, false, false, false, false] rfl rfl (any_of HT_.out (by kernel_rfl)) (fun _ _ _ h => h) (Or.inl ⟨by rfl, ?_⟩) ?_ ?_
      rotate_left
      · intro w'
        go_simp
        with_reducible rfl
      rotate_left
      · simp only [Act.put, List.setIfInBounds_toArray, List.set_cons_zero, List.set_cons_succ, i64_w, i32_w]
        rfl
      refine take_ (i := 1) (N := some 25) (v := ?_) (a' := ?_) #[true, true, true, false, true, false, false, false, false] rfl rfl (take_ofW HT_.out HW_.out (by kernel_rfl)) (fun _ _ _ h => h) (Or.inl ⟨by rfl, ?_⟩) hHeld ?_ ?_
      rotate_left
      · rintro w' ⟨s0, s1, s2, s3⟩
        go_simp
        with_reducible rfl
      rotate_left
      · simp only [Act.put, List.setIfInBounds_toArray, List.set_cons_zero, List.set_cons_succ, i64_w, i32_w]
        rfl
      refine take_ (i := 3) (N := some 27) (v := ?_) (a' := ?_) #[true, true, true, true, true, false, false, false, false] rfl rfl (take_ofW HT_.out HW_.out (by kernel_rfl)) (fun _ _ _ h => h) (Or.inl ⟨by rfl, ?_⟩) hHeld ?_ ?_
      rotate_left
      · rintro w' ⟨s0, s1, s2, s3⟩
        go_simp
        with_reducible rfl
      rotate_left
      · simp only [Act.put, List.setIfInBounds_toArray, List.set_cons_zero, List.set_cons_succ, i64_w, i32_w]
        rfl
      refine take_ (i := 5) (N := some 29) (v := ?_) (a' := ?_) #[true, true, true, true, true, true, false, false, false] rfl rfl (take_ofW HT_.out HW_.out (by kernel_rfl)) (fun _ _ _ h => h) (Or.inl ⟨by rfl, ?_⟩) hHeld ?_ ?_
      rotate_left
      · rintro w' ⟨s0, s1, s2, s3⟩
        go_simp
        with_reducible rfl
      rotate_left
      · simp only [Act.put, List.setIfInBounds_toArray, List.set_cons_zero, List.set_cons_succ, i64_w, i32_w]
        rfl
      refine one_ (i := 6) (N := some 30) #[true, true, true, true, true, true, true, false, false] rfl rfl (one_of HT_.out (by kernel_rfl)) (by decide) (fun K hK => ?_)
      refine goes_ Tryz.func45 (by kernel_rfl) rfl #[.slice A0_1 l0_1.length c0_1, .slice A1_1 l1_1.length c1_1] (by rfl) rfl rfl (by (try simp only [List.map_toArray, List.map_cons, List.map_nil]); first | done | rfl | (simp only [List.length_drop, List.length_take]; rfl)) ?_
      with_reducible refine (spec_less.calls k _ _ l0_1 _ _ l1_1 t301 _ ?side1 ?side2 ?side3 ?side4 A23.out).mono ?_
      (case side1 => repeat (first | exact (Kd.C_below HR0_1.out HB.out) | (with_reducible refine Kd.C_alloc ?_ _) | (with_reducible refine Kd.C_drewN ?_ _) | (with_reducible refine Kd.C_drew ?_)))
      (case side2 => exact HC0_1.out)
      (case side3 => repeat (first | exact (Kd.C_below HR1_1.out HB.out) | (with_reducible refine Kd.C_alloc ?_ _) | (with_reducible refine Kd.C_drewN ?_ _) | (with_reducible refine Kd.C_drew ?_)))
      (case side4 => exact HC1_1.out)
      rintro e w34 ⟨v302, rfl, ho0, hb⟩
      refine ⟨_, rfl, ?_⟩
      have n0_ := Aside0.mk (Kd.R_lower ho0 (below_size (by repeat (first | (with_reducible first | exact HB.out | apply below_alloc | apply pw_below_drewN | apply below_drew1 | refine below_set ?_ GE290.out | refine below_set ?_ GE291.out | refine below_set ?_ GE292.out) | exact HB.out))))
      have n1_ := Aside0.mk (blk_below (g := gb290) (o := .cells #[.bool a0_0, .slice A0_1 l0_1.length c0_1] 37 (0, 0)) (by (with_reducible repeat (first | refine blk_drewN ?_ _ | refine blk_drew ?_ | refine blk_alloc ?_ _)); exact BK290.out) hb)
      have n2_ := Aside0.mk (blk_below (g := gb291) (o := .cells #[.bool a1_0, .slice A1_1 l1_1.length c1_1] 37 (0, 0)) (by (with_reducible repeat (first | refine blk_drewN ?_ _ | refine blk_drew ?_ | refine blk_alloc ?_ _)); exact BK291.out) hb)
      have n3_ := Aside0.mk (blk_below (g := gb292) (o := .cells #[.bool false, .slice none 0 0] 37 (0, 0)) (by (with_reducible repeat (first | refine blk_drewN ?_ _ | refine blk_drew ?_ | refine blk_alloc ?_ _)); exact BK292.out) hb)
      have n4_ := Aside0.mk (below_step (by repeat (first | (with_reducible first | exact HB.out | apply below_alloc | apply pw_below_drewN | apply below_drew1 | refine below_set ?_ GE290.out | refine below_set ?_ GE291.out | refine below_set ?_ GE292.out) | exact HB.out)) hb)
      clear BK290
      clear BK291
      clear BK292
      clear HB
      have HO303 := n0_
      have BK290 := n1_
      have BK291 := n2_
      have BK292 := n3_
      have HB := n4_
      clear n0_ n1_ n2_ n3_ n4_
      (try clear hb)
      (try clear hb2)
      (try clear hk)
      (try clear hi)
      (try clear ho0)
      obtain ⟨Ao35, co35, eo35⟩ := Kd.R_slice HO303.out
      (first | subst eo35 | (injection eo35 with f1_ f2_ f3_; have f4_ := f1_.symm; have f5_ := f3_.symm; clear f1_ f2_ f3_; subst f4_; subst f5_))
      refine hK.out _ _ ⟨(blk_cell BK290.out 0).trans rfl, (blk_cell BK290.out 1).trans rfl, (blk_cell BK291.out 0).trans rfl, (blk_cell BK291.out 1).trans rfl⟩ (fun hHeld => ?_)
      clear hK K
      refine norm_ (a' := ?_) ?_ ?_
      rotate_left
      · show Act.put _ (some 30) _ = _
        simp only [Act.put, List.setIfInBounds_toArray, List.set_cons_zero, List.set_cons_succ, i64_w, i32_w]
        rfl
      refine one_ (i := 7) (N := some 31) #[true, true, true, true, true, true, true, true, false] rfl rfl (one_of HT_.out (by kernel_rfl)) (by decide) (fun K hK => ?_)
      refine goes_ Tryz.func20 (by kernel_rfl) rfl #[.bool a0_0, .slice Ao35 t301.length co35] (by rfl) rfl rfl (by (try simp only [List.map_toArray, List.map_cons, List.map_nil]); first | done | rfl | (simp only [List.length_drop, List.length_take]; rfl)) ?_
      with_reducible refine (spec_Of.calls k a0_0 _ _ t301 t304 t305 _ ?side1 ?side2 A24.out).mono ?_
      (case side1 => repeat (first | exact (Kd.R_reads' HO303.out).2.2 | (with_reducible refine Kd.C_alloc ?_ _) | (with_reducible refine Kd.C_drewN ?_ _) | (with_reducible refine Kd.C_drew ?_)))
      (case side2 => exact (Kd.R_reads' HO303.out).2.1)
      rintro e w36 ⟨v306, rfl, ho0, hb⟩
      refine ⟨_, rfl, ?_⟩
      have n0_ := Aside0.mk (Kd.R_elder' (by (with_reducible repeat (first | apply Kd.R_alloc | apply Kd.R_drewN | apply Kd.R_drew)); exact HO303.out) (Kd.R_base ho0) hb)
      have n1_ := Aside0.mk (Kd.R_lower (Kd.R_new' ho0 (Kd.R_lt (by (with_reducible repeat (first | apply Kd.R_alloc | apply Kd.R_drewN | apply Kd.R_drew)); exact HO303.out))) (below_size (by repeat (first | (with_reducible first | exact HB.out | apply below_alloc | apply pw_below_drewN | apply below_drew1 | refine below_set ?_ GE290.out | refine below_set ?_ GE291.out | refine below_set ?_ GE292.out) | exact HB.out))))
      have n2_ := Aside0.mk (blk_below (g := gb290) (o := .cells #[.bool a0_0, .slice A0_1 l0_1.length c0_1] 37 (0, 0)) (by (with_reducible repeat (first | refine blk_drewN ?_ _ | refine blk_drew ?_ | refine blk_alloc ?_ _)); exact BK290.out) hb)
      have n3_ := Aside0.mk (blk_below (g := gb291) (o := .cells #[.bool a1_0, .slice A1_1 l1_1.length c1_1] 37 (0, 0)) (by (with_reducible repeat (first | refine blk_drewN ?_ _ | refine blk_drew ?_ | refine blk_alloc ?_ _)); exact BK291.out) hb)
      have n4_ := Aside0.mk (blk_below (g := gb292) (o := .cells #[.bool false, .slice none 0 0] 37 (0, 0)) (by (with_reducible repeat (first | refine blk_drewN ?_ _ | refine blk_drew ?_ | refine blk_alloc ?_ _)); exact BK292.out) hb)
      have n5_ := Aside0.mk (below_step (by repeat (first | (with_reducible first | exact HB.out | apply below_alloc | apply pw_below_drewN | apply below_drew1 | refine below_set ?_ GE290.out | refine below_set ?_ GE291.out | refine below_set ?_ GE292.out) | exact HB.out)) hb)
      clear HO303
      clear BK290
      clear BK291
      clear BK292
      clear HB
      have HO303 := n0_
      have HO307 := n1_
      have BK290 := n2_
      have BK291 := n3_
      have BK292 := n4_
      have HB := n5_
      clear n0_ n1_ n2_ n3_ n4_ n5_
      (try clear hb)
      (try clear hb2)
      (try clear hk)
      (try clear hi)
      (try clear ho0)
      obtain ⟨Ao38, co38, eo38⟩ := Kd.R_slice HO307.out
      (first | subst eo38 | (injection eo38 with f1_ f2_ f3_; have f4_ := f1_.symm; have f5_ := f3_.symm; clear f1_ f2_ f3_; subst f4_; subst f5_))
      refine hK.out _ _ ⟨(blk_cell BK290.out 0).trans rfl, (blk_cell BK290.out 1).trans rfl, (blk_cell BK291.out 0).trans rfl, (blk_cell BK291.out 1).trans rfl⟩ (fun hHeld => ?_)
      clear hK K
      refine norm_ (a' := ?_) ?_ ?_
      rotate_left
      · show Act.put _ (some 31) _ = _
        simp only [Act.put, List.setIfInBounds_toArray, List.set_cons_zero, List.set_cons_succ, i64_w, i32_w]
        rfl
      refine one_ (i := 8) (N := none) #[true, true, true, true, true, true, true, true, true] rfl rfl (one_of HT_.out (by kernel_rfl)) (by decide) (fun K hK => ?_)
      have hs37 : w36.cell? ⟨gb292, 0, none⟩ = some (.bool false) := (blk_cell BK292.out 0).trans rfl
      have hfs37 := blk_frozen BK292.out 0
      have hns37_0 := NB290_292.out
      have hns37_1 := NB291_292.out
      have hms37_0 := NB292_290.out
      have hms37_1 := NB292_291.out
      have hs39 : w36.cell? ⟨gb292, 1, none⟩ = some (.slice none 0 0) := (blk_cell BK292.out 1).trans rfl
      have hfs39 := blk_frozen BK292.out 1
      have hns39_0 := NB290_292.out
      have hns39_1 := NB291_292.out
      have hms39_0 := NB292_290.out
      have hms39_1 := NB292_291.out
      refine skip_ (w1 := ?_) (by rfl) rfl ?_ ?_
      rotate_left
      · go_simp
        rfl
      refine hK.out _ _ ⟨((cell_far (p := ⟨gb292, _, none⟩) NB290_292.out _).trans (((cell_far (p := ⟨gb292, _, none⟩) NB290_292.out _).trans (hHeld.1)))), ((cell_far (p := ⟨gb292, _, none⟩) NB290_292.out _).trans (((cell_far (p := ⟨gb292, _, none⟩) NB290_292.out _).trans (hHeld.2.1)))), ((cell_far (p := ⟨gb292, _, none⟩) NB291_292.out _).trans (((cell_far (p := ⟨gb292, _, none⟩) NB291_292.out _).trans (hHeld.2.2.1)))), ((cell_far (p := ⟨gb292, _, none⟩) NB291_292.out _).trans (((cell_far (p := ⟨gb292, _, none⟩) NB291_292.out _).trans (hHeld.2.2.2))))⟩ (fun hHeld => ?_)
      clear hK K
      refine done_ (done_of HT_.out (by kernel_rfl)) ?_
      try go_wp2
      refine bodyPost_ret (results_cell_row rfl _ _ gb292 37 #[.bool t304, .slice Ao38 t305.length co38] (0, 0) _ rfl (by (with_reducible repeat (first | refine blk_drewN ?_ _ | refine blk_drew ?_ | refine blk_alloc ?_ _)); refine blk_put (cs := #[.bool t304, .slice none 0 0]) ?_ 1 _ rfl; (with_reducible repeat (first | refine blk_drewN ?_ _ | refine blk_drew ?_ | refine blk_alloc ?_ _)); refine blk_put (cs := #[.bool false, .slice none 0 0]) ?_ 0 _ rfl; (with_reducible repeat (first | refine blk_drewN ?_ _ | refine blk_drew ?_ | refine blk_alloc ?_ _)); exact BK292.out) Tryz.underlying37 rfl (by kernel_rfl)) rfl ?_
      exact ⟨_, by first | rfl | (simp [errW_none, errW_some] <;> rfl) | (simp [*, errW_none, errW_some] <;> rfl), by (with_reducible repeat (first | apply Kd.R_alloc | apply Kd.R_drewN | apply Kd.R_drew)); exact Kd.R_mono (Kd.R_far (p := ⟨gb292, 1, none⟩) (Kd.R_far (p := ⟨gb292, 0, none⟩) (Kd.R_types HO307.out BK292.out (by decide)) (fun _ hk => hk.2) (.bool t304)) (fun _ hk => hk.2) (.slice Ao38 t305.length co38)) (fun _ hk => trivial), by repeat (first | (with_reducible first | exact HB.out | apply below_alloc | apply pw_below_drewN | apply below_drew1 | refine below_set ?_ GE290.out | refine below_set ?_ GE291.out | refine below_set ?_ GE292.out) | exact HB.out)⟩
    · rw [if_neg c22] at H
      have c22b0 : decide (0 ≤ t300) = false := decide_eq_false c22
      clear c22
      replace H := Option.bind_eq_some_iff.mp H
      obtain ⟨t308, A400, H⟩ := H
      replace H : ((spec_Of.f k a1_0 t308).bind fun bt311 => (some (bt311.1, bt311.2))) = some (r1, r2) := H
      have A40 := Aside0.mk A400
      clear A400
      replace H := Option.bind_eq_some_iff.mp H
      obtain ⟨⟨t311, t312⟩, A410, H⟩ := H
      replace H : (some (t311, t312)) = some (r1, r2) := H
      have A41 := Aside0.mk A410
      clear A410
      simp only [Option.some.injEq, Prod.mk.injEq] at H
      obtain ⟨rfl, rfl⟩ := H
      go_enter Tryz.func37, Tryz.ntmps37
      try go_wp2_with (first | ((with_reducible refine gate_dst (N := 2) rfl ?_); refine box_event ?hg (N := 2) ?hd (cs := #[.bool a0_0, .slice A0_1 l0_1.length c0_1]) (t := 37) ?hr ?_; (case hd => rfl); (case hg => rfl); (case hr => first | (go_simp; done) | (go_simp; rfl)); intro gb290 hg w42 hbox hb; have n0_ := Aside0.mk (below_step (by repeat (first | (with_reducible first | exact HB.out | apply below_alloc | apply pw_below_drewN | apply below_drew1) | exact HB.out)) hb); have n1_ := Aside0.mk (hbox); have n2_ := Aside0.mk ((by rw [hg]; exact (below_size (by repeat (first | (with_reducible first | exact HB.out | apply below_alloc | apply pw_below_drewN | apply below_drew1) | exact HB.out))) : w.heap.size ≤ gb290)); have n3_ := Aside0.mk ((by rw [hg]; exact (below_size (by repeat (first | (with_reducible first | exact HB.out | apply below_alloc | apply pw_below_drewN | apply below_drew1) | exact HB.out))) : w.heap.size ≤ gb290)); clear HB; have HB := n0_; have BK290 := n1_; have GW290 := n2_; have GE290 := n3_; clear n0_ n1_ n2_ n3_; clear hb hbox hg) | ((with_reducible refine gate_dst (N := 3) rfl ?_); refine box_event ?hg (N := 3) ?hd (cs := #[.bool a1_0, .slice A1_1 l1_1.length c1_1]) (t := 37) ?hr ?_; (case hd => rfl); (case hg => rfl); (case hr => first | (go_simp; done) | (go_simp; rfl)); intro gb291 hg w43 hbox hb; have n0_ := Aside0.mk (blk_below (g := gb290) (o := .cells #[.bool a0_0, .slice A0_1 l0_1.length c0_1] 37 (0, 0)) (by (with_reducible repeat (first | refine blk_drewN ?_ _ | refine blk_drew ?_ | refine blk_alloc ?_ _)); exact BK290.out) hb); have n1_ := Aside0.mk (below_step (by repeat (first | (with_reducible first | exact HB.out | apply below_alloc | apply pw_below_drewN | apply below_drew1 | refine below_set ?_ GE290.out) | exact HB.out)) hb); have n2_ := Aside0.mk (hbox); have n3_ := Aside0.mk ((by rw [hg]; exact (below_size (by repeat (first | (with_reducible first | exact HB.out | apply below_alloc | apply pw_below_drewN | apply below_drew1 | refine below_set ?_ GE290.out) | exact HB.out))) : w.heap.size ≤ gb291)); have n4_ := Aside0.mk ((by rw [hg]; exact (below_size (by repeat (first | (with_reducible first | exact HB.out | apply below_alloc | apply pw_below_drewN | apply below_drew1 | refine below_set ?_ GE290.out) | exact HB.out))) : w.heap.size ≤ gb291)); have n5_ := Aside0.mk ((by rw [hg]; exact Nat.ne_of_lt (blk_lt (g := gb290) (o := .cells #[.bool a0_0, .slice A0_1 l0_1.length c0_1] 37 (0, 0)) (by (with_reducible repeat (first | refine blk_drewN ?_ _ | refine blk_drew ?_ | refine blk_alloc ?_ _)); exact BK290.out)) : gb290 ≠ gb291)); have n6_ := Aside0.mk ((by rw [hg]; exact Nat.ne_of_gt (blk_lt (g := gb290) (o := .cells #[.bool a0_0, .slice A0_1 l0_1.length c0_1] 37 (0, 0)) (by (with_reducible repeat (first | refine blk_drewN ?_ _ | refine blk_drew ?_ | refine blk_alloc ?_ _)); exact BK290.out)) : gb291 ≠ gb290)); clear BK290; clear HB; have BK290 := n0_; have HB := n1_; have BK291 := n2_; have GW291 := n3_; have GE291 := n4_; have NB290_291 := n5_; have NB291_290 := n6_; clear n0_ n1_ n2_ n3_ n4_ n5_ n6_; clear hb hbox hg) | ((with_reducible refine gate_dst (N := 4) rfl ?_); refine box_event ?hg (N := 4) ?hd (cs := #[.bool false, .slice none 0 0]) (t := 37) ?hr ?_; (case hd => rfl); (case hg => rfl); (case hr => first | (go_simp; done) | (go_simp; rfl)); intro gb292 hg w44 hbox hb; have n0_ := Aside0.mk (blk_below (g := gb290) (o := .cells #[.bool a0_0, .slice A0_1 l0_1.length c0_1] 37 (0, 0)) (by (with_reducible repeat (first | refine blk_drewN ?_ _ | refine blk_drew ?_ | refine blk_alloc ?_ _)); exact BK290.out) hb); have n1_ := Aside0.mk (blk_below (g := gb291) (o := .cells #[.bool a1_0, .slice A1_1 l1_1.length c1_1] 37 (0, 0)) (by (with_reducible repeat (first | refine blk_drewN ?_ _ | refine blk_drew ?_ | refine blk_alloc ?_ _)); exact BK291.out) hb); have n2_ := Aside0.mk (below_step (by repeat (first | (with_reducible first | exact HB.out | apply below_alloc | apply pw_below_drewN | apply below_drew1 | refine below_set ?_ GE290.out | refine below_set ?_ GE291.out) | exact HB.out)) hb); have n3_ := Aside0.mk (hbox); have n4_ := Aside0.mk ((by rw [hg]; exact (below_size (by repeat (first | (with_reducible first | exact HB.out | apply below_alloc | apply pw_below_drewN | apply below_drew1 | refine below_set ?_ GE290.out | refine below_set ?_ GE291.out) | exact HB.out))) : w.heap.size ≤ gb292)); have n5_ := Aside0.mk ((by rw [hg]; exact (below_size (by repeat (first | (with_reducible first | exact HB.out | apply below_alloc | apply pw_below_drewN | apply below_drew1 | refine below_set ?_ GE290.out | refine below_set ?_ GE291.out) | exact HB.out))) : w.heap.size ≤ gb292)); have n6_ := Aside0.mk ((by rw [hg]; exact Nat.ne_of_lt (blk_lt (g := gb290) (o := .cells #[.bool a0_0, .slice A0_1 l0_1.length c0_1] 37 (0, 0)) (by (with_reducible repeat (first | refine blk_drewN ?_ _ | refine blk_drew ?_ | refine blk_alloc ?_ _)); exact BK290.out)) : gb290 ≠ gb292)); have n7_ := Aside0.mk ((by rw [hg]; exact Nat.ne_of_gt (blk_lt (g := gb290) (o := .cells #[.bool a0_0, .slice A0_1 l0_1.length c0_1] 37 (0, 0)) (by (with_reducible repeat (first | refine blk_drewN ?_ _ | refine blk_drew ?_ | refine blk_alloc ?_ _)); exact BK290.out)) : gb292 ≠ gb290)); have n8_ := Aside0.mk ((by rw [hg]; exact Nat.ne_of_lt (blk_lt (g := gb291) (o := .cells #[.bool a1_0, .slice A1_1 l1_1.length c1_1] 37 (0, 0)) (by (with_reducible repeat (first | refine blk_drewN ?_ _ | refine blk_drew ?_ | refine blk_alloc ?_ _)); exact BK291.out)) : gb291 ≠ gb292)); have n9_ := Aside0.mk ((by rw [hg]; exact Nat.ne_of_gt (blk_lt (g := gb291) (o := .cells #[.bool a1_0, .slice A1_1 l1_1.length c1_1] 37 (0, 0)) (by (with_reducible repeat (first | refine blk_drewN ?_ _ | refine blk_drew ?_ | refine blk_alloc ?_ _)); exact BK291.out)) : gb292 ≠ gb291)); clear BK290; clear BK291; clear HB; have BK290 := n0_; have BK291 := n1_; have HB := n2_; have BK292 := n3_; have GW292 := n4_; have GE292 := n5_; have NB290_292 := n6_; have NB292_290 := n7_; have NB291_292 := n8_; have NB292_291 := n9_; clear n0_ n1_ n2_ n3_ n4_ n5_ n6_ n7_ n8_ n9_; clear hb hbox hg; have hnb45 := NB290_291.out; have hnc45 := NB291_290.out; have hnb46 := NB290_292.out; have hnc46 := NB292_290.out; have hcz47_0 : w44.cell? ⟨gb290, 0, none⟩ = some (.bool a0_0) := (blk_cell BK290.out 0).trans rfl; have hcz47_1 : w44.cell? ⟨gb290, 1, none⟩ = some (.slice A0_1 l0_1.length c0_1) := (blk_cell BK290.out 1).trans rfl; have hfz47_0 := blk_frozen BK290.out 0; have hfz47_1 := blk_frozen BK290.out 1; have hnb48 := NB291_292.out; have hnc48 := NB292_291.out; have hcz49_0 : w44.cell? ⟨gb291, 0, none⟩ = some (.bool a1_0) := (blk_cell BK291.out 0).trans rfl; have hcz49_1 : w44.cell? ⟨gb291, 1, none⟩ = some (.slice A1_1 l1_1.length c1_1) := (blk_cell BK291.out 1).trans rfl; have hfz49_0 := blk_frozen BK291.out 0; have hfz49_1 := blk_frozen BK291.out 1) | ((with_reducible refine gate_callee (f := 46) rfl ?_); refine goesL_ (some 22) rfl rfl Tryz.func46 (by kernel_rfl) rfl #[.slice A0_1 l0_1.length c0_1, .slice A1_1 l1_1.length c1_1] rfl (by (try simp only [List.map_toArray, List.map_cons, List.map_nil]); first | done | rfl | (simp only [List.length_drop, List.length_take]; rfl)) ?_; (with_reducible refine (spec_order.calls k _ _ l0_1 _ _ l1_1 t300 _ ?side1 ?side2 ?side3 ?side4 A21.out).mono ?_); (case side1 => repeat (first | exact (Kd.C_below HR0_1.out HB.out) | (with_reducible refine Kd.C_alloc ?_ _) | (with_reducible refine Kd.C_drewN ?_ _) | (with_reducible refine Kd.C_drew ?_))); (case side2 => exact HC0_1.out); (case side3 => repeat (first | exact (Kd.C_below HR1_1.out HB.out) | (with_reducible refine Kd.C_alloc ?_ _) | (with_reducible refine Kd.C_drewN ?_ _) | (with_reducible refine Kd.C_drew ?_))); (case side4 => exact HC1_1.out); rintro e w' ⟨rfl, ⟨nd, rfl⟩⟩; refine ⟨_, rfl, ?_⟩; (try (rw [drewN_self w44]; generalize hq_ : World.drewN w44 _ = w44; have n0_ : Aside0 (w44.heap[gb290]? = some (.cells #[.bool a0_0, .slice A0_1 l0_1.length c0_1] 37 (0, 0))) := ⟨by rw [← hq_]; exact (by (with_reducible repeat (first | refine blk_drewN ?_ _ | refine blk_drew ?_ | refine blk_alloc ?_ _)); exact BK290.out)⟩; have n1_ : Aside0 (w44.heap[gb291]? = some (.cells #[.bool a1_0, .slice A1_1 l1_1.length c1_1] 37 (0, 0))) := ⟨by rw [← hq_]; exact (by (with_reducible repeat (first | refine blk_drewN ?_ _ | refine blk_drew ?_ | refine blk_alloc ?_ _)); exact BK291.out)⟩; have n2_ : Aside0 (w44.heap[gb292]? = some (.cells #[.bool false, .slice none 0 0] 37 (0, 0))) := ⟨by rw [← hq_]; exact (by (with_reducible repeat (first | refine blk_drewN ?_ _ | refine blk_drew ?_ | refine blk_alloc ?_ _)); exact BK292.out)⟩; have n3_ : Aside0 (Below w.heap.size w w44) := ⟨by rw [← hq_]; exact (by repeat (first | (with_reducible first | exact HB.out | apply below_alloc | apply pw_below_drewN | apply below_drew1 | refine below_set ?_ GE290.out | refine below_set ?_ GE291.out | refine below_set ?_ GE292.out) | exact HB.out))⟩; clear BK290 BK291 BK292 HB hq_; have BK290 := n0_; have BK291 := n1_; have BK292 := n2_; have HB := n3_; clear n0_ n1_ n2_ n3_))))
      have n0_ := Aside0.mk (blk_drew BK290.out)
      have n1_ := Aside0.mk (blk_drew BK291.out)
      have n2_ := Aside0.mk (blk_drew BK292.out)
      have n3_ := Aside0.mk (below_drew1 HB.out)
      clear BK290
      clear BK291
      clear BK292
      clear HB
      have BK290 := n0_
      have BK291 := n1_
      have BK292 := n2_
      have HB := n3_
      clear n0_ n1_ n2_ n3_
      refine start_ (n := 9) (S := fun w' => w'.cell? ⟨gb291, 0, none⟩ = some (.bool a1_0) ∧ w'.cell? ⟨gb291, 1, none⟩ = some (.slice A1_1 l1_1.length c1_1) ∧ w'.cell? ⟨gb290, 0, none⟩ = some (.bool a0_0) ∧ w'.cell? ⟨gb290, 1, none⟩ = some (.slice A0_1 l0_1.length c0_1)) (ds := []) #[false, false, false, false, false, false, false, false, false] (by kernel_rfl) rfl rfl ⟨(blk_cell BK291.out 0).trans rfl, (blk_cell BK291.out 1).trans rfl, (blk_cell BK290.out 0).trans rfl, (blk_cell BK290.out 1).trans rfl⟩ (fun hHeld => ?_); refine with_tabW spec_Int_Add.tab5 spec_Int_Add.bits5 (fun HT_ HW_ => ?_)
      generalize w44.drew = w50 at BK290 BK291 BK292 HB hHeld ⊢
      refine pure_ (i := 0) (N := some 32) (v := ?_) (a' := ?_) #[true, false, false, false, false, false, false, false, false] rfl rfl (any_of HT_.out (by kernel_rfl)) (fun _ _ _ h => h) (Or.inl ⟨by rfl, ?_⟩) ?_ ?_
      rotate_left
      · intro w'
        go_simp
        with_reducible rfl
      rotate_left
      · simp only [Act.put, List.setIfInBounds_toArray, List.set_cons_zero, List.set_cons_succ, i64_w, i32_w]
        rfl
      refine pure_ (i := 2) (N := some 34) (v := ?_) (a' := ?_) #[true, false, true, false, false, false, false, false, false] rfl rfl (any_of HT_.out (by kernel_rfl)) (fun _ _ _ h => h) (Or.inl ⟨by rfl, ?_⟩) ?_ ?_
      rotate_left
      · intro w'
        go_simp
        with_reducible rfl
      rotate_left
      · simp only [Act.put, List.setIfInBounds_toArray, List.set_cons_zero, List.set_cons_succ, i64_w, i32_w]
        rfl
      refine pure_ (i := 4) (N := some 36) (v := ?_) (a' := ?_) #[true, false, true, false, true, false, false, false, false] rfl rfl (any_of HT_.out (by kernel_rfl)) (fun _ _ _ h => h) (Or.inl ⟨by rfl, ?_⟩) ?_ ?_
      rotate_left
      · intro w'
        go_simp
        with_reducible rfl
      rotate_left
      · simp only [Act.put, List.setIfInBounds_toArray, List.set_cons_zero, List.set_cons_succ, i64_w, i32_w]
        rfl
      refine take_ (i := 1) (N := some 33) (v := ?_) (a' := ?_) #[true, true, true, false, true, false, false, false, false] rfl rfl (take_ofW HT_.out HW_.out (by kernel_rfl)) (fun _ _ _ h => h) (Or.inl ⟨by rfl, ?_⟩) hHeld ?_ ?_
      rotate_left
      · rintro w' ⟨s0, s1, s2, s3⟩
        go_simp
        with_reducible rfl
      rotate_left
      · simp only [Act.put, List.setIfInBounds_toArray, List.set_cons_zero, List.set_cons_succ, i64_w, i32_w]
        rfl
      refine take_ (i := 3) (N := some 35) (v := ?_) (a' := ?_) #[true, true, true, true, true, false, false, false, false] rfl rfl (take_ofW HT_.out HW_.out (by kernel_rfl)) (fun _ _ _ h => h) (Or.inl ⟨by rfl, ?_⟩) hHeld ?_ ?_
      rotate_left
      · rintro w' ⟨s0, s1, s2, s3⟩
        go_simp
        with_reducible rfl
      rotate_left
      · simp only [Act.put, List.setIfInBounds_toArray, List.set_cons_zero, List.set_cons_succ, i64_w, i32_w]
        rfl
      refine take_ (i := 5) (N := some 37) (v := ?_) (a' := ?_) #[true, true, true, true, true, true, false, false, false] rfl rfl (take_ofW HT_.out HW_.out (by kernel_rfl)) (fun _ _ _ h => h) (Or.inl ⟨by rfl, ?_⟩) hHeld ?_ ?_
      rotate_left
      · rintro w' ⟨s0, s1, s2, s3⟩
        go_simp
        with_reducible rfl
      rotate_left
      · simp only [Act.put, List.setIfInBounds_toArray, List.set_cons_zero, List.set_cons_succ, i64_w, i32_w]
        rfl
      refine one_ (i := 6) (N := some 38) #[true, true, true, true, true, true, true, false, false] rfl rfl (one_of HT_.out (by kernel_rfl)) (by decide) (fun K hK => ?_)
      refine goes_ Tryz.func45 (by kernel_rfl) rfl #[.slice A1_1 l1_1.length c1_1, .slice A0_1 l0_1.length c0_1] (by rfl) rfl rfl (by (try simp only [List.map_toArray, List.map_cons, List.map_nil]); first | done | rfl | (simp only [List.length_drop, List.length_take]; rfl)) ?_
      with_reducible refine (spec_less.calls k _ _ l1_1 _ _ l0_1 t308 _ ?side1 ?side2 ?side3 ?side4 A40.out).mono ?_
      (case side1 => repeat (first | exact (Kd.C_below HR1_1.out HB.out) | (with_reducible refine Kd.C_alloc ?_ _) | (with_reducible refine Kd.C_drewN ?_ _) | (with_reducible refine Kd.C_drew ?_)))
      (case side2 => exact HC1_1.out)
      (case side3 => repeat (first | exact (Kd.C_below HR0_1.out HB.out) | (with_reducible refine Kd.C_alloc ?_ _) | (with_reducible refine Kd.C_drewN ?_ _) | (with_reducible refine Kd.C_drew ?_)))
      (case side4 => exact HC0_1.out)
      rintro e w51 ⟨v309, rfl, ho0, hb⟩
      refine ⟨_, rfl, ?_⟩
      have n0_ := Aside0.mk (Kd.R_lower ho0 (below_size (by repeat (first | (with_reducible first | exact HB.out | apply below_alloc | apply pw_below_drewN | apply below_drew1 | refine below_set ?_ GE290.out | refine below_set ?_ GE291.out | refine below_set ?_ GE292.out) | exact HB.out))))
      have n1_ := Aside0.mk (blk_below (g := gb290) (o := .cells #[.bool a0_0, .slice A0_1 l0_1.length c0_1] 37 (0, 0)) (by (with_reducible repeat (first | refine blk_drewN ?_ _ | refine blk_drew ?_ | refine blk_alloc ?_ _)); exact BK290.out) hb)
      have n2_ := Aside0.mk (blk_below (g := gb291) (o := .cells #[.bool a1_0, .slice A1_1 l1_1.length c1_1] 37 (0, 0)) (by (with_reducible repeat (first | refine blk_drewN ?_ _ | refine blk_drew ?_ | refine blk_alloc ?_ _)); exact BK291.out) hb)
      have n3_ := Aside0.mk (blk_below (g := gb292) (o := .cells #[.bool false, .slice none 0 0] 37 (0, 0)) (by (with_reducible repeat (first | refine blk_drewN ?_ _ | refine blk_drew ?_ | refine blk_alloc ?_ _)); exact BK292.out) hb)
      have n4_ := Aside0.mk (below_step (by repeat (first | (with_reducible first | exact HB.out | apply below_alloc | apply pw_below_drewN | apply below_drew1 | refine below_set ?_ GE290.out | refine below_set ?_ GE291.out | refine below_set ?_ GE292.out) | exact HB.out)) hb)
      clear BK290
      clear BK291
      clear BK292
      clear HB
      have HO310 := n0_
      have BK290 := n1_
      have BK291 := n2_
      have BK292 := n3_
      have HB := n4_
      clear n0_ n1_ n2_ n3_ n4_
      (try clear hb)
      (try clear hb2)
      (try clear hk)
      (try clear hi)
      (try clear ho0)
      obtain ⟨Ao52, co52, eo52⟩ := Kd.R_slice HO310.out
      (first | subst eo52 | (injection eo52 with f1_ f2_ f3_; have f4_ := f1_.symm; have f5_ := f3_.symm; clear f1_ f2_ f3_; subst f4_; subst f5_))
      refine hK.out _ _ ⟨(blk_cell BK291.out 0).trans rfl, (blk_cell BK291.out 1).trans rfl, (blk_cell BK290.out 0).trans rfl, (blk_cell BK290.out 1).trans rfl⟩ (fun hHeld => ?_)
      clear hK K
      refine norm_ (a' := ?_) ?_ ?_
      rotate_left
      · show Act.put _ (some 38) _ = _
        simp only [Act.put, List.setIfInBounds_toArray, List.set_cons_zero, List.set_cons_succ, i64_w, i32_w]
        rfl
      refine one_ (i := 7) (N := some 39) #[true, true, true, true, true, true, true, true, false] rfl rfl (one_of HT_.out (by kernel_rfl)) (by decide) (fun K hK => ?_)
      refine goes_ Tryz.func20 (by kernel_rfl) rfl #[.bool a1_0, .slice Ao52 t308.length co52] (by rfl) rfl rfl (by (try simp only [List.map_toArray, List.map_cons, List.map_nil]); first | done | rfl | (simp only [List.length_drop, List.length_take]; rfl)) ?_
      with_reducible refine (spec_Of.calls k a1_0 _ _ t308 t311 t312 _ ?side1 ?side2 A41.out).mono ?_
      (case side1 => repeat (first | exact (Kd.R_reads' HO310.out).2.2 | (with_reducible refine Kd.C_alloc ?_ _) | (with_reducible refine Kd.C_drewN ?_ _) | (with_reducible refine Kd.C_drew ?_)))
      (case side2 => exact (Kd.R_reads' HO310.out).2.1)
      rintro e w53 ⟨v313, rfl, ho0, hb⟩
      refine ⟨_, rfl, ?_⟩
      have n0_ := Aside0.mk (Kd.R_elder' (by (with_reducible repeat (first | apply Kd.R_alloc | apply Kd.R_drewN | apply Kd.R_drew)); exact HO310.out) (Kd.R_base ho0) hb)
      have n1_ := Aside0.mk (Kd.R_lower (Kd.R_new' ho0 (Kd.R_lt (by (with_reducible repeat (first | apply Kd.R_alloc | apply Kd.R_drewN | apply Kd.R_drew)); exact HO310.out))) (below_size (by repeat (first | (with_reducible first | exact HB.out | apply below_alloc | apply pw_below_drewN | apply below_drew1 | refine below_set ?_ GE290.out | refine below_set ?_ GE291.out | refine below_set ?_ GE292.out) | exact HB.out))))
      have n2_ := Aside0.mk (blk_below (g := gb290) (o := .cells #[.bool a0_0, .slice A0_1 l0_1.length c0_1] 37 (0, 0)) (by (with_reducible repeat (first | refine blk_drewN ?_ _ | refine blk_drew ?_ | refine blk_alloc ?_ _)); exact BK290.out) hb)
      have n3_ := Aside0.mk (blk_below (g := gb291) (o := .cells #[.bool a1_0, .slice A1_1 l1_1.length c1_1] 37 (0, 0)) (by (with_reducible repeat (first | refine blk_drewN ?_ _ | refine blk_drew ?_ | refine blk_alloc ?_ _)); exact BK291.out) hb)
      have n4_ := Aside0.mk (blk_below (g := gb292) (o := .cells #[.bool false, .slice none 0 0] 37 (0, 0)) (by (with_reducible repeat (first | refine blk_drewN ?_ _ | refine blk_drew ?_ | refine blk_alloc ?_ _)); exact BK292.out) hb)
      have n5_ := Aside0.mk (below_step (by repeat (first | (with_reducible first | exact HB.out | apply below_alloc | apply pw_below_drewN | apply below_drew1 | refine below_set ?_ GE290.out | refine below_set ?_ GE291.out | refine below_set ?_ GE292.out) | exact HB.out)) hb)
      clear HO310
      clear BK290
      clear BK291
      clear BK292
      clear HB
      have HO310 := n0_
      have HO314 := n1_
      have BK290 := n2_
      have BK291 := n3_
      have BK292 := n4_
      have HB := n5_
      clear n0_ n1_ n2_ n3_ n4_ n5_
      (try clear hb)
      (try clear hb2)
      (try clear hk)
      (try clear hi)
      (try clear ho0)
      obtain ⟨Ao55, co55, eo55⟩ := Kd.R_slice HO314.out
      (first | subst eo55 | (injection eo55 with f1_ f2_ f3_; have f4_ := f1_.symm; have f5_ := f3_.symm; clear f1_ f2_ f3_; subst f4_; subst f5_))
      refine hK.out _ _ ⟨(blk_cell BK291.out 0).trans rfl, (blk_cell BK291.out 1).trans rfl, (blk_cell BK290.out 0).trans rfl, (blk_cell BK290.out 1).trans rfl⟩ (fun hHeld => ?_)
      clear hK K
      refine norm_ (a' := ?_) ?_ ?_
      rotate_left
      · show Act.put _ (some 39) _ = _
        simp only [Act.put, List.setIfInBounds_toArray, List.set_cons_zero, List.set_cons_succ, i64_w, i32_w]
        rfl
      refine one_ (i := 8) (N := none) #[true, true, true, true, true, true, true, true, true] rfl rfl (one_of HT_.out (by kernel_rfl)) (by decide) (fun K hK => ?_)
      have hs54 : w53.cell? ⟨gb292, 0, none⟩ = some (.bool false) := (blk_cell BK292.out 0).trans rfl
      have hfs54 := blk_frozen BK292.out 0
      have hns54_0 := NB290_292.out
      have hns54_1 := NB291_292.out
      have hms54_0 := NB292_290.out
      have hms54_1 := NB292_291.out
      have hs56 : w53.cell? ⟨gb292, 1, none⟩ = some (.slice none 0 0) := (blk_cell BK292.out 1).trans rfl
      have hfs56 := blk_frozen BK292.out 1
      have hns56_0 := NB290_292.out
      have hns56_1 := NB291_292.out
      have hms56_0 := NB292_290.out
      have hms56_1 := NB292_291.out
      refine skip_ (w1 := ?_) (by rfl) rfl ?_ ?_
      rotate_left
      · go_simp
        rfl
      refine hK.out _ _ ⟨((cell_far (p := ⟨gb292, _, none⟩) NB291_292.out _).trans (((cell_far (p := ⟨gb292, _, none⟩) NB291_292.out _).trans (hHeld.1)))), ((cell_far (p := ⟨gb292, _, none⟩) NB291_292.out _).trans (((cell_far (p := ⟨gb292, _, none⟩) NB291_292.out _).trans (hHeld.2.1)))), ((cell_far (p := ⟨gb292, _, none⟩) NB290_292.out _).trans (((cell_far (p := ⟨gb292, _, none⟩) NB290_292.out _).trans (hHeld.2.2.1)))), ((cell_far (p := ⟨gb292, _, none⟩) NB290_292.out _).trans (((cell_far (p := ⟨gb292, _, none⟩) NB290_292.out _).trans (hHeld.2.2.2))))⟩ (fun hHeld => ?_)
      clear hK K
      refine done_ (done_of HT_.out (by kernel_rfl)) ?_
      try go_wp2
      refine bodyPost_ret (results_cell_row rfl _ _ gb292 37 #[.bool t311, .slice Ao55 t312.length co55] (0, 0) _ rfl (by (with_reducible repeat (first | refine blk_drewN ?_ _ | refine blk_drew ?_ | refine blk_alloc ?_ _)); refine blk_put (cs := #[.bool t311, .slice none 0 0]) ?_ 1 _ rfl; (with_reducible repeat (first | refine blk_drewN ?_ _ | refine blk_drew ?_ | refine blk_alloc ?_ _)); refine blk_put (cs := #[.bool false, .slice none 0 0]) ?_ 0 _ rfl; (with_reducible repeat (first | refine blk_drewN ?_ _ | refine blk_drew ?_ | refine blk_alloc ?_ _)); exact BK292.out) Tryz.underlying37 rfl (by kernel_rfl)) rfl ?_
      exact ⟨_, by first | rfl | (simp [errW_none, errW_some] <;> rfl) | (simp [*, errW_none, errW_some] <;> rfl), by (with_reducible repeat (first | apply Kd.R_alloc | apply Kd.R_drewN | apply Kd.R_drew)); exact Kd.R_mono (Kd.R_far (p := ⟨gb292, 1, none⟩) (Kd.R_far (p := ⟨gb292, 0, none⟩) (Kd.R_types HO314.out BK292.out (by decide)) (fun _ hk => hk.2) (.bool t311)) (fun _ hk => hk.2) (.slice Ao55 t312.length co55)) (fun _ hk => trivial), by repeat (first | (with_reducible first | exact HB.out | apply below_alloc | apply pw_below_drewN | apply below_drew1 | refine below_set ?_ GE290.out | refine below_set ?_ GE291.out | refine below_set ?_ GE292.out) | exact HB.out)⟩
def spec_Int_Sign.f (a0_0 : Bool) (l0_1 : List Int) : Option (Int) := (spec_Int_Zero.f a0_0 l0_1).bind fun t316 => (if t316 = true then (some 0) else (if a0_0 = true then (some (-1)) else (some 1)))
set_option maxHeartbeats 8000000 in
set_option maxRecDepth 100000 in
theorem spec_Int_Sign.calls (a0_0 : Bool) (A0_1 : Option Addr) (c0_1 : Nat) (l0_1 : List Int) (r : Int) (w : World) (hr0_1 : Kd.C (Kd.int .u8) w A0_1 l0_1.length l0_1) (hc0_1 : l0_1.length ≤ c0_1) (h : spec_Int_Sign.f a0_0 l0_1 = some r) :
    Calls Tryz.prog 47 #[.agg #[.bool a0_0, .slice A0_1 l0_1.length c0_1]] w fun e w' => e = .returned (.int .i64 r) ∧ Below w.heap.size w w' := by
  have hu37 := Tryz.underlying37
  have HR0_1 := Aside0.mk hr0_1
  have HC0_1 := Aside0.mk hc0_1
  clear hr0_1 hc0_1
  have HB := Aside0.mk (Below.refl w.heap.size w)
  have H : ((spec_Int_Zero.f a0_0 l0_1).bind fun t316 => (if t316 = true then (some 0) else (if a0_0 = true then (some (-1)) else (some 1)))) = some r := h
  clear h
  replace H := Option.bind_eq_some_iff.mp H
  obtain ⟨t316, A20, H⟩ := H
  replace H : (if t316 = true then (some 0) else (if a0_0 = true then (some (-1)) else (some 1))) = some r := H
  have A2 := Aside0.mk A20
  clear A20
  by_cases c3 : t316 = true
  · subst c3
    have H1 : (some 0) = some r := by rw [if_pos rfl] at H; exact H
    clear H
    have H := H1
    clear H1
    obtain rfl := Option.some.inj H
    go_enter Tryz.func47, Tryz.ntmps47
    go_wp2_with (first | ((with_reducible refine gate_dst (N := 1) rfl ?_); refine box_event ?hg (N := 1) ?hd (cs := #[.bool a0_0, .slice A0_1 l0_1.length c0_1]) (t := 37) ?hr ?_; (case hd => rfl); (case hg => rfl); (case hr => first | (go_simp; done) | (go_simp; rfl)); intro gb315 hg w4 hbox hb; have n0_ := Aside0.mk (below_step (by repeat (first | (with_reducible first | exact HB.out | apply below_alloc | apply pw_below_drewN | apply below_drew1) | exact HB.out)) hb); have n1_ := Aside0.mk (hbox); have n2_ := Aside0.mk ((by rw [hg]; exact (below_size (by repeat (first | (with_reducible first | exact HB.out | apply below_alloc | apply pw_below_drewN | apply below_drew1) | exact HB.out))) : w.heap.size ≤ gb315)); have n3_ := Aside0.mk ((by rw [hg]; exact (below_size (by repeat (first | (with_reducible first | exact HB.out | apply below_alloc | apply pw_below_drewN | apply below_drew1) | exact HB.out))) : w.heap.size ≤ gb315)); clear HB; have HB := n0_; have BK315 := n1_; have GW315 := n2_; have GE315 := n3_; clear n0_ n1_ n2_ n3_; clear hb hbox hg; have hcz5_0 : w4.cell? ⟨gb315, 0, none⟩ = some (.bool a0_0) := (blk_cell BK315.out 0).trans rfl; have hcz5_1 : w4.cell? ⟨gb315, 1, none⟩ = some (.slice A0_1 l0_1.length c0_1) := (blk_cell BK315.out 1).trans rfl; have hfz5_0 := blk_frozen BK315.out 0; have hfz5_1 := blk_frozen BK315.out 1) | ((with_reducible refine gate_callee (f := 33) rfl ?_); refine goesL_ (some 4) rfl rfl Tryz.func33 (by kernel_rfl) rfl #[.agg #[.bool a0_0, .slice A0_1 l0_1.length c0_1]] rfl (by (try simp only [List.map_toArray, List.map_cons, List.map_nil]); first | done | rfl | (simp only [List.length_drop, List.length_take]; rfl)) ?_; (with_reducible refine (spec_Int_Zero.calls a0_0 _ _ l0_1 true _ ?side1 ?side2 A2.out).mono ?_); (case side1 => repeat (first | exact (Kd.C_below HR0_1.out HB.out) | (with_reducible refine Kd.C_alloc ?_ _) | (with_reducible refine Kd.C_drewN ?_ _) | (with_reducible refine Kd.C_drew ?_))); (case side2 => exact HC0_1.out); rintro e w6 ⟨rfl, hb⟩; refine ⟨_, rfl, ?_⟩; have n0_ := Aside0.mk (blk_below (g := gb315) (o := .cells #[.bool a0_0, .slice A0_1 l0_1.length c0_1] 37 (0, 0)) (by (with_reducible repeat (first | refine blk_drewN ?_ _ | refine blk_drew ?_ | refine blk_alloc ?_ _)); exact BK315.out) hb); have n1_ := Aside0.mk (below_step (by repeat (first | (with_reducible first | exact HB.out | apply below_alloc | apply pw_below_drewN | apply below_drew1 | refine below_set ?_ GE315.out) | exact HB.out)) hb); clear BK315; clear HB; have BK315 := n0_; have HB := n1_; clear n0_ n1_; (try clear hb); (try clear hb2); (try clear hk); (try clear hi)))
    go_ret
    exact ⟨by first | rfl | (simp [errW_none, errW_some] <;> rfl) | (simp [*, errW_none, errW_some] <;> rfl), by repeat (first | (with_reducible first | exact HB.out | apply below_alloc | apply pw_below_drewN | apply below_drew1 | refine below_set ?_ GE315.out) | exact HB.out)⟩
  · replace c3 := Bool.eq_false_iff.mpr c3
    subst c3
    have H1 : (if a0_0 = true then (some (-1)) else (some 1)) = some r := by rw [if_neg (show ¬ (false = true) by decide)] at H; exact H
    clear H
    have H := H1
    clear H1
    by_cases c7 : a0_0 = true
    · subst c7
      have H1 : (some (-1)) = some r := by rw [if_pos rfl] at H; exact H
      clear H
      have H := H1
      clear H1
      obtain rfl := Option.some.inj H
      go_enter Tryz.func47, Tryz.ntmps47
      go_wp2_with (first | ((with_reducible refine gate_dst (N := 1) rfl ?_); refine box_event ?hg (N := 1) ?hd (cs := #[.bool true, .slice A0_1 l0_1.length c0_1]) (t := 37) ?hr ?_; (case hd => rfl); (case hg => rfl); (case hr => first | (go_simp; done) | (go_simp; rfl)); intro gb315 hg w8 hbox hb; have n0_ := Aside0.mk (below_step (by repeat (first | (with_reducible first | exact HB.out | apply below_alloc | apply pw_below_drewN | apply below_drew1) | exact HB.out)) hb); have n1_ := Aside0.mk (hbox); have n2_ := Aside0.mk ((by rw [hg]; exact (below_size (by repeat (first | (with_reducible first | exact HB.out | apply below_alloc | apply pw_below_drewN | apply below_drew1) | exact HB.out))) : w.heap.size ≤ gb315)); have n3_ := Aside0.mk ((by rw [hg]; exact (below_size (by repeat (first | (with_reducible first | exact HB.out | apply below_alloc | apply pw_below_drewN | apply below_drew1) | exact HB.out))) : w.heap.size ≤ gb315)); clear HB; have HB := n0_; have BK315 := n1_; have GW315 := n2_; have GE315 := n3_; clear n0_ n1_ n2_ n3_; clear hb hbox hg; have hcz9_0 : w8.cell? ⟨gb315, 0, none⟩ = some (.bool true) := (blk_cell BK315.out 0).trans rfl; have hcz9_1 : w8.cell? ⟨gb315, 1, none⟩ = some (.slice A0_1 l0_1.length c0_1) := (blk_cell BK315.out 1).trans rfl; have hfz9_0 := blk_frozen BK315.out 0; have hfz9_1 := blk_frozen BK315.out 1) | ((with_reducible refine gate_callee (f := 33) rfl ?_); refine goesL_ (some 4) rfl rfl Tryz.func33 (by kernel_rfl) rfl #[.agg #[.bool true, .slice A0_1 l0_1.length c0_1]] rfl (by (try simp only [List.map_toArray, List.map_cons, List.map_nil]); first | done | rfl | (simp only [List.length_drop, List.length_take]; rfl)) ?_; (with_reducible refine (spec_Int_Zero.calls true _ _ l0_1 false _ ?side1 ?side2 A2.out).mono ?_); (case side1 => repeat (first | exact (Kd.C_below HR0_1.out HB.out) | (with_reducible refine Kd.C_alloc ?_ _) | (with_reducible refine Kd.C_drewN ?_ _) | (with_reducible refine Kd.C_drew ?_))); (case side2 => exact HC0_1.out); rintro e w10 ⟨rfl, hb⟩; refine ⟨_, rfl, ?_⟩; have n0_ := Aside0.mk (blk_below (g := gb315) (o := .cells #[.bool true, .slice A0_1 l0_1.length c0_1] 37 (0, 0)) (by (with_reducible repeat (first | refine blk_drewN ?_ _ | refine blk_drew ?_ | refine blk_alloc ?_ _)); exact BK315.out) hb); have n1_ := Aside0.mk (below_step (by repeat (first | (with_reducible first | exact HB.out | apply below_alloc | apply pw_below_drewN | apply below_drew1 | refine below_set ?_ GE315.out) | exact HB.out)) hb); clear BK315; clear HB; have BK315 := n0_; have HB := n1_; clear n0_ n1_; (try clear hb); (try clear hb2); (try clear hk); (try clear hi); have hcz11_0 : w10.cell? ⟨gb315, 0, none⟩ = some (.bool true) := (blk_cell BK315.out 0).trans rfl; have hcz11_1 : w10.cell? ⟨gb315, 1, none⟩ = some (.slice A0_1 l0_1.length c0_1) := (blk_cell BK315.out 1).trans rfl; have hfz11_0 := blk_frozen BK315.out 0; have hfz11_1 := blk_frozen BK315.out 1))
      go_ret
      exact ⟨by first | rfl | (simp [errW_none, errW_some] <;> rfl) | (simp [*, errW_none, errW_some] <;> rfl), by repeat (first | (with_reducible first | exact HB.out | apply below_alloc | apply pw_below_drewN | apply below_drew1 | refine below_set ?_ GE315.out) | exact HB.out)⟩
    · replace c7 := Bool.eq_false_iff.mpr c7
      subst c7
      have H1 : (some 1) = some r := by rw [if_neg (show ¬ (false = true) by decide)] at H; exact H
      clear H
      have H := H1
      clear H1
      obtain rfl := Option.some.inj H
      go_enter Tryz.func47, Tryz.ntmps47
      go_wp2_with (first | ((with_reducible refine gate_dst (N := 1) rfl ?_); refine box_event ?hg (N := 1) ?hd (cs := #[.bool false, .slice A0_1 l0_1.length c0_1]) (t := 37) ?hr ?_; (case hd => rfl); (case hg => rfl); (case hr => first | (go_simp; done) | (go_simp; rfl)); intro gb315 hg w12 hbox hb; have n0_ := Aside0.mk (below_step (by repeat (first | (with_reducible first | exact HB.out | apply below_alloc | apply pw_below_drewN | apply below_drew1) | exact HB.out)) hb); have n1_ := Aside0.mk (hbox); have n2_ := Aside0.mk ((by rw [hg]; exact (below_size (by repeat (first | (with_reducible first | exact HB.out | apply below_alloc | apply pw_below_drewN | apply below_drew1) | exact HB.out))) : w.heap.size ≤ gb315)); have n3_ := Aside0.mk ((by rw [hg]; exact (below_size (by repeat (first | (with_reducible first | exact HB.out | apply below_alloc | apply pw_below_drewN | apply below_drew1) | exact HB.out))) : w.heap.size ≤ gb315)); clear HB; have HB := n0_; have BK315 := n1_; have GW315 := n2_; have GE315 := n3_; clear n0_ n1_ n2_ n3_; clear hb hbox hg; have hcz13_0 : w12.cell? ⟨gb315, 0, none⟩ = some (.bool false) := (blk_cell BK315.out 0).trans rfl; have hcz13_1 : w12.cell? ⟨gb315, 1, none⟩ = some (.slice A0_1 l0_1.length c0_1) := (blk_cell BK315.out 1).trans rfl; have hfz13_0 := blk_frozen BK315.out 0; have hfz13_1 := blk_frozen BK315.out 1) | ((with_reducible refine gate_callee (f := 33) rfl ?_); refine goesL_ (some 4) rfl rfl Tryz.func33 (by kernel_rfl) rfl #[.agg #[.bool false, .slice A0_1 l0_1.length c0_1]] rfl (by (try simp only [List.map_toArray, List.map_cons, List.map_nil]); first | done | rfl | (simp only [List.length_drop, List.length_take]; rfl)) ?_; (with_reducible refine (spec_Int_Zero.calls false _ _ l0_1 false _ ?side1 ?side2 A2.out).mono ?_); (case side1 => repeat (first | exact (Kd.C_below HR0_1.out HB.out) | (with_reducible refine Kd.C_alloc ?_ _) | (with_reducible refine Kd.C_drewN ?_ _) | (with_reducible refine Kd.C_drew ?_))); (case side2 => exact HC0_1.out); rintro e w14 ⟨rfl, hb⟩; refine ⟨_, rfl, ?_⟩; have n0_ := Aside0.mk (blk_below (g := gb315) (o := .cells #[.bool false, .slice A0_1 l0_1.length c0_1] 37 (0, 0)) (by (with_reducible repeat (first | refine blk_drewN ?_ _ | refine blk_drew ?_ | refine blk_alloc ?_ _)); exact BK315.out) hb); have n1_ := Aside0.mk (below_step (by repeat (first | (with_reducible first | exact HB.out | apply below_alloc | apply pw_below_drewN | apply below_drew1 | refine below_set ?_ GE315.out) | exact HB.out)) hb); clear BK315; clear HB; have BK315 := n0_; have HB := n1_; clear n0_ n1_; (try clear hb); (try clear hb2); (try clear hk); (try clear hi); have hcz15_0 : w14.cell? ⟨gb315, 0, none⟩ = some (.bool false) := (blk_cell BK315.out 0).trans rfl; have hcz15_1 : w14.cell? ⟨gb315, 1, none⟩ = some (.slice A0_1 l0_1.length c0_1) := (blk_cell BK315.out 1).trans rfl; have hfz15_0 := blk_frozen BK315.out 0; have hfz15_1 := blk_frozen BK315.out 1))
      go_ret
      exact ⟨by first | rfl | (simp [errW_none, errW_some] <;> rfl) | (simp [*, errW_none, errW_some] <;> rfl), by repeat (first | (with_reducible first | exact HB.out | apply below_alloc | apply pw_below_drewN | apply below_drew1 | refine below_set ?_ GE315.out) | exact HB.out)⟩
end Go.Proofs.YtdbjoiojiibdgaaGreatDoor.PFixed
