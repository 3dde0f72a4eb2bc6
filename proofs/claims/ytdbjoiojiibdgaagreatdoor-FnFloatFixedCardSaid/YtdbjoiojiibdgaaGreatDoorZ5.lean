/-
  A part of the proof of FnFloatFixed (packed out of smaller texts by a program of this session; what the proof does not reach is left out).
-/
import Derived.Test.YtdbjoiojiibdgaaGreatDoorZ3
import Derived.Test.YtdbjoiojiibdgaaGreatDoorZ4
namespace Go.Proofs.YtdbjoiojiibdgaaGreatDoor.PFixed
open Go.RowKit Go.Proofs.YtdbjoiojiibdgaaGreatDoorW.PrintWords Go.Proofs.YtdbjoiojiibdgaaGreatDoorW.PrintLast Go.Proofs.YtdbjoiojiibdgaaGreatDoorW.PrintMore
attribute [local go_sem] max2_int min2_int max_two min_two max_three min_three max_four min_four
set_option linter.unusedVariables false
set_option linter.unusedSimpArgs false
def spec_Int_Cmp.f (k : Nat) (a0_0 : Bool) (l0_1 : List Int) (a1_0 : Bool) (l1_1 : List Int) : Option (Int) := (spec_Int_Sign.f a0_0 l0_1).bind fun t319 => ((spec_Int_Sign.f a1_0 l1_1).bind fun t320 => (if t319 = t320 then (if a0_0 = true then ((spec_order.f k l1_1 l0_1).bind fun t323 => (some t323)) else ((spec_order.f k l0_1 l1_1).bind fun t324 => (some t324))) else ((spec_Int_Sign.f a0_0 l0_1).bind fun t321 => ((spec_Int_Sign.f a1_0 l1_1).bind fun t322 => (if t321 < t322 then (some (-1)) else (some 1))))))
set_option maxHeartbeats 8000000 in
set_option maxRecDepth 100000 in
theorem spec_Int_Cmp.calls (k : Nat) (a0_0 : Bool) (A0_1 : Option Addr) (c0_1 : Nat) (l0_1 : List Int) (a1_0 : Bool) (A1_1 : Option Addr) (c1_1 : Nat) (l1_1 : List Int) (r : Int) (w : World) (hr0_1 : Kd.C (Kd.int .u8) w A0_1 l0_1.length l0_1) (hc0_1 : l0_1.length ≤ c0_1) (hr1_1 : Kd.C (Kd.int .u8) w A1_1 l1_1.length l1_1) (hc1_1 : l1_1.length ≤ c1_1) (h : spec_Int_Cmp.f k a0_0 l0_1 a1_0 l1_1 = some r) :
    Calls Tryz.prog 38 #[.agg #[.bool a0_0, .slice A0_1 l0_1.length c0_1], .agg #[.bool a1_0, .slice A1_1 l1_1.length c1_1]] w fun e w' => e = .returned (.int .i64 r) ∧ Below w.heap.size w w' := by
  have hu37 := Tryz.underlying37
  have HR0_1 := Aside0.mk hr0_1
  have HC0_1 := Aside0.mk hc0_1
  clear hr0_1 hc0_1
  have HR1_1 := Aside0.mk hr1_1
  have HC1_1 := Aside0.mk hc1_1
  clear hr1_1 hc1_1
  have HB := Aside0.mk (Below.refl w.heap.size w)
  have H : ((spec_Int_Sign.f a0_0 l0_1).bind fun t319 => ((spec_Int_Sign.f a1_0 l1_1).bind fun t320 => (if t319 = t320 then (if a0_0 = true then ((spec_order.f k l1_1 l0_1).bind fun t323 => (some t323)) else ((spec_order.f k l0_1 l1_1).bind fun t324 => (some t324))) else ((spec_Int_Sign.f a0_0 l0_1).bind fun t321 => ((spec_Int_Sign.f a1_0 l1_1).bind fun t322 => (if t321 < t322 then (some (-1)) else (some 1))))))) = some r := h
  clear h
  replace H := Option.bind_eq_some_iff.mp H
  obtain ⟨t319, A30, H⟩ := H
  replace H : ((spec_Int_Sign.f a1_0 l1_1).bind fun t320 => (if t319 = t320 then (if a0_0 = true then ((spec_order.f k l1_1 l0_1).bind fun t323 => (some t323)) else ((spec_order.f k l0_1 l1_1).bind fun t324 => (some t324))) else ((spec_Int_Sign.f a0_0 l0_1).bind fun t321 => ((spec_Int_Sign.f a1_0 l1_1).bind fun t322 => (if t321 < t322 then (some (-1)) else (some 1)))))) = some r := H
  have A3 := Aside0.mk A30
  clear A30
  replace H := Option.bind_eq_some_iff.mp H
  obtain ⟨t320, A40, H⟩ := H
  replace H : (if t319 = t320 then (if a0_0 = true then ((spec_order.f k l1_1 l0_1).bind fun t323 => (some t323)) else ((spec_order.f k l0_1 l1_1).bind fun t324 => (some t324))) else ((spec_Int_Sign.f a0_0 l0_1).bind fun t321 => ((spec_Int_Sign.f a1_0 l1_1).bind fun t322 => (if t321 < t322 then (some (-1)) else (some 1))))) = some r := H
  have A4 := Aside0.mk A40
  clear A40
  by_cases c5 : t319 = t320
  · rw [if_pos c5] at H
    have c5b0 : (t319 == t320) = true := beq_iff_eq.mpr c5
    have c5b1 : (t319 != t320) = false := bne_eq_false_iff_eq.mpr c5
    clear c5
    by_cases c6 : a0_0 = true
    · subst c6
      have H1 : ((spec_order.f k l1_1 l0_1).bind fun t323 => (some t323)) = some r := by rw [if_pos rfl] at H; exact H
      clear H
      have H := H1
      clear H1
      replace H := Option.bind_eq_some_iff.mp H
      obtain ⟨t323, A70, H⟩ := H
      replace H : (some t323) = some r := H
      have A7 := Aside0.mk A70
      clear A70
      obtain rfl := Option.some.inj H
      go_enter Tryz.func38, Tryz.ntmps38
      try go_wp2_with (first | ((with_reducible refine gate_dst (N := 2) rfl ?_); refine box_event ?hg (N := 2) ?hd (cs := #[.bool true, .slice A0_1 l0_1.length c0_1]) (t := 37) ?hr ?_; (case hd => rfl); (case hg => rfl); (case hr => first | (go_simp; done) | (go_simp; rfl)); intro gb317 hg w8 hbox hb; have n0_ := Aside0.mk (below_step (by repeat (first | (with_reducible first | exact HB.out | apply below_alloc | apply pw_below_drewN | apply below_drew1) | exact HB.out)) hb); have n1_ := Aside0.mk (hbox); have n2_ := Aside0.mk ((by rw [hg]; exact (below_size (by repeat (first | (with_reducible first | exact HB.out | apply below_alloc | apply pw_below_drewN | apply below_drew1) | exact HB.out))) : w.heap.size ≤ gb317)); have n3_ := Aside0.mk ((by rw [hg]; exact (below_size (by repeat (first | (with_reducible first | exact HB.out | apply below_alloc | apply pw_below_drewN | apply below_drew1) | exact HB.out))) : w.heap.size ≤ gb317)); clear HB; have HB := n0_; have BK317 := n1_; have GW317 := n2_; have GE317 := n3_; clear n0_ n1_ n2_ n3_; clear hb hbox hg) | ((with_reducible refine gate_dst (N := 3) rfl ?_); refine box_event ?hg (N := 3) ?hd (cs := #[.bool a1_0, .slice A1_1 l1_1.length c1_1]) (t := 37) ?hr ?_; (case hd => rfl); (case hg => rfl); (case hr => first | (go_simp; done) | (go_simp; rfl)); intro gb318 hg w9 hbox hb; have n0_ := Aside0.mk (blk_below (g := gb317) (o := .cells #[.bool true, .slice A0_1 l0_1.length c0_1] 37 (0, 0)) (by (with_reducible repeat (first | refine blk_drewN ?_ _ | refine blk_drew ?_ | refine blk_alloc ?_ _)); exact BK317.out) hb); have n1_ := Aside0.mk (below_step (by repeat (first | (with_reducible first | exact HB.out | apply below_alloc | apply pw_below_drewN | apply below_drew1 | refine below_set ?_ GE317.out) | exact HB.out)) hb); have n2_ := Aside0.mk (hbox); have n3_ := Aside0.mk ((by rw [hg]; exact (below_size (by repeat (first | (with_reducible first | exact HB.out | apply below_alloc | apply pw_below_drewN | apply below_drew1 | refine below_set ?_ GE317.out) | exact HB.out))) : w.heap.size ≤ gb318)); have n4_ := Aside0.mk ((by rw [hg]; exact (below_size (by repeat (first | (with_reducible first | exact HB.out | apply below_alloc | apply pw_below_drewN | apply below_drew1 | refine below_set ?_ GE317.out) | exact HB.out))) : w.heap.size ≤ gb318)); have n5_ := Aside0.mk ((by rw [hg]; exact Nat.ne_of_lt (blk_lt (g := gb317) (o := .cells #[.bool true, .slice A0_1 l0_1.length c0_1] 37 (0, 0)) (by (with_reducible repeat (first | refine blk_drewN ?_ _ | refine blk_drew ?_ | refine blk_alloc ?_ _)); exact BK317.out)) : gb317 ≠ gb318)); have n6_ := Aside0.mk ((by rw [hg]; exact Nat.ne_of_gt (blk_lt (g := gb317) (o := .cells #[.bool true, .slice A0_1 l0_1.length c0_1] 37 (0, 0)) (by (with_reducible repeat (first | refine blk_drewN ?_ _ | refine blk_drew ?_ | refine blk_alloc ?_ _)); exact BK317.out)) : gb318 ≠ gb317)); clear BK317; clear HB; have BK317 := n0_; have HB := n1_; have BK318 := n2_; have GW318 := n3_; have GE318 := n4_; have NB317_318 := n5_; have NB318_317 := n6_; clear n0_ n1_ n2_ n3_ n4_ n5_ n6_; clear hb hbox hg))
      have n0_ := Aside0.mk (blk_drew BK317.out)
      have n1_ := Aside0.mk (blk_drew BK318.out)
      have n2_ := Aside0.mk (below_drew1 HB.out)
      clear BK317
      clear BK318
      clear HB
      have BK317 := n0_
      have BK318 := n1_
      have HB := n2_
      clear n0_ n1_ n2_
      refine start_ (n := 5) (S := fun w' => w'.cell? ⟨gb317, 0, none⟩ = some (.bool true) ∧ w'.cell? ⟨gb317, 1, none⟩ = some (.slice A0_1 l0_1.length c0_1) ∧ w'.cell? ⟨gb318, 0, none⟩ = some (.bool a1_0) ∧ w'.cell? ⟨gb318, 1, none⟩ = some (.slice A1_1 l1_1.length c1_1)) (ds := []) #[false, false, false, false, false] (by kernel_rfl) rfl rfl ⟨(blk_cell BK317.out 0).trans rfl, (blk_cell BK317.out 1).trans rfl, (blk_cell BK318.out 0).trans rfl, (blk_cell BK318.out 1).trans rfl⟩ (fun hHeld => ?_)
      generalize w9.drew = w10 at BK317 BK318 HB hHeld ⊢
      refine take_ (i := 0) (N := some 5) (v := ?_) (a' := ?_) #[true, false, false, false, false] rfl rfl (by kernel_rfl) (fun _ _ _ h => h) (Or.inl ⟨by rfl, ?_⟩) hHeld ?_ ?_
      rotate_left
      · rintro w' ⟨s0, s1, s2, s3⟩
        go_simp
        with_reducible rfl
      rotate_left
      · simp only [Act.put, List.setIfInBounds_toArray, List.set_cons_zero, List.set_cons_succ, i64_w, i32_w]
        rfl
      refine take_ (i := 2) (N := some 7) (v := ?_) (a' := ?_) #[true, false, true, false, false] rfl rfl (by kernel_rfl) (fun _ _ _ h => h) (Or.inl ⟨by rfl, ?_⟩) hHeld ?_ ?_
      rotate_left
      · rintro w' ⟨s0, s1, s2, s3⟩
        go_simp
        with_reducible rfl
      rotate_left
      · simp only [Act.put, List.setIfInBounds_toArray, List.set_cons_zero, List.set_cons_succ, i64_w, i32_w]
        rfl
      refine one_ (i := 1) (N := some 6) #[true, true, true, false, false] rfl rfl (by kernel_rfl) (by decide) (fun K hK => ?_)
      refine goes_ Tryz.func47 (by kernel_rfl) rfl #[.agg #[.bool true, .slice A0_1 l0_1.length c0_1]] (by rfl) rfl rfl (by (try simp only [List.map_toArray, List.map_cons, List.map_nil]); first | done | rfl | (simp only [List.length_drop, List.length_take]; rfl)) ?_
      with_reducible refine (spec_Int_Sign.calls true _ _ l0_1 t319 _ ?side1 ?side2 A3.out).mono ?_
      (case side1 => repeat (first | exact (Kd.C_below HR0_1.out HB.out) | (with_reducible refine Kd.C_alloc ?_ _) | (with_reducible refine Kd.C_drewN ?_ _) | (with_reducible refine Kd.C_drew ?_)))
      (case side2 => exact HC0_1.out)
      rintro e w11 ⟨rfl, hb⟩
      refine ⟨_, rfl, ?_⟩
      have n0_ := Aside0.mk (blk_below (g := gb317) (o := .cells #[.bool true, .slice A0_1 l0_1.length c0_1] 37 (0, 0)) (by (with_reducible repeat (first | refine blk_drewN ?_ _ | refine blk_drew ?_ | refine blk_alloc ?_ _)); exact BK317.out) hb)
      have n1_ := Aside0.mk (blk_below (g := gb318) (o := .cells #[.bool a1_0, .slice A1_1 l1_1.length c1_1] 37 (0, 0)) (by (with_reducible repeat (first | refine blk_drewN ?_ _ | refine blk_drew ?_ | refine blk_alloc ?_ _)); exact BK318.out) hb)
      have n2_ := Aside0.mk (below_step (by repeat (first | (with_reducible first | exact HB.out | apply below_alloc | apply pw_below_drewN | apply below_drew1 | refine below_set ?_ GE317.out | refine below_set ?_ GE318.out) | exact HB.out)) hb)
      clear BK317
      clear BK318
      clear HB
      have BK317 := n0_
      have BK318 := n1_
      have HB := n2_
      clear n0_ n1_ n2_
      (try clear hb)
      (try clear hb2)
      (try clear hk)
      (try clear hi)
      refine hK.out _ _ ⟨(blk_cell BK317.out 0).trans rfl, (blk_cell BK317.out 1).trans rfl, (blk_cell BK318.out 0).trans rfl, (blk_cell BK318.out 1).trans rfl⟩ (fun hHeld => ?_)
      clear hK K
      refine norm_ (a' := ?_) ?_ ?_
      rotate_left
      · show Act.put _ (some 6) _ = _
        simp only [Act.put, List.setIfInBounds_toArray, List.set_cons_zero, List.set_cons_succ, i64_w, i32_w]
        rfl
      refine one_ (i := 3) (N := some 8) #[true, true, true, true, false] rfl rfl (by kernel_rfl) (by decide) (fun K hK => ?_)
      refine goes_ Tryz.func47 (by kernel_rfl) rfl #[.agg #[.bool a1_0, .slice A1_1 l1_1.length c1_1]] (by rfl) rfl rfl (by (try simp only [List.map_toArray, List.map_cons, List.map_nil]); first | done | rfl | (simp only [List.length_drop, List.length_take]; rfl)) ?_
      with_reducible refine (spec_Int_Sign.calls a1_0 _ _ l1_1 t320 _ ?side1 ?side2 A4.out).mono ?_
      (case side1 => repeat (first | exact (Kd.C_below HR1_1.out HB.out) | (with_reducible refine Kd.C_alloc ?_ _) | (with_reducible refine Kd.C_drewN ?_ _) | (with_reducible refine Kd.C_drew ?_)))
      (case side2 => exact HC1_1.out)
      rintro e w12 ⟨rfl, hb⟩
      refine ⟨_, rfl, ?_⟩
      have n0_ := Aside0.mk (blk_below (g := gb317) (o := .cells #[.bool true, .slice A0_1 l0_1.length c0_1] 37 (0, 0)) (by (with_reducible repeat (first | refine blk_drewN ?_ _ | refine blk_drew ?_ | refine blk_alloc ?_ _)); exact BK317.out) hb)
      have n1_ := Aside0.mk (blk_below (g := gb318) (o := .cells #[.bool a1_0, .slice A1_1 l1_1.length c1_1] 37 (0, 0)) (by (with_reducible repeat (first | refine blk_drewN ?_ _ | refine blk_drew ?_ | refine blk_alloc ?_ _)); exact BK318.out) hb)
      have n2_ := Aside0.mk (below_step (by repeat (first | (with_reducible first | exact HB.out | apply below_alloc | apply pw_below_drewN | apply below_drew1 | refine below_set ?_ GE317.out | refine below_set ?_ GE318.out) | exact HB.out)) hb)
      clear BK317
      clear BK318
      clear HB
      have BK317 := n0_
      have BK318 := n1_
      have HB := n2_
      clear n0_ n1_ n2_
      (try clear hb)
      (try clear hb2)
      (try clear hk)
      (try clear hi)
      refine hK.out _ _ ⟨(blk_cell BK317.out 0).trans rfl, (blk_cell BK317.out 1).trans rfl, (blk_cell BK318.out 0).trans rfl, (blk_cell BK318.out 1).trans rfl⟩ (fun hHeld => ?_)
      clear hK K
      refine norm_ (a' := ?_) ?_ ?_
      rotate_left
      · show Act.put _ (some 8) _ = _
        simp only [Act.put, List.setIfInBounds_toArray, List.set_cons_zero, List.set_cons_succ, i64_w, i32_w]
        rfl
      refine pure_ (i := 4) (N := some 9) (v := ?_) (a' := ?_) #[true, true, true, true, true] rfl rfl (by kernel_rfl) (fun _ _ _ h => h) (Or.inl ⟨by rfl, ?_⟩) ?_ ?_
      rotate_left
      · intro w'
        go_simp
        with_reducible rfl
      rotate_left
      · simp only [Act.put, List.setIfInBounds_toArray, List.set_cons_zero, List.set_cons_succ, i64_w, i32_w]
        rfl
      refine done_ (by kernel_rfl) ?_
      have hnb13 := NB317_318.out
      have hnc13 := NB318_317.out
      have hcz14_0 : w12.cell? ⟨gb317, 0, none⟩ = some (.bool true) := (blk_cell BK317.out 0).trans rfl
      have hcz14_1 : w12.cell? ⟨gb317, 1, none⟩ = some (.slice A0_1 l0_1.length c0_1) := (blk_cell BK317.out 1).trans rfl
      have hfz14_0 := blk_frozen BK317.out 0
      have hfz14_1 := blk_frozen BK317.out 1
      have hcz15_0 : w12.cell? ⟨gb318, 0, none⟩ = some (.bool a1_0) := (blk_cell BK318.out 0).trans rfl
      have hcz15_1 : w12.cell? ⟨gb318, 1, none⟩ = some (.slice A1_1 l1_1.length c1_1) := (blk_cell BK318.out 1).trans rfl
      have hfz15_0 := blk_frozen BK318.out 0
      have hfz15_1 := blk_frozen BK318.out 1
      try go_wp2_with (first | ((with_reducible refine gate_callee (f := 46) rfl ?_); refine goesL_ (some 21) rfl rfl Tryz.func46 (by kernel_rfl) rfl #[.slice A1_1 l1_1.length c1_1, .slice A0_1 l0_1.length c0_1] rfl (by (try simp only [List.map_toArray, List.map_cons, List.map_nil]); first | done | rfl | (simp only [List.length_drop, List.length_take]; rfl)) ?_; (with_reducible refine (spec_order.calls k _ _ l1_1 _ _ l0_1 t323 _ ?side1 ?side2 ?side3 ?side4 A7.out).mono ?_); (case side1 => repeat (first | exact (Kd.C_below HR1_1.out HB.out) | (with_reducible refine Kd.C_alloc ?_ _) | (with_reducible refine Kd.C_drewN ?_ _) | (with_reducible refine Kd.C_drew ?_))); (case side2 => exact HC1_1.out); (case side3 => repeat (first | exact (Kd.C_below HR0_1.out HB.out) | (with_reducible refine Kd.C_alloc ?_ _) | (with_reducible refine Kd.C_drewN ?_ _) | (with_reducible refine Kd.C_drew ?_))); (case side4 => exact HC0_1.out); rintro e w' ⟨rfl, ⟨nd, rfl⟩⟩; refine ⟨_, rfl, ?_⟩))
      go_ret
      exact ⟨by first | rfl | (simp [errW_none, errW_some] <;> rfl) | (simp [*, errW_none, errW_some] <;> rfl), by repeat (first | (with_reducible first | exact HB.out | apply below_alloc | apply pw_below_drewN | apply below_drew1 | refine below_set ?_ GE317.out | refine below_set ?_ GE318.out) | exact HB.out)⟩
    · replace c6 := Bool.eq_false_iff.mpr c6
      subst c6
      have H1 : ((spec_order.f k l0_1 l1_1).bind fun t324 => (some t324)) = some r := by rw [if_neg (show ¬ (false = true) by decide)] at H; exact H
      clear H
      have H := H1
      clear H1
      replace H := Option.bind_eq_some_iff.mp H
      obtain ⟨t324, A160, H⟩ := H
      replace H : (some t324) = some r := H
      have A16 := Aside0.mk A160
      clear A160
      obtain rfl := Option.some.inj H
      go_enter Tryz.func38, Tryz.ntmps38
      try go_wp2_with (first | ((with_reducible refine gate_dst (N := 2) rfl ?_); refine box_event ?hg (N := 2) ?hd (cs := #[.bool false, .slice A0_1 l0_1.length c0_1]) (t := 37) ?hr ?_; (case hd => rfl); (case hg => rfl); (case hr => first | (go_simp; done) | (go_simp; rfl)); intro gb317 hg w17 hbox hb; have n0_ := Aside0.mk (below_step (by repeat (first | (with_reducible first | exact HB.out | apply below_alloc | apply pw_below_drewN | apply below_drew1) | exact HB.out)) hb); have n1_ := Aside0.mk (hbox); have n2_ := Aside0.mk ((by rw [hg]; exact (below_size (by repeat (first | (with_reducible first | exact HB.out | apply below_alloc | apply pw_below_drewN | apply below_drew1) | exact HB.out))) : w.heap.size ≤ gb317)); have n3_ := Aside0.mk ((by rw [hg]; exact (below_size (by repeat (first | (with_reducible first | exact HB.out | apply below_alloc | apply pw_below_drewN | apply below_drew1) | exact HB.out))) : w.heap.size ≤ gb317)); clear HB; have HB := n0_; have BK317 := n1_; have GW317 := n2_; have GE317 := n3_; clear n0_ n1_ n2_ n3_; clear hb hbox hg) | ((with_reducible refine gate_dst (N := 3) rfl ?_); refine box_event ?hg (N := 3) ?hd (cs := #[.bool a1_0, .slice A1_1 l1_1.length c1_1]) (t := 37) ?hr ?_; (case hd => rfl); (case hg => rfl); (case hr => first | (go_simp; done) | (go_simp; rfl)); intro gb318 hg w18 hbox hb; have n0_ := Aside0.mk (blk_below (g := gb317) (o := .cells #[.bool false, .slice A0_1 l0_1.length c0_1] 37 (0, 0)) (by (with_reducible repeat (first | refine blk_drewN ?_ _ | refine blk_drew ?_ | refine blk_alloc ?_ _)); exact BK317.out) hb); have n1_ := Aside0.mk (below_step (by repeat (first | (with_reducible first | exact HB.out | apply below_alloc | apply pw_below_drewN | apply below_drew1 | refine below_set ?_ GE317.out) | exact HB.out)) hb); have n2_ := Aside0.mk (hbox); have n3_ := Aside0.mk ((by rw [hg]; exact (below_size (by repeat (first | (with_reducible first | exact HB.out | apply below_alloc | apply pw_below_drewN | apply below_drew1 | refine below_set ?_ GE317.out) | exact HB.out))) : w.heap.size ≤ gb318)); have n4_ := Aside0.mk ((by rw [hg]; exact (below_size (by repeat (first | (with_reducible first | exact HB.out | apply below_alloc | apply pw_below_drewN | apply below_drew1 | refine below_set ?_ GE317.out) | exact HB.out))) : w.heap.size ≤ gb318)); have n5_ := Aside0.mk ((by rw [hg]; exact Nat.ne_of_lt (blk_lt (g := gb317) (o := .cells #[.bool false, .slice A0_1 l0_1.length c0_1] 37 (0, 0)) (by (with_reducible repeat (first | refine blk_drewN ?_ _ | refine blk_drew ?_ | refine blk_alloc ?_ _)); exact BK317.out)) : gb317 ≠ gb318)); have n6_ := Aside0.mk ((by rw [hg]; exact Nat.ne_of_gt (blk_lt (g := gb317) (o := .cells #[.bool false, .slice A0_1 l0_1.length c0_1] 37 (0, 0)) (by (with_reducible repeat (first | refine blk_drewN ?_ _ | refine blk_drew ?_ | refine blk_alloc ?_ _)); exact BK317.out)) : gb318 ≠ gb317)); clear BK317; clear HB; have BK317 := n0_; have HB := n1_; have BK318 := n2_; have GW318 := n3_; have GE318 := n4_; have NB317_318 := n5_; have NB318_317 := n6_; clear n0_ n1_ n2_ n3_ n4_ n5_ n6_; clear hb hbox hg))
      have n0_ := Aside0.mk (blk_drew BK317.out)
      have n1_ := Aside0.mk (blk_drew BK318.out)
      have n2_ := Aside0.mk (below_drew1 HB.out)
      clear BK317
      clear BK318
      clear HB
      have BK317 := n0_
      have BK318 := n1_
      have HB := n2_
      clear n0_ n1_ n2_
      refine start_ (n := 5) (S := fun w' => w'.cell? ⟨gb317, 0, none⟩ = some (.bool false) ∧ w'.cell? ⟨gb317, 1, none⟩ = some (.slice A0_1 l0_1.length c0_1) ∧ w'.cell? ⟨gb318, 0, none⟩ = some (.bool a1_0) ∧ w'.cell? ⟨gb318, 1, none⟩ = some (.slice A1_1 l1_1.length c1_1)) (ds := []) #[false, false, false, false, false] (by kernel_rfl) rfl rfl ⟨(blk_cell BK317.out 0).trans rfl, (blk_cell BK317.out 1).trans rfl, (blk_cell BK318.out 0).trans rfl, (blk_cell BK318.out 1).trans rfl⟩ (fun hHeld => ?_)
      generalize w18.drew = w19 at BK317 BK318 HB hHeld ⊢
      refine take_ (i := 0) (N := some 5) (v := ?_) (a' := ?_) #[true, false, false, false, false] rfl rfl (by kernel_rfl) (fun _ _ _ h => h) (Or.inl ⟨by rfl, ?_⟩) hHeld ?_ ?_
      rotate_left
      · rintro w' ⟨s0, s1, s2, s3⟩
        go_simp
        with_reducible rfl
      rotate_left
      · simp only [Act.put, List.setIfInBounds_toArray, List.set_cons_zero, List.set_cons_succ, i64_w, i32_w]
        rfl
      refine take_ (i := 2) (N := some 7) (v := ?_) (a' := ?_) #[true, false, true, false, false] rfl rfl (by kernel_rfl) (fun _ _ _ h => h) (Or.inl ⟨by rfl, ?_⟩) hHeld ?_ ?_
      rotate_left
      · rintro w' ⟨s0, s1, s2, s3⟩
        go_simp
        with_reducible rfl
      rotate_left
      · simp only [Act.put, List.setIfInBounds_toArray, List.set_cons_zero, List.set_cons_succ, i64_w, i32_w]
        rfl
      refine one_ (i := 1) (N := some 6) #[true, true, true, false, false] rfl rfl (by kernel_rfl) (by decide) (fun K hK => ?_)
      refine goes_ Tryz.func47 (by kernel_rfl) rfl #[.agg #[.bool false, .slice A0_1 l0_1.length c0_1]] (by rfl) rfl rfl (by (try simp only [List.map_toArray, List.map_cons, List.map_nil]); first | done | rfl | (simp only [List.length_drop, List.length_take]; rfl)) ?_
      with_reducible refine (spec_Int_Sign.calls false _ _ l0_1 t319 _ ?side1 ?side2 A3.out).mono ?_
      (case side1 => repeat (first | exact (Kd.C_below HR0_1.out HB.out) | (with_reducible refine Kd.C_alloc ?_ _) | (with_reducible refine Kd.C_drewN ?_ _) | (with_reducible refine Kd.C_drew ?_)))
      (case side2 => exact HC0_1.out)
      rintro e w20 ⟨rfl, hb⟩
      refine ⟨_, rfl, ?_⟩
      have n0_ := Aside0.mk (blk_below (g := gb317) (o := .cells #[.bool false, .slice A0_1 l0_1.length c0_1] 37 (0, 0)) (by (with_reducible repeat (first | refine blk_drewN ?_ _ | refine blk_drew ?_ | refine blk_alloc ?_ _)); exact BK317.out) hb)
      have n1_ := Aside0.mk (blk_below (g := gb318) (o := .cells #[.bool a1_0, .slice A1_1 l1_1.length c1_1] 37 (0, 0)) (by (with_reducible repeat (first | refine blk_drewN ?_ _ | refine blk_drew ?_ | refine blk_alloc ?_ _)); exact BK318.out) hb)
      have n2_ := Aside0.mk (below_step (by repeat (first | (with_reducible first | exact HB.out | apply below_alloc | apply pw_below_drewN | apply below_drew1 | refine below_set ?_ GE317.out | refine below_set ?_ GE318.out) | exact HB.out)) hb)
      clear BK317
      clear BK318
      clear HB
      have BK317 := n0_
      have BK318 := n1_
      have HB := n2_
      clear n0_ n1_ n2_
      (try clear hb)
      (try clear hb2)
      (try clear hk)
      (try clear hi)
      refine hK.out _ _ ⟨(blk_cell BK317.out 0).trans rfl, (blk_cell BK317.out 1).trans rfl, (blk_cell BK318.out 0).trans rfl, (blk_cell BK318.out 1).trans rfl⟩ (fun hHeld => ?_)
      clear hK K
      refine norm_ (a' := ?_) ?_ ?_
      rotate_left
      · show Act.put _ (some 6) _ = _
        simp only [Act.put, List.setIfInBounds_toArray, List.set_cons_zero, List.set_cons_succ, i64_w, i32_w]
        rfl
      refine one_ (i := 3) (N := some 8) #[true, true, true, true, false] rfl rfl (by kernel_rfl) (by decide) (fun K hK => ?_)
      refine goes_ Tryz.func47 (by kernel_rfl) rfl #[.agg #[.bool a1_0, .slice A1_1 l1_1.length c1_1]] (by rfl) rfl rfl (by (try simp only [List.map_toArray, List.map_cons, List.map_nil]); first | done | rfl | (simp only [List.length_drop, List.length_take]; rfl)) ?_
      with_reducible refine (spec_Int_Sign.calls a1_0 _ _ l1_1 t320 _ ?side1 ?side2 A4.out).mono ?_
      (case side1 => repeat (first | exact (Kd.C_below HR1_1.out HB.out) | (with_reducible refine Kd.C_alloc ?_ _) | (with_reducible refine Kd.C_drewN ?_ _) | (with_reducible refine Kd.C_drew ?_)))
      (case side2 => exact HC1_1.out)
      rintro e w21 ⟨rfl, hb⟩
      refine ⟨_, rfl, ?_⟩
      have n0_ := Aside0.mk (blk_below (g := gb317) (o := .cells #[.bool false, .slice A0_1 l0_1.length c0_1] 37 (0, 0)) (by (with_reducible repeat (first | refine blk_drewN ?_ _ | refine blk_drew ?_ | refine blk_alloc ?_ _)); exact BK317.out) hb)
      have n1_ := Aside0.mk (blk_below (g := gb318) (o := .cells #[.bool a1_0, .slice A1_1 l1_1.length c1_1] 37 (0, 0)) (by (with_reducible repeat (first | refine blk_drewN ?_ _ | refine blk_drew ?_ | refine blk_alloc ?_ _)); exact BK318.out) hb)
      have n2_ := Aside0.mk (below_step (by repeat (first | (with_reducible first | exact HB.out | apply below_alloc | apply pw_below_drewN | apply below_drew1 | refine below_set ?_ GE317.out | refine below_set ?_ GE318.out) | exact HB.out)) hb)
      clear BK317
      clear BK318
      clear HB
      have BK317 := n0_
      have BK318 := n1_
      have HB := n2_
      clear n0_ n1_ n2_
      (try clear hb)
      (try clear hb2)
      (try clear hk)
      (try clear hi)
      refine hK.out _ _ ⟨(blk_cell BK317.out 0).trans rfl, (blk_cell BK317.out 1).trans rfl, (blk_cell BK318.out 0).trans rfl, (blk_cell BK318.out 1).trans rfl⟩ (fun hHeld => ?_)
      clear hK K
      refine norm_ (a' := ?_) ?_ ?_
      rotate_left
      · show Act.put _ (some 8) _ = _
        simp only [Act.put, List.setIfInBounds_toArray, List.set_cons_zero, List.set_cons_succ, i64_w, i32_w]
        rfl
      refine pure_ (i := 4) (N := some 9) (v := ?_) (a' := ?_) #[true, true, true, true, true] rfl rfl (by kernel_rfl) (fun _ _ _ h => h) (Or.inl ⟨by rfl, ?_⟩) ?_ ?_
      rotate_left
      · intro w'
        go_simp
        with_reducible rfl
      rotate_left
      · simp only [Act.put, List.setIfInBounds_toArray, List.set_cons_zero, List.set_cons_succ, i64_w, i32_w]
        rfl
      refine done_ (by kernel_rfl) ?_
      have hnb22 := NB317_318.out
      have hnc22 := NB318_317.out
      have hcz23_0 : w21.cell? ⟨gb317, 0, none⟩ = some (.bool false) := (blk_cell BK317.out 0).trans rfl
      have hcz23_1 : w21.cell? ⟨gb317, 1, none⟩ = some (.slice A0_1 l0_1.length c0_1) := (blk_cell BK317.out 1).trans rfl
      have hfz23_0 := blk_frozen BK317.out 0
      have hfz23_1 := blk_frozen BK317.out 1
      have hcz24_0 : w21.cell? ⟨gb318, 0, none⟩ = some (.bool a1_0) := (blk_cell BK318.out 0).trans rfl
      have hcz24_1 : w21.cell? ⟨gb318, 1, none⟩ = some (.slice A1_1 l1_1.length c1_1) := (blk_cell BK318.out 1).trans rfl
      have hfz24_0 := blk_frozen BK318.out 0
      have hfz24_1 := blk_frozen BK318.out 1
      try go_wp2_with (first | ((with_reducible refine gate_callee (f := 46) rfl ?_); refine goesL_ (some 26) rfl rfl Tryz.func46 (by kernel_rfl) rfl #[.slice A0_1 l0_1.length c0_1, .slice A1_1 l1_1.length c1_1] rfl (by (try simp only [List.map_toArray, List.map_cons, List.map_nil]); first | done | rfl | (simp only [List.length_drop, List.length_take]; rfl)) ?_; (with_reducible refine (spec_order.calls k _ _ l0_1 _ _ l1_1 t324 _ ?side1 ?side2 ?side3 ?side4 A16.out).mono ?_); (case side1 => repeat (first | exact (Kd.C_below HR0_1.out HB.out) | (with_reducible refine Kd.C_alloc ?_ _) | (with_reducible refine Kd.C_drewN ?_ _) | (with_reducible refine Kd.C_drew ?_))); (case side2 => exact HC0_1.out); (case side3 => repeat (first | exact (Kd.C_below HR1_1.out HB.out) | (with_reducible refine Kd.C_alloc ?_ _) | (with_reducible refine Kd.C_drewN ?_ _) | (with_reducible refine Kd.C_drew ?_))); (case side4 => exact HC1_1.out); rintro e w' ⟨rfl, ⟨nd, rfl⟩⟩; refine ⟨_, rfl, ?_⟩))
      go_ret
      exact ⟨by first | rfl | (simp [errW_none, errW_some] <;> rfl) | (simp [*, errW_none, errW_some] <;> rfl), by repeat (first | (with_reducible first | exact HB.out | apply below_alloc | apply pw_below_drewN | apply below_drew1 | refine below_set ?_ GE317.out | refine below_set ?_ GE318.out) | exact HB.out)⟩
  · rw [if_neg c5] at H
    have c5b0 : (t319 == t320) = false := beq_eq_false_iff_ne.mpr c5
    have c5b1 : (t319 != t320) = true := bne_iff_ne.mpr c5
    replace H := Option.bind_eq_some_iff.mp H
    obtain ⟨t321, A250, H⟩ := H
    replace H : ((spec_Int_Sign.f a1_0 l1_1).bind fun t322 => (if t321 < t322 then (some (-1)) else (some 1))) = some r := H
    have A25 := Aside0.mk A250
    clear A250
    replace H := Option.bind_eq_some_iff.mp H
    obtain ⟨t322, A260, H⟩ := H
    replace H : (if t321 < t322 then (some (-1)) else (some 1)) = some r := H
    have A26 := Aside0.mk A260
    clear A260
    by_cases c27 : t321 < t322
    · rw [if_pos c27] at H
      have c27b0 : decide (t321 < t322) = true := decide_eq_true c27
      clear c27
      obtain rfl := Option.some.inj H
      go_enter Tryz.func38, Tryz.ntmps38
      try go_wp2_with (first | ((with_reducible refine gate_dst (N := 2) rfl ?_); refine box_event ?hg (N := 2) ?hd (cs := #[.bool a0_0, .slice A0_1 l0_1.length c0_1]) (t := 37) ?hr ?_; (case hd => rfl); (case hg => rfl); (case hr => first | (go_simp; done) | (go_simp; rfl)); intro gb317 hg w28 hbox hb; have n0_ := Aside0.mk (below_step (by repeat (first | (with_reducible first | exact HB.out | apply below_alloc | apply pw_below_drewN | apply below_drew1) | exact HB.out)) hb); have n1_ := Aside0.mk (hbox); have n2_ := Aside0.mk ((by rw [hg]; exact (below_size (by repeat (first | (with_reducible first | exact HB.out | apply below_alloc | apply pw_below_drewN | apply below_drew1) | exact HB.out))) : w.heap.size ≤ gb317)); have n3_ := Aside0.mk ((by rw [hg]; exact (below_size (by repeat (first | (with_reducible first | exact HB.out | apply below_alloc | apply pw_below_drewN | apply below_drew1) | exact HB.out))) : w.heap.size ≤ gb317)); clear HB; have HB := n0_; have BK317 := n1_; have GW317 := n2_; have GE317 := n3_; clear n0_ n1_ n2_ n3_; clear hb hbox hg) | ((with_reducible refine gate_dst (N := 3) rfl ?_); refine box_event ?hg (N := 3) ?hd (cs := #[.bool a1_0, .slice A1_1 l1_1.length c1_1]) (t := 37) ?hr ?_; (case hd => rfl); (case hg => rfl); (case hr => first | (go_simp; done) | (go_simp; rfl)); intro gb318 hg w29 hbox hb; have n0_ := Aside0.mk (blk_below (g := gb317) (o := .cells #[.bool a0_0, .slice A0_1 l0_1.length c0_1] 37 (0, 0)) (by (with_reducible repeat (first | refine blk_drewN ?_ _ | refine blk_drew ?_ | refine blk_alloc ?_ _)); exact BK317.out) hb); have n1_ := Aside0.mk (below_step (by repeat (first | (with_reducible first | exact HB.out | apply below_alloc | apply pw_below_drewN | apply below_drew1 | refine below_set ?_ GE317.out) | exact HB.out)) hb); have n2_ := Aside0.mk (hbox); have n3_ := Aside0.mk ((by rw [hg]; exact (below_size (by repeat (first | (with_reducible first | exact HB.out | apply below_alloc | apply pw_below_drewN | apply below_drew1 | refine below_set ?_ GE317.out) | exact HB.out))) : w.heap.size ≤ gb318)); have n4_ := Aside0.mk ((by rw [hg]; exact (below_size (by repeat (first | (with_reducible first | exact HB.out | apply below_alloc | apply pw_below_drewN | apply below_drew1 | refine below_set ?_ GE317.out) | exact HB.out))) : w.heap.size ≤ gb318)); have n5_ := Aside0.mk ((by rw [hg]; exact Nat.ne_of_lt (blk_lt (g := gb317) (o := .cells #[.bool a0_0, .slice A0_1 l0_1.length c0_1] 37 (0, 0)) (by (with_reducible repeat (first | refine blk_drewN ?_ _ | refine blk_drew ?_ | refine blk_alloc ?_ _)); exact BK317.out)) : gb317 ≠ gb318)); have n6_ := Aside0.mk ((by rw [hg]; exact Nat.ne_of_gt (blk_lt (g := gb317) (o := .cells #[.bool a0_0, .slice A0_1 l0_1.length c0_1] 37 (0, 0)) (by (with_reducible repeat (first | refine blk_drewN ?_ _ | refine blk_drew ?_ | refine blk_alloc ?_ _)); exact BK317.out)) : gb318 ≠ gb317)); clear BK317; clear HB; have BK317 := n0_; have HB := n1_; have BK318 := n2_; have GW318 := n3_; have GE318 := n4_; have NB317_318 := n5_; have NB318_317 := n6_; clear n0_ n1_ n2_ n3_ n4_ n5_ n6_; clear hb hbox hg))
      have n0_ := Aside0.mk (blk_drew BK317.out)
      have n1_ := Aside0.mk (blk_drew BK318.out)
      have n2_ := Aside0.mk (below_drew1 HB.out)
      clear BK317
      clear BK318
      clear HB
      have BK317 := n0_
      have BK318 := n1_
      have HB := n2_
      clear n0_ n1_ n2_
      refine start_ (n := 5) (S := fun w' => w'.cell? ⟨gb317, 0, none⟩ = some (.bool a0_0) ∧ w'.cell? ⟨gb317, 1, none⟩ = some (.slice A0_1 l0_1.length c0_1) ∧ w'.cell? ⟨gb318, 0, none⟩ = some (.bool a1_0) ∧ w'.cell? ⟨gb318, 1, none⟩ = some (.slice A1_1 l1_1.length c1_1)) (ds := []) #[false, false, false, false, false] (by kernel_rfl) rfl rfl ⟨(blk_cell BK317.out 0).trans rfl, (blk_cell BK317.out 1).trans rfl, (blk_cell BK318.out 0).trans rfl, (blk_cell BK318.out 1).trans rfl⟩ (fun hHeld => ?_)
      generalize w29.drew = w30 at BK317 BK318 HB hHeld ⊢
      refine take_ (i := 0) (N := some 5) (v := ?_) (a' := ?_) #[true, false, false, false, false] rfl rfl (by kernel_rfl) (fun _ _ _ h => h) (Or.inl ⟨by rfl, ?_⟩) hHeld ?_ ?_
      rotate_left
      · rintro w' ⟨s0, s1, s2, s3⟩
        go_simp
        with_reducible rfl
      rotate_left
      · simp only [Act.put, List.setIfInBounds_toArray, List.set_cons_zero, List.set_cons_succ, i64_w, i32_w]
        rfl
      refine take_ (i := 2) (N := some 7) (v := ?_) (a' := ?_) #[true, false, true, false, false] rfl rfl (by kernel_rfl) (fun _ _ _ h => h) (Or.inl ⟨by rfl, ?_⟩) hHeld ?_ ?_
      rotate_left
      · rintro w' ⟨s0, s1, s2, s3⟩
        go_simp
        with_reducible rfl
      rotate_left
      · simp only [Act.put, List.setIfInBounds_toArray, List.set_cons_zero, List.set_cons_succ, i64_w, i32_w]
        rfl
      refine one_ (i := 1) (N := some 6) #[true, true, true, false, false] rfl rfl (by kernel_rfl) (by decide) (fun K hK => ?_)
      refine goes_ Tryz.func47 (by kernel_rfl) rfl #[.agg #[.bool a0_0, .slice A0_1 l0_1.length c0_1]] (by rfl) rfl rfl (by (try simp only [List.map_toArray, List.map_cons, List.map_nil]); first | done | rfl | (simp only [List.length_drop, List.length_take]; rfl)) ?_
      with_reducible refine (spec_Int_Sign.calls a0_0 _ _ l0_1 t319 _ ?side1 ?side2 A3.out).mono ?_
      (case side1 => repeat (first | exact (Kd.C_below HR0_1.out HB.out) | (with_reducible refine Kd.C_alloc ?_ _) | (with_reducible refine Kd.C_drewN ?_ _) | (with_reducible refine Kd.C_drew ?_)))
      (case side2 => exact HC0_1.out)
      rintro e w31 ⟨rfl, hb⟩
      refine ⟨_, rfl, ?_⟩
      have n0_ := Aside0.mk (blk_below (g := gb317) (o := .cells #[.bool a0_0, .slice A0_1 l0_1.length c0_1] 37 (0, 0)) (by (with_reducible repeat (first | refine blk_drewN ?_ _ | refine blk_drew ?_ | refine blk_alloc ?_ _)); exact BK317.out) hb)
      have n1_ := Aside0.mk (blk_below (g := gb318) (o := .cells #[.bool a1_0, .slice A1_1 l1_1.length c1_1] 37 (0, 0)) (by (with_reducible repeat (first | refine blk_drewN ?_ _ | refine blk_drew ?_ | refine blk_alloc ?_ _)); exact BK318.out) hb)
      have n2_ := Aside0.mk (below_step (by repeat (first | (with_reducible first | exact HB.out | apply below_alloc | apply pw_below_drewN | apply below_drew1 | refine below_set ?_ GE317.out | refine below_set ?_ GE318.out) | exact HB.out)) hb)
      clear BK317
      clear BK318
      clear HB
      have BK317 := n0_
      have BK318 := n1_
      have HB := n2_
      clear n0_ n1_ n2_
      (try clear hb)
      (try clear hb2)
      (try clear hk)
      (try clear hi)
      refine hK.out _ _ ⟨(blk_cell BK317.out 0).trans rfl, (blk_cell BK317.out 1).trans rfl, (blk_cell BK318.out 0).trans rfl, (blk_cell BK318.out 1).trans rfl⟩ (fun hHeld => ?_)
      clear hK K
      refine norm_ (a' := ?_) ?_ ?_
      rotate_left
      · show Act.put _ (some 6) _ = _
        simp only [Act.put, List.setIfInBounds_toArray, List.set_cons_zero, List.set_cons_succ, i64_w, i32_w]
        rfl
      refine one_ (i := 3) (N := some 8) #[true, true, true, true, false] rfl rfl (by kernel_rfl) (by decide) (fun K hK => ?_)
      refine goes_ Tryz.func47 (by kernel_rfl) rfl #[.agg #[.bool a1_0, .slice A1_1 l1_1.length c1_1]] (by rfl) rfl rfl (by (try simp only [List.map_toArray, List.map_cons, List.map_nil]); first | done | rfl | (simp only [List.length_drop, List.length_take]; rfl)) ?_
      with_reducible refine (spec_Int_Sign.calls a1_0 _ _ l1_1 t320 _ ?side1 ?side2 A4.out).mono ?_
      (case side1 => repeat (first | exact (Kd.C_below HR1_1.out HB.out) | (with_reducible refine Kd.C_alloc ?_ _) | (with_reducible refine Kd.C_drewN ?_ _) | (with_reducible refine Kd.C_drew ?_)))
      (case side2 => exact HC1_1.out)
      rintro e w32 ⟨rfl, hb⟩
      refine ⟨_, rfl, ?_⟩
      have n0_ := Aside0.mk (blk_below (g := gb317) (o := .cells #[.bool a0_0, .slice A0_1 l0_1.length c0_1] 37 (0, 0)) (by (with_reducible repeat (first | refine blk_drewN ?_ _ | refine blk_drew ?_ | refine blk_alloc ?_ _)); exact BK317.out) hb)
      have n1_ := Aside0.mk (blk_below (g := gb318) (o := .cells #[.bool a1_0, .slice A1_1 l1_1.length c1_1] 37 (0, 0)) (by (with_reducible repeat (first | refine blk_drewN ?_ _ | refine blk_drew ?_ | refine blk_alloc ?_ _)); exact BK318.out) hb)
      have n2_ := Aside0.mk (below_step (by repeat (first | (with_reducible first | exact HB.out | apply below_alloc | apply pw_below_drewN | apply below_drew1 | refine below_set ?_ GE317.out | refine below_set ?_ GE318.out) | exact HB.out)) hb)
      clear BK317
      clear BK318
      clear HB
      have BK317 := n0_
      have BK318 := n1_
      have HB := n2_
      clear n0_ n1_ n2_
      (try clear hb)
      (try clear hb2)
      (try clear hk)
      (try clear hi)
      refine hK.out _ _ ⟨(blk_cell BK317.out 0).trans rfl, (blk_cell BK317.out 1).trans rfl, (blk_cell BK318.out 0).trans rfl, (blk_cell BK318.out 1).trans rfl⟩ (fun hHeld => ?_)
      clear hK K
      refine norm_ (a' := ?_) ?_ ?_
      rotate_left
      · show Act.put _ (some 8) _ = _
        simp only [Act.put, List.setIfInBounds_toArray, List.set_cons_zero, List.set_cons_succ, i64_w, i32_w]
        rfl
      refine pure_ (i := 4) (N := some 9) (v := ?_) (a' := ?_) #[true, true, true, true, true] rfl rfl (by kernel_rfl) (fun _ _ _ h => h) (Or.inl ⟨by rfl, ?_⟩) ?_ ?_
      rotate_left
      · intro w'
        go_simp
        with_reducible rfl
      rotate_left
      · simp only [Act.put, List.setIfInBounds_toArray, List.set_cons_zero, List.set_cons_succ, i64_w, i32_w]
        rfl
      refine done_ (by kernel_rfl) ?_
      try go_wp2
      have n0_ := Aside0.mk (blk_drew BK317.out)
      have n1_ := Aside0.mk (blk_drew BK318.out)
      have n2_ := Aside0.mk (below_drew1 HB.out)
      clear BK317
      clear BK318
      clear HB
      have BK317 := n0_
      have BK318 := n1_
      have HB := n2_
      clear n0_ n1_ n2_
      refine start_ (n := 5) (S := fun w' => w'.cell? ⟨gb317, 0, none⟩ = some (.bool a0_0) ∧ w'.cell? ⟨gb317, 1, none⟩ = some (.slice A0_1 l0_1.length c0_1) ∧ w'.cell? ⟨gb318, 0, none⟩ = some (.bool a1_0) ∧ w'.cell? ⟨gb318, 1, none⟩ = some (.slice A1_1 l1_1.length c1_1)) (ds := []) #[false, false, false, false, false] (by kernel_rfl) rfl rfl ⟨(blk_cell BK317.out 0).trans rfl, (blk_cell BK317.out 1).trans rfl, (blk_cell BK318.out 0).trans rfl, (blk_cell BK318.out 1).trans rfl⟩ (fun hHeld => ?_)
      generalize w32.drew = w33 at BK317 BK318 HB hHeld ⊢
      refine take_ (i := 0) (N := some 10) (v := ?_) (a' := ?_) #[true, false, false, false, false] rfl rfl (by kernel_rfl) (fun _ _ _ h => h) (Or.inl ⟨by rfl, ?_⟩) hHeld ?_ ?_
      rotate_left
      · rintro w' ⟨s0, s1, s2, s3⟩
        go_simp
        with_reducible rfl
      rotate_left
      · simp only [Act.put, List.setIfInBounds_toArray, List.set_cons_zero, List.set_cons_succ, i64_w, i32_w]
        rfl
      refine take_ (i := 2) (N := some 12) (v := ?_) (a' := ?_) #[true, false, true, false, false] rfl rfl (by kernel_rfl) (fun _ _ _ h => h) (Or.inl ⟨by rfl, ?_⟩) hHeld ?_ ?_
      rotate_left
      · rintro w' ⟨s0, s1, s2, s3⟩
        go_simp
        with_reducible rfl
      rotate_left
      · simp only [Act.put, List.setIfInBounds_toArray, List.set_cons_zero, List.set_cons_succ, i64_w, i32_w]
        rfl
      refine one_ (i := 1) (N := some 11) #[true, true, true, false, false] rfl rfl (by kernel_rfl) (by decide) (fun K hK => ?_)
      refine goes_ Tryz.func47 (by kernel_rfl) rfl #[.agg #[.bool a0_0, .slice A0_1 l0_1.length c0_1]] (by rfl) rfl rfl (by (try simp only [List.map_toArray, List.map_cons, List.map_nil]); first | done | rfl | (simp only [List.length_drop, List.length_take]; rfl)) ?_
      with_reducible refine (spec_Int_Sign.calls a0_0 _ _ l0_1 t321 _ ?side1 ?side2 A25.out).mono ?_
      (case side1 => repeat (first | exact (Kd.C_below HR0_1.out HB.out) | (with_reducible refine Kd.C_alloc ?_ _) | (with_reducible refine Kd.C_drewN ?_ _) | (with_reducible refine Kd.C_drew ?_)))
      (case side2 => exact HC0_1.out)
      rintro e w34 ⟨rfl, hb⟩
      refine ⟨_, rfl, ?_⟩
      have n0_ := Aside0.mk (blk_below (g := gb317) (o := .cells #[.bool a0_0, .slice A0_1 l0_1.length c0_1] 37 (0, 0)) (by (with_reducible repeat (first | refine blk_drewN ?_ _ | refine blk_drew ?_ | refine blk_alloc ?_ _)); exact BK317.out) hb)
      have n1_ := Aside0.mk (blk_below (g := gb318) (o := .cells #[.bool a1_0, .slice A1_1 l1_1.length c1_1] 37 (0, 0)) (by (with_reducible repeat (first | refine blk_drewN ?_ _ | refine blk_drew ?_ | refine blk_alloc ?_ _)); exact BK318.out) hb)
      have n2_ := Aside0.mk (below_step (by repeat (first | (with_reducible first | exact HB.out | apply below_alloc | apply pw_below_drewN | apply below_drew1 | refine below_set ?_ GE317.out | refine below_set ?_ GE318.out) | exact HB.out)) hb)
      clear BK317
      clear BK318
      clear HB
      have BK317 := n0_
      have BK318 := n1_
      have HB := n2_
      clear n0_ n1_ n2_
      (try clear hb)
      (try clear hb2)
      (try clear hk)
      (try clear hi)
      refine hK.out _ _ ⟨(blk_cell BK317.out 0).trans rfl, (blk_cell BK317.out 1).trans rfl, (blk_cell BK318.out 0).trans rfl, (blk_cell BK318.out 1).trans rfl⟩ (fun hHeld => ?_)
      clear hK K
      refine norm_ (a' := ?_) ?_ ?_
      rotate_left
      · show Act.put _ (some 11) _ = _
        simp only [Act.put, List.setIfInBounds_toArray, List.set_cons_zero, List.set_cons_succ, i64_w, i32_w]
        rfl
      refine one_ (i := 3) (N := some 13) #[true, true, true, true, false] rfl rfl (by kernel_rfl) (by decide) (fun K hK => ?_)
      refine goes_ Tryz.func47 (by kernel_rfl) rfl #[.agg #[.bool a1_0, .slice A1_1 l1_1.length c1_1]] (by rfl) rfl rfl (by (try simp only [List.map_toArray, List.map_cons, List.map_nil]); first | done | rfl | (simp only [List.length_drop, List.length_take]; rfl)) ?_
      with_reducible refine (spec_Int_Sign.calls a1_0 _ _ l1_1 t322 _ ?side1 ?side2 A26.out).mono ?_
      (case side1 => repeat (first | exact (Kd.C_below HR1_1.out HB.out) | (with_reducible refine Kd.C_alloc ?_ _) | (with_reducible refine Kd.C_drewN ?_ _) | (with_reducible refine Kd.C_drew ?_)))
      (case side2 => exact HC1_1.out)
      rintro e w35 ⟨rfl, hb⟩
      refine ⟨_, rfl, ?_⟩
      have n0_ := Aside0.mk (blk_below (g := gb317) (o := .cells #[.bool a0_0, .slice A0_1 l0_1.length c0_1] 37 (0, 0)) (by (with_reducible repeat (first | refine blk_drewN ?_ _ | refine blk_drew ?_ | refine blk_alloc ?_ _)); exact BK317.out) hb)
      have n1_ := Aside0.mk (blk_below (g := gb318) (o := .cells #[.bool a1_0, .slice A1_1 l1_1.length c1_1] 37 (0, 0)) (by (with_reducible repeat (first | refine blk_drewN ?_ _ | refine blk_drew ?_ | refine blk_alloc ?_ _)); exact BK318.out) hb)
      have n2_ := Aside0.mk (below_step (by repeat (first | (with_reducible first | exact HB.out | apply below_alloc | apply pw_below_drewN | apply below_drew1 | refine below_set ?_ GE317.out | refine below_set ?_ GE318.out) | exact HB.out)) hb)
      clear BK317
      clear BK318
      clear HB
      have BK317 := n0_
      have BK318 := n1_
      have HB := n2_
      clear n0_ n1_ n2_
      (try clear hb)
      (try clear hb2)
      (try clear hk)
      (try clear hi)
      refine hK.out _ _ ⟨(blk_cell BK317.out 0).trans rfl, (blk_cell BK317.out 1).trans rfl, (blk_cell BK318.out 0).trans rfl, (blk_cell BK318.out 1).trans rfl⟩ (fun hHeld => ?_)
      clear hK K
      refine norm_ (a' := ?_) ?_ ?_
      rotate_left
      · show Act.put _ (some 13) _ = _
        simp only [Act.put, List.setIfInBounds_toArray, List.set_cons_zero, List.set_cons_succ, i64_w, i32_w]
        rfl
      refine pure_ (i := 4) (N := some 14) (v := ?_) (a' := ?_) #[true, true, true, true, true] rfl rfl (by kernel_rfl) (fun _ _ _ h => h) (Or.inl ⟨by rfl, ?_⟩) ?_ ?_
      rotate_left
      · intro w'
        go_simp
        with_reducible rfl
      rotate_left
      · simp only [Act.put, List.setIfInBounds_toArray, List.set_cons_zero, List.set_cons_succ, i64_w, i32_w]
        rfl
      refine done_ (by kernel_rfl) ?_
      try go_wp2
      go_ret
      exact ⟨by first | rfl | (simp [errW_none, errW_some] <;> rfl) | (simp [*, errW_none, errW_some] <;> rfl), by repeat (first | (with_reducible first | exact HB.out | apply below_alloc | apply pw_below_drewN | apply below_drew1 | refine below_set ?_ GE317.out | refine below_set ?_ GE318.out) | exact HB.out)⟩
    · rw [if_neg c27] at H
      have c27b0 : decide (t321 < t322) = false := decide_eq_false c27
      clear c27
      obtain rfl := Option.some.inj H
      go_enter Tryz.func38, Tryz.ntmps38
      try go_wp2_with (first | ((with_reducible refine gate_dst (N := 2) rfl ?_); refine box_event ?hg (N := 2) ?hd (cs := #[.bool a0_0, .slice A0_1 l0_1.length c0_1]) (t := 37) ?hr ?_; (case hd => rfl); (case hg => rfl); (case hr => first | (go_simp; done) | (go_simp; rfl)); intro gb317 hg w36 hbox hb; have n0_ := Aside0.mk (below_step (by repeat (first | (with_reducible first | exact HB.out | apply below_alloc | apply pw_below_drewN | apply below_drew1) | exact HB.out)) hb); have n1_ := Aside0.mk (hbox); have n2_ := Aside0.mk ((by rw [hg]; exact (below_size (by repeat (first | (with_reducible first | exact HB.out | apply below_alloc | apply pw_below_drewN | apply below_drew1) | exact HB.out))) : w.heap.size ≤ gb317)); have n3_ := Aside0.mk ((by rw [hg]; exact (below_size (by repeat (first | (with_reducible first | exact HB.out | apply below_alloc | apply pw_below_drewN | apply below_drew1) | exact HB.out))) : w.heap.size ≤ gb317)); clear HB; have HB := n0_; have BK317 := n1_; have GW317 := n2_; have GE317 := n3_; clear n0_ n1_ n2_ n3_; clear hb hbox hg) | ((with_reducible refine gate_dst (N := 3) rfl ?_); refine box_event ?hg (N := 3) ?hd (cs := #[.bool a1_0, .slice A1_1 l1_1.length c1_1]) (t := 37) ?hr ?_; (case hd => rfl); (case hg => rfl); (case hr => first | (go_simp; done) | (go_simp; rfl)); intro gb318 hg w37 hbox hb; have n0_ := Aside0.mk (blk_below (g := gb317) (o := .cells #[.bool a0_0, .slice A0_1 l0_1.length c0_1] 37 (0, 0)) (by (with_reducible repeat (first | refine blk_drewN ?_ _ | refine blk_drew ?_ | refine blk_alloc ?_ _)); exact BK317.out) hb); have n1_ := Aside0.mk (below_step (by repeat (first | (with_reducible first | exact HB.out | apply below_alloc | apply pw_below_drewN | apply below_drew1 | refine below_set ?_ GE317.out) | exact HB.out)) hb); have n2_ := Aside0.mk (hbox); have n3_ := Aside0.mk ((by rw [hg]; exact (below_size (by repeat (first | (with_reducible first | exact HB.out | apply below_alloc | apply pw_below_drewN | apply below_drew1 | refine below_set ?_ GE317.out) | exact HB.out))) : w.heap.size ≤ gb318)); have n4_ := Aside0.mk ((by rw [hg]; exact (below_size (by repeat (first | (with_reducible first | exact HB.out | apply below_alloc | apply pw_below_drewN | apply below_drew1 | refine below_set ?_ GE317.out) | exact HB.out))) : w.heap.size ≤ gb318)); have n5_ := Aside0.mk ((by rw [hg]; exact Nat.ne_of_lt (blk_lt (g := gb317) (o := .cells #[.bool a0_0, .slice A0_1 l0_1.length c0_1] 37 (0, 0)) (by (with_reducible repeat (first | refine blk_drewN ?_ _ | refine blk_drew ?_ | refine blk_alloc ?_ _)); exact BK317.out)) : gb317 ≠ gb318)); have n6_ := Aside0.mk ((by rw [hg]; exact Nat.ne_of_gt (blk_lt (g := gb317) (o := .cells #[.bool a0_0, .slice A0_1 l0_1.length c0_1] 37 (0, 0)) (by (with_reducible repeat (first | refine blk_drewN ?_ _ | refine blk_drew ?_ | refine blk_alloc ?_ _)); exact BK317.out)) : gb318 ≠ gb317)); clear BK317; clear HB; have BK317 := n0_; have HB := n1_; have BK318 := n2_; have GW318 := n3_; have GE318 := n4_; have NB317_318 := n5_; have NB318_317 := n6_; clear n0_ n1_ n2_ n3_ n4_ n5_ n6_; clear hb hbox hg))
      have n0_ := Aside0.mk (blk_drew BK317.out)
      have n1_ := Aside0.mk (blk_drew BK318.out)
      have n2_ := Aside0.mk (below_drew1 HB.out)
      clear BK317
      clear BK318
      clear HB
      have BK317 := n0_
      have BK318 := n1_
      have HB := n2_
      clear n0_ n1_ n2_
      refine start_ (n := 5) (S := fun w' => w'.cell? ⟨gb317, 0, none⟩ = some (.bool a0_0) ∧ w'.cell? ⟨gb317, 1, none⟩ = some (.slice A0_1 l0_1.length c0_1) ∧ w'.cell? ⟨gb318, 0, none⟩ = some (.bool a1_0) ∧ w'.cell? ⟨gb318, 1, none⟩ = some (.slice A1_1 l1_1.length c1_1)) (ds := []) #[false, false, false, false, false] (by kernel_rfl) rfl rfl ⟨(blk_cell BK317.out 0).trans rfl, (blk_cell BK317.out 1).trans rfl, (blk_cell BK318.out 0).trans rfl, (blk_cell BK318.out 1).trans rfl⟩ (fun hHeld => ?_)
      generalize w37.drew = w38 at BK317 BK318 HB hHeld ⊢
      refine take_ (i := 0) (N := some 5) (v := ?_) (a' := ?_) #[true, false, false, false, false] rfl rfl (by kernel_rfl) (fun _ _ _ h => h) (Or.inl ⟨by rfl, ?_⟩) hHeld ?_ ?_
      rotate_left
      · rintro w' ⟨s0, s1, s2, s3⟩
        go_simp
        with_reducible rfl
      rotate_left
      · simp only [Act.put, List.setIfInBounds_toArray, List.set_cons_zero, List.set_cons_succ, i64_w, i32_w]
        rfl
      refine take_ (i := 2) (N := some 7) (v := ?_) (a' := ?_) #[true, false, true, false, false] rfl rfl (by kernel_rfl) (fun _ _ _ h => h) (Or.inl ⟨by rfl, ?_⟩) hHeld ?_ ?_
      rotate_left
      · rintro w' ⟨s0, s1, s2, s3⟩
        go_simp
        with_reducible rfl
      rotate_left
      · simp only [Act.put, List.setIfInBounds_toArray, List.set_cons_zero, List.set_cons_succ, i64_w, i32_w]
        rfl
      refine one_ (i := 1) (N := some 6) #[true, true, true, false, false] rfl rfl (by kernel_rfl) (by decide) (fun K hK => ?_)
      refine goes_ Tryz.func47 (by kernel_rfl) rfl #[.agg #[.bool a0_0, .slice A0_1 l0_1.length c0_1]] (by rfl) rfl rfl (by (try simp only [List.map_toArray, List.map_cons, List.map_nil]); first | done | rfl | (simp only [List.length_drop, List.length_take]; rfl)) ?_
      with_reducible refine (spec_Int_Sign.calls a0_0 _ _ l0_1 t319 _ ?side1 ?side2 A3.out).mono ?_
      (case side1 => repeat (first | exact (Kd.C_below HR0_1.out HB.out) | (with_reducible refine Kd.C_alloc ?_ _) | (with_reducible refine Kd.C_drewN ?_ _) | (with_reducible refine Kd.C_drew ?_)))
      (case side2 => exact HC0_1.out)
      rintro e w39 ⟨rfl, hb⟩
      refine ⟨_, rfl, ?_⟩
      have n0_ := Aside0.mk (blk_below (g := gb317) (o := .cells #[.bool a0_0, .slice A0_1 l0_1.length c0_1] 37 (0, 0)) (by (with_reducible repeat (first | refine blk_drewN ?_ _ | refine blk_drew ?_ | refine blk_alloc ?_ _)); exact BK317.out) hb)
      have n1_ := Aside0.mk (blk_below (g := gb318) (o := .cells #[.bool a1_0, .slice A1_1 l1_1.length c1_1] 37 (0, 0)) (by (with_reducible repeat (first | refine blk_drewN ?_ _ | refine blk_drew ?_ | refine blk_alloc ?_ _)); exact BK318.out) hb)
      have n2_ := Aside0.mk (below_step (by repeat (first | (with_reducible first | exact HB.out | apply below_alloc | apply pw_below_drewN | apply below_drew1 | refine below_set ?_ GE317.out | refine below_set ?_ GE318.out) | exact HB.out)) hb)
      clear BK317
      clear BK318
      clear HB
      have BK317 := n0_
      have BK318 := n1_
      have HB := n2_
      clear n0_ n1_ n2_
      (try clear hb)
      (try clear hb2)
      (try clear hk)
      (try clear hi)
      refine hK.out _ _ ⟨(blk_cell BK317.out 0).trans rfl, (blk_cell BK317.out 1).trans rfl, (blk_cell BK318.out 0).trans rfl, (blk_cell BK318.out 1).trans rfl⟩ (fun hHeld => ?_)
      clear hK K
      refine norm_ (a' := ?_) ?_ ?_
      rotate_left
      · show Act.put _ (some 6) _ = _
        simp only [Act.put, List.setIfInBounds_toArray, List.set_cons_zero, List.set_cons_succ, i64_w, i32_w]
        rfl
      refine one_ (i := 3) (N := some 8) #[true, true, true, true, false] rfl rfl (by kernel_rfl) (by decide) (fun K hK => ?_)
      refine goes_ Tryz.func47 (by kernel_rfl) rfl #[.agg #[.bool a1_0, .slice A1_1 l1_1.length c1_1]] (by rfl) rfl rfl (by (try simp only [List.map_toArray, List.map_cons, List.map_nil]); first | done | rfl | (simp only [List.length_drop, List.length_take]; rfl)) ?_
      with_reducible refine (spec_Int_Sign.calls a1_0 _ _ l1_1 t320 _ ?side1 ?side2 A4.out).mono ?_
      (case side1 => repeat (first | exact (Kd.C_below HR1_1.out HB.out) | (with_reducible refine Kd.C_alloc ?_ _) | (with_reducible refine Kd.C_drewN ?_ _) | (with_reducible refine Kd.C_drew ?_)))
      (case side2 => exact HC1_1.out)
      rintro e w40 ⟨rfl, hb⟩
      refine ⟨_, rfl, ?_⟩
      have n0_ := Aside0.mk (blk_below (g := gb317) (o := .cells #[.bool a0_0, .slice A0_1 l0_1.length c0_1] 37 (0, 0)) (by (with_reducible repeat (first | refine blk_drewN ?_ _ | refine blk_drew ?_ | refine blk_alloc ?_ _)); exact BK317.out) hb)
      have n1_ := Aside0.mk (blk_below (g := gb318) (o := .cells #[.bool a1_0, .slice A1_1 l1_1.length c1_1] 37 (0, 0)) (by (with_reducible repeat (first | refine blk_drewN ?_ _ | refine blk_drew ?_ | refine blk_alloc ?_ _)); exact BK318.out) hb)
      have n2_ := Aside0.mk (below_step (by repeat (first | (with_reducible first | exact HB.out | apply below_alloc | apply pw_below_drewN | apply below_drew1 | refine below_set ?_ GE317.out | refine below_set ?_ GE318.out) | exact HB.out)) hb)
      clear BK317
      clear BK318
      clear HB
      have BK317 := n0_
      have BK318 := n1_
      have HB := n2_
      clear n0_ n1_ n2_
      (try clear hb)
      (try clear hb2)
      (try clear hk)
      (try clear hi)
      refine hK.out _ _ ⟨(blk_cell BK317.out 0).trans rfl, (blk_cell BK317.out 1).trans rfl, (blk_cell BK318.out 0).trans rfl, (blk_cell BK318.out 1).trans rfl⟩ (fun hHeld => ?_)
      clear hK K
      refine norm_ (a' := ?_) ?_ ?_
      rotate_left
      · show Act.put _ (some 8) _ = _
        simp only [Act.put, List.setIfInBounds_toArray, List.set_cons_zero, List.set_cons_succ, i64_w, i32_w]
        rfl
      refine pure_ (i := 4) (N := some 9) (v := ?_) (a' := ?_) #[true, true, true, true, true] rfl rfl (by kernel_rfl) (fun _ _ _ h => h) (Or.inl ⟨by rfl, ?_⟩) ?_ ?_
      rotate_left
      · intro w'
        go_simp
        with_reducible rfl
      rotate_left
      · simp only [Act.put, List.setIfInBounds_toArray, List.set_cons_zero, List.set_cons_succ, i64_w, i32_w]
        rfl
      refine done_ (by kernel_rfl) ?_
      try go_wp2
      have n0_ := Aside0.mk (blk_drew BK317.out)
      have n1_ := Aside0.mk (blk_drew BK318.out)
      have n2_ := Aside0.mk (below_drew1 HB.out)
      clear BK317
      clear BK318
      clear HB
      have BK317 := n0_
      have BK318 := n1_
      have HB := n2_
      clear n0_ n1_ n2_
      refine start_ (n := 5) (S := fun w' => w'.cell? ⟨gb317, 0, none⟩ = some (.bool a0_0) ∧ w'.cell? ⟨gb317, 1, none⟩ = some (.slice A0_1 l0_1.length c0_1) ∧ w'.cell? ⟨gb318, 0, none⟩ = some (.bool a1_0) ∧ w'.cell? ⟨gb318, 1, none⟩ = some (.slice A1_1 l1_1.length c1_1)) (ds := []) #[false, false, false, false, false] (by kernel_rfl) rfl rfl ⟨(blk_cell BK317.out 0).trans rfl, (blk_cell BK317.out 1).trans rfl, (blk_cell BK318.out 0).trans rfl, (blk_cell BK318.out 1).trans rfl⟩ (fun hHeld => ?_)
      generalize w40.drew = w41 at BK317 BK318 HB hHeld ⊢
      refine take_ (i := 0) (N := some 10) (v := ?_) (a' := ?_) #[true, false, false, false, false] rfl rfl (by kernel_rfl) (fun _ _ _ h => h) (Or.inl ⟨by rfl, ?_⟩) hHeld ?_ ?_
      rotate_left
      · rintro w' ⟨s0, s1, s2, s3⟩
        go_simp
        with_reducible rfl
      rotate_left
      · simp only [Act.put, List.setIfInBounds_toArray, List.set_cons_zero, List.set_cons_succ, i64_w, i32_w]
        rfl
      refine take_ (i := 2) (N := some 12) (v := ?_) (a' := ?_) #[true, false, true, false, false] rfl rfl (by kernel_rfl) (fun _ _ _ h => h) (Or.inl ⟨by rfl, ?_⟩) hHeld ?_ ?_
      rotate_left
      · rintro w' ⟨s0, s1, s2, s3⟩
        go_simp
        with_reducible rfl
      rotate_left
      · simp only [Act.put, List.setIfInBounds_toArray, List.set_cons_zero, List.set_cons_succ, i64_w, i32_w]
        rfl
      refine one_ (i := 1) (N := some 11) #[true, true, true, false, false] rfl rfl (by kernel_rfl) (by decide) (fun K hK => ?_)
      refine goes_ Tryz.func47 (by kernel_rfl) rfl #[.agg #[.bool a0_0, .slice A0_1 l0_1.length c0_1]] (by rfl) rfl rfl (by (try simp only [List.map_toArray, List.map_cons, List.map_nil]); first | done | rfl | (simp only [List.length_drop, List.length_take]; rfl)) ?_
      with_reducible refine (spec_Int_Sign.calls a0_0 _ _ l0_1 t321 _ ?side1 ?side2 A25.out).mono ?_
      (case side1 => repeat (first | exact (Kd.C_below HR0_1.out HB.out) | (with_reducible refine Kd.C_alloc ?_ _) | (with_reducible refine Kd.C_drewN ?_ _) | (with_reducible refine Kd.C_drew ?_)))
      (case side2 => exact HC0_1.out)
      rintro e w42 ⟨rfl, hb⟩
      refine ⟨_, rfl, ?_⟩
      have n0_ := Aside0.mk (blk_below (g := gb317) (o := .cells #[.bool a0_0, .slice A0_1 l0_1.length c0_1] 37 (0, 0)) (by (with_reducible repeat (first | refine blk_drewN ?_ _ | refine blk_drew ?_ | refine blk_alloc ?_ _)); exact BK317.out) hb)
      have n1_ := Aside0.mk (blk_below (g := gb318) (o := .cells #[.bool a1_0, .slice A1_1 l1_1.length c1_1] 37 (0, 0)) (by (with_reducible repeat (first | refine blk_drewN ?_ _ | refine blk_drew ?_ | refine blk_alloc ?_ _)); exact BK318.out) hb)
      have n2_ := Aside0.mk (below_step (by repeat (first | (with_reducible first | exact HB.out | apply below_alloc | apply pw_below_drewN | apply below_drew1 | refine below_set ?_ GE317.out | refine below_set ?_ GE318.out) | exact HB.out)) hb)
      clear BK317
      clear BK318
      clear HB
      have BK317 := n0_
      have BK318 := n1_
      have HB := n2_
      clear n0_ n1_ n2_
      (try clear hb)
      (try clear hb2)
      (try clear hk)
      (try clear hi)
      refine hK.out _ _ ⟨(blk_cell BK317.out 0).trans rfl, (blk_cell BK317.out 1).trans rfl, (blk_cell BK318.out 0).trans rfl, (blk_cell BK318.out 1).trans rfl⟩ (fun hHeld => ?_)
      clear hK K
      refine norm_ (a' := ?_) ?_ ?_
      rotate_left
      · show Act.put _ (some 11) _ = _
        simp only [Act.put, List.setIfInBounds_toArray, List.set_cons_zero, List.set_cons_succ, i64_w, i32_w]
        rfl
      refine one_ (i := 3) (N := some 13) #[true, true, true, true, false] rfl rfl (by kernel_rfl) (by decide) (fun K hK => ?_)
      refine goes_ Tryz.func47 (by kernel_rfl) rfl #[.agg #[.bool a1_0, .slice A1_1 l1_1.length c1_1]] (by rfl) rfl rfl (by (try simp only [List.map_toArray, List.map_cons, List.map_nil]); first | done | rfl | (simp only [List.length_drop, List.length_take]; rfl)) ?_
      with_reducible refine (spec_Int_Sign.calls a1_0 _ _ l1_1 t322 _ ?side1 ?side2 A26.out).mono ?_
      (case side1 => repeat (first | exact (Kd.C_below HR1_1.out HB.out) | (with_reducible refine Kd.C_alloc ?_ _) | (with_reducible refine Kd.C_drewN ?_ _) | (with_reducible refine Kd.C_drew ?_)))
      (case side2 => exact HC1_1.out)
      rintro e w43 ⟨rfl, hb⟩
      refine ⟨_, rfl, ?_⟩
      have n0_ := Aside0.mk (blk_below (g := gb317) (o := .cells #[.bool a0_0, .slice A0_1 l0_1.length c0_1] 37 (0, 0)) (by (with_reducible repeat (first | refine blk_drewN ?_ _ | refine blk_drew ?_ | refine blk_alloc ?_ _)); exact BK317.out) hb)
      have n1_ := Aside0.mk (blk_below (g := gb318) (o := .cells #[.bool a1_0, .slice A1_1 l1_1.length c1_1] 37 (0, 0)) (by (with_reducible repeat (first | refine blk_drewN ?_ _ | refine blk_drew ?_ | refine blk_alloc ?_ _)); exact BK318.out) hb)
      have n2_ := Aside0.mk (below_step (by repeat (first | (with_reducible first | exact HB.out | apply below_alloc | apply pw_below_drewN | apply below_drew1 | refine below_set ?_ GE317.out | refine below_set ?_ GE318.out) | exact HB.out)) hb)
      clear BK317
      clear BK318
      clear HB
      have BK317 := n0_
      have BK318 := n1_
      have HB := n2_
      clear n0_ n1_ n2_
      (try clear hb)
      (try clear hb2)
      (try clear hk)
      (try clear hi)
      refine hK.out _ _ ⟨(blk_cell BK317.out 0).trans rfl, (blk_cell BK317.out 1).trans rfl, (blk_cell BK318.out 0).trans rfl, (blk_cell BK318.out 1).trans rfl⟩ (fun hHeld => ?_)
      clear hK K
      refine norm_ (a' := ?_) ?_ ?_
      rotate_left
      · show Act.put _ (some 13) _ = _
        simp only [Act.put, List.setIfInBounds_toArray, List.set_cons_zero, List.set_cons_succ, i64_w, i32_w]
        rfl
      refine pure_ (i := 4) (N := some 14) (v := ?_) (a' := ?_) #[true, true, true, true, true] rfl rfl (by kernel_rfl) (fun _ _ _ h => h) (Or.inl ⟨by rfl, ?_⟩) ?_ ?_
      rotate_left
      · intro w'
        go_simp
        with_reducible rfl
      rotate_left
      · simp only [Act.put, List.setIfInBounds_toArray, List.set_cons_zero, List.set_cons_succ, i64_w, i32_w]
        rfl
      refine done_ (by kernel_rfl) ?_
      try go_wp2
      go_ret
      exact ⟨by first | rfl | (simp [errW_none, errW_some] <;> rfl) | (simp [*, errW_none, errW_some] <;> rfl), by repeat (first | (with_reducible first | exact HB.out | apply below_alloc | apply pw_below_drewN | apply below_drew1 | refine below_set ?_ GE317.out | refine below_set ?_ GE318.out) | exact HB.out)⟩
def spec_Int_low.l0 : Nat → Int → Int → Bool → List Int → Option (Int)
  | 0, _, _, _, _ => none
  | k + 1, x3, x4, x326000, x326001 => if x4 ≥ 0 then ((spec_digit.f x326001 x4).bind fun t326 => (spec_Int_low.l0 k (Go.bits .or .u64 (IntKind.u64.wrap (x3 * 256)) (IntKind.u64.wrap (t326))) (wrap64 (x4 - 1)) x326000 x326001)) else (some x3)
def spec_Int_low.f (k : Nat) (a0_0 : Bool) (l0_1 : List Int) : Option (Int) := spec_Int_low.l0 k 0 7 a0_0 l0_1
set_option maxHeartbeats 8000000 in
set_option maxRecDepth 100000 in
theorem spec_Int_low.calls (k : Nat) (a0_0 : Bool) (A0_1 : Option Addr) (c0_1 : Nat) (l0_1 : List Int) (r : Int) (w : World) (hr0_1 : Kd.C (Kd.int .u8) w A0_1 l0_1.length l0_1) (hc0_1 : l0_1.length ≤ c0_1) (h : spec_Int_low.f k a0_0 l0_1 = some r) :
    Calls Tryz.prog 39 #[.agg #[.bool a0_0, .slice A0_1 l0_1.length c0_1]] w fun e w' => e = .returned (.int .u64 r) ∧ Below w.heap.size w w' := by
  have hu37 := Tryz.underlying37
  have HR0_1 := Aside0.mk hr0_1
  have HC0_1 := Aside0.mk hc0_1
  clear hr0_1 hc0_1
  have HB := Aside0.mk (Below.refl w.heap.size w)
  have H : (spec_Int_low.l0 k 0 7 a0_0 l0_1) = some r := h
  clear h
  have H' := Aside0.mk H
  clear H
  go_enter Tryz.func39, Tryz.ntmps39
  go_wp2_with (first | ((with_reducible refine gate_dst (N := 1) rfl ?_); refine box_event ?hg (N := 1) ?hd (cs := #[.bool a0_0, .slice A0_1 l0_1.length c0_1]) (t := 37) ?hr ?_; (case hd => rfl); (case hg => rfl); (case hr => first | (go_simp; done) | (go_simp; rfl)); intro gb325 hg w2 hbox hb; have n0_ := Aside0.mk (below_step (by repeat (first | (with_reducible first | exact HB.out | apply below_alloc | apply pw_below_drewN | apply below_drew1) | exact HB.out)) hb); have n1_ := Aside0.mk (hbox); have n2_ := Aside0.mk ((by rw [hg]; exact (below_size (by repeat (first | (with_reducible first | exact HB.out | apply below_alloc | apply pw_below_drewN | apply below_drew1) | exact HB.out))) : w.heap.size ≤ gb325)); have n3_ := Aside0.mk ((by rw [hg]; exact (below_size (by repeat (first | (with_reducible first | exact HB.out | apply below_alloc | apply pw_below_drewN | apply below_drew1) | exact HB.out))) : w.heap.size ≤ gb325)); clear HB; have HB := n0_; have BK325 := n1_; have GW325 := n2_; have GE325 := n3_; clear n0_ n1_ n2_ n3_; clear hb hbox hg))
  go_loopg [3, 4] k (fun kq v3 v4 w' => ∃ (x3_1 : Int) (x4_1 : Int), v3 = .int .u64 x3_1 ∧ v4 = .int .i64 x4_1 ∧ Aside0 (spec_Int_low.l0 kq x3_1 x4_1 a0_0 l0_1 = some r) ∧ Aside0 (kq ≤ k) ∧ Aside0 (w'.heap[gb325]? = some (.cells #[.bool a0_0, (.slice A0_1 l0_1.length c0_1)] 37 (0, 0))) ∧ Aside0 (Below w.heap.size w w'))
  case atStart => exact ⟨(0), (7), (by first | rfl | (simp; done) | (simp [*]; done)), (by first | rfl | (simp; done) | (simp [*]; done)), H', ⟨Nat.le_refl _⟩, ⟨by (with_reducible repeat (first | refine blk_drewN ?_ _ | refine blk_drew ?_ | refine blk_alloc ?_ _)); exact BK325.out⟩, ⟨by repeat (first | (with_reducible first | exact HB.out | apply below_alloc | apply pw_below_drewN | apply below_drew1 | refine below_set ?_ GE325.out) | exact HB.out)⟩⟩
  case round =>
    clear H'
    try clear p2
    obtain ⟨x3_1, x4_1, rfl, rfl, HA, HK1, BK325, HB⟩ := hrel
    cases gk with
    | zero => exact absurd HA.out (by simp [spec_Int_low.l0])
    | succ k1 =>
      have H := HA.out
      clear HA
      simp only [spec_Int_low.l0] at H
      by_cases c3 : x4_1 ≥ 0
      · rw [if_pos c3] at H
        have c3b0 : decide (0 ≤ x4_1) = true := decide_eq_true c3
        clear c3
        replace H := Option.bind_eq_some_iff.mp H
        obtain ⟨t326, A40, H⟩ := H
        replace H : (spec_Int_low.l0 k1 (Go.bits .or .u64 (IntKind.u64.wrap (x3_1 * 256)) (IntKind.u64.wrap (t326))) (wrap64 (x4_1 - 1)) a0_0 l0_1) = some r := H
        have A4 := Aside0.mk A40
        clear A40
        have H' := Aside0.mk H
        clear H
        have hcz5_0 : wr.cell? ⟨gb325, 0, none⟩ = some (.bool a0_0) := (blk_cell BK325.out 0).trans rfl
        have hcz5_1 : wr.cell? ⟨gb325, 1, none⟩ = some (.slice A0_1 l0_1.length c0_1) := (blk_cell BK325.out 1).trans rfl
        have hfz5_0 := blk_frozen BK325.out 0
        have hfz5_1 := blk_frozen BK325.out 1
        go_wp2_with (first | ((with_reducible refine gate_callee (f := 35) rfl ?_); refine goesL_ (some 14) rfl rfl Tryz.func35 (by kernel_rfl) rfl #[.slice A0_1 l0_1.length c0_1, .int .i64 x4_1] rfl (by (try simp only [List.map_toArray, List.map_cons, List.map_nil]); first | done | rfl | (simp only [List.length_drop, List.length_take]; rfl)) ?_; (with_reducible refine (spec_digit.calls _ _ l0_1 x4_1 t326 _ ?side1 ?side2 A4.out).mono ?_); (case side1 => repeat (first | exact (Kd.C_below HR0_1.out HB.out) | (with_reducible refine Kd.C_alloc ?_ _) | (with_reducible refine Kd.C_drewN ?_ _) | (with_reducible refine Kd.C_drew ?_))); (case side2 => exact HC0_1.out); rintro e w' ⟨rfl, ⟨nd, rfl⟩⟩; refine ⟨_, rfl, ?_⟩))
        go_roundg k1
        case measure => have := HK1.out; omega
        case rel => exact ⟨(Go.bits .or .u64 (IntKind.u64.wrap (x3_1 * 256)) (IntKind.u64.wrap (t326))), (wrap64 (x4_1 - 1)), (by first | rfl | (simp; done) | (simp [*]; done)), (by first | rfl | (simp; done) | (simp [*]; done)), H', ⟨by have := HK1.out; omega⟩, ⟨by (with_reducible repeat (first | refine blk_drewN ?_ _ | refine blk_drew ?_ | refine blk_alloc ?_ _)); exact BK325.out⟩, ⟨by repeat (first | (with_reducible first | exact HB.out | apply below_alloc | apply pw_below_drewN | apply below_drew1 | refine below_set ?_ GE325.out) | exact HB.out)⟩⟩
      · rw [if_neg c3] at H
        have c3b0 : decide (0 ≤ x4_1) = false := decide_eq_false c3
        clear c3
        obtain rfl := Option.some.inj H
        go_wp2
        go_ret
        exact ⟨by first | rfl | (simp [errW_none, errW_some] <;> rfl) | (simp [*, errW_none, errW_some] <;> rfl), by repeat (first | (with_reducible first | exact HB.out | apply below_alloc | apply pw_below_drewN | apply below_drew1 | refine below_set ?_ GE325.out) | exact HB.out)⟩
end Go.Proofs.YtdbjoiojiibdgaaGreatDoor.PFixed
namespace Go.Proofs.YtdbjoiojiibdgaaGreatDoor.PFixed
open Go.RowKit Go.Proofs.YtdbjoiojiibdgaaGreatDoorW.PrintWords Go.Proofs.YtdbjoiojiibdgaaGreatDoorW.PrintLast Go.Proofs.YtdbjoiojiibdgaaGreatDoorW.PrintMore
attribute [local go_sem] max2_int min2_int max_two min_two max_three min_three max_four min_four
set_option linter.unusedVariables false
set_option linter.unusedSimpArgs false
def spec_near.j0 : Nat → Bool → Bool → List Int → Option (Bool × List Int)
  | 0, _, _, _ => none
  | k + 1, x30, x339000, x339001 => if x30 = true then ((spec_Small.f k 1).bind fun bt346 => ((spec_Int_Add.f k x339000 x339001 bt346.1 bt346.2).bind fun bt350 => (some (bt350.1, bt350.2)))) else (some (x339000, x339001))
def spec_near.f (k : Nat) (a0_0 : Bool) (l0_1 : List Int) (a1_0 : Bool) (l1_1 : List Int) : Option (Bool × List Int) := (spec_Int_Floor.f k a0_0 l0_1 a1_0 l1_1).bind fun bt330 => ((spec_Int_Add.f k bt330.2.2.1 bt330.2.2.2 bt330.2.2.1 bt330.2.2.2).bind fun bt340 => ((spec_Int_Cmp.f k bt340.1 bt340.2 a1_0 l1_1).bind fun t344 => (if t344 > 0 then (spec_near.j0 k true bt330.1 bt330.2.1) else (if t344 = 0 then ((spec_Int_low.f k bt330.1 bt330.2.1).bind fun t345 => (spec_near.j0 k ((Go.bits .and .u64 t345 1) == 1) bt330.1 bt330.2.1)) else (spec_near.j0 k false bt330.1 bt330.2.1)))))
set_option maxHeartbeats 8000000 in
set_option maxRecDepth 100000 in
theorem spec_near.calls (k : Nat) (a0_0 : Bool) (A0_1 : Option Addr) (c0_1 : Nat) (l0_1 : List Int) (a1_0 : Bool) (A1_1 : Option Addr) (c1_1 : Nat) (l1_1 : List Int) (r1 : Bool) (r2 : List Int) (w : World) (hr0_1 : Kd.C (Kd.int .u8) w A0_1 l0_1.length l0_1) (hc0_1 : l0_1.length ≤ c0_1) (hr1_1 : Kd.C (Kd.int .u8) w A1_1 l1_1.length l1_1) (hc1_1 : l1_1.length ≤ c1_1) (h : spec_near.f k a0_0 l0_1 a1_0 l1_1 = some (r1, r2)) :
    Calls Tryz.prog 26 #[.agg #[.bool a0_0, .slice A0_1 l0_1.length c0_1], .agg #[.bool a1_0, .slice A1_1 l1_1.length c1_1]] w fun e w' => ∃ v1_ : Value, e = .returned (.agg #[.bool r1, v1_]) ∧ Kd.R (Kd.int .u8) 5 w' w.heap.size (fun _ => True) v1_ r2 ∧ Below w.heap.size w w' := by
  have hu37 := Tryz.underlying37
  have HR0_1 := Aside0.mk hr0_1
  have HC0_1 := Aside0.mk hc0_1
  clear hr0_1 hc0_1
  have HR1_1 := Aside0.mk hr1_1
  have HC1_1 := Aside0.mk hc1_1
  clear hr1_1 hc1_1
  have HB := Aside0.mk (Below.refl w.heap.size w)
  have H : ((spec_Int_Floor.f k a0_0 l0_1 a1_0 l1_1).bind fun bt330 => ((spec_Int_Add.f k bt330.2.2.1 bt330.2.2.2 bt330.2.2.1 bt330.2.2.2).bind fun bt340 => ((spec_Int_Cmp.f k bt340.1 bt340.2 a1_0 l1_1).bind fun t344 => (if t344 > 0 then (spec_near.j0 k true bt330.1 bt330.2.1) else (if t344 = 0 then ((spec_Int_low.f k bt330.1 bt330.2.1).bind fun t345 => (spec_near.j0 k ((Go.bits .and .u64 t345 1) == 1) bt330.1 bt330.2.1)) else (spec_near.j0 k false bt330.1 bt330.2.1)))))) = some (r1, r2) := h
  clear h
  replace H := Option.bind_eq_some_iff.mp H
  obtain ⟨⟨t330, t331, t334, t335⟩, A30, H⟩ := H
  replace H : ((spec_Int_Add.f k t334 t335 t334 t335).bind fun bt340 => ((spec_Int_Cmp.f k bt340.1 bt340.2 a1_0 l1_1).bind fun t344 => (if t344 > 0 then (spec_near.j0 k true t330 t331) else (if t344 = 0 then ((spec_Int_low.f k t330 t331).bind fun t345 => (spec_near.j0 k ((Go.bits .and .u64 t345 1) == 1) t330 t331)) else (spec_near.j0 k false t330 t331))))) = some (r1, r2) := H
  have A3 := Aside0.mk A30
  clear A30
  replace H := Option.bind_eq_some_iff.mp H
  obtain ⟨⟨t340, t341⟩, A40, H⟩ := H
  replace H : ((spec_Int_Cmp.f k t340 t341 a1_0 l1_1).bind fun t344 => (if t344 > 0 then (spec_near.j0 k true t330 t331) else (if t344 = 0 then ((spec_Int_low.f k t330 t331).bind fun t345 => (spec_near.j0 k ((Go.bits .and .u64 t345 1) == 1) t330 t331)) else (spec_near.j0 k false t330 t331)))) = some (r1, r2) := H
  have A4 := Aside0.mk A40
  clear A40
  replace H := Option.bind_eq_some_iff.mp H
  obtain ⟨t344, A50, H⟩ := H
  replace H : (if t344 > 0 then (spec_near.j0 k true t330 t331) else (if t344 = 0 then ((spec_Int_low.f k t330 t331).bind fun t345 => (spec_near.j0 k ((Go.bits .and .u64 t345 1) == 1) t330 t331)) else (spec_near.j0 k false t330 t331))) = some (r1, r2) := H
  have A5 := Aside0.mk A50
  clear A50
  have HC6 := Aside0.mk H
  clear H
  go_enter Tryz.func26, Tryz.ntmps26
  try go_wp2_with (first | ((with_reducible refine gate_dst (N := 2) rfl ?_); refine box_event ?hg (N := 2) ?hd (cs := #[.bool a0_0, .slice A0_1 l0_1.length c0_1]) (t := 37) ?hr ?_; (case hd => rfl); (case hg => rfl); (case hr => first | (go_simp; done) | (go_simp; rfl)); intro gb327 hg w7 hbox hb; have n0_ := Aside0.mk (below_step (by repeat (first | (with_reducible first | exact HB.out | apply below_alloc | apply pw_below_drewN | apply below_drew1) | exact HB.out)) hb); have n1_ := Aside0.mk (hbox); have n2_ := Aside0.mk ((by rw [hg]; exact (below_size (by repeat (first | (with_reducible first | exact HB.out | apply below_alloc | apply pw_below_drewN | apply below_drew1) | exact HB.out))) : w.heap.size ≤ gb327)); have n3_ := Aside0.mk ((by rw [hg]; exact (below_size (by repeat (first | (with_reducible first | exact HB.out | apply below_alloc | apply pw_below_drewN | apply below_drew1) | exact HB.out))) : w.heap.size ≤ gb327)); clear HB; have HB := n0_; have BK327 := n1_; have GW327 := n2_; have GE327 := n3_; clear n0_ n1_ n2_ n3_; clear hb hbox hg) | ((with_reducible refine gate_dst (N := 3) rfl ?_); refine box_event ?hg (N := 3) ?hd (cs := #[.bool a1_0, .slice A1_1 l1_1.length c1_1]) (t := 37) ?hr ?_; (case hd => rfl); (case hg => rfl); (case hr => first | (go_simp; done) | (go_simp; rfl)); intro gb328 hg w8 hbox hb; have n0_ := Aside0.mk (blk_below (g := gb327) (o := .cells #[.bool a0_0, .slice A0_1 l0_1.length c0_1] 37 (0, 0)) (by (with_reducible repeat (first | refine blk_drewN ?_ _ | refine blk_drew ?_ | refine blk_alloc ?_ _)); exact BK327.out) hb); have n1_ := Aside0.mk (below_step (by repeat (first | (with_reducible first | exact HB.out | apply below_alloc | apply pw_below_drewN | apply below_drew1 | refine below_set ?_ GE327.out) | exact HB.out)) hb); have n2_ := Aside0.mk (hbox); have n3_ := Aside0.mk ((by rw [hg]; exact (below_size (by repeat (first | (with_reducible first | exact HB.out | apply below_alloc | apply pw_below_drewN | apply below_drew1 | refine below_set ?_ GE327.out) | exact HB.out))) : w.heap.size ≤ gb328)); have n4_ := Aside0.mk ((by rw [hg]; exact (below_size (by repeat (first | (with_reducible first | exact HB.out | apply below_alloc | apply pw_below_drewN | apply below_drew1 | refine below_set ?_ GE327.out) | exact HB.out))) : w.heap.size ≤ gb328)); have n5_ := Aside0.mk ((by rw [hg]; exact Nat.ne_of_lt (blk_lt (g := gb327) (o := .cells #[.bool a0_0, .slice A0_1 l0_1.length c0_1] 37 (0, 0)) (by (with_reducible repeat (first | refine blk_drewN ?_ _ | refine blk_drew ?_ | refine blk_alloc ?_ _)); exact BK327.out)) : gb327 ≠ gb328)); have n6_ := Aside0.mk ((by rw [hg]; exact Nat.ne_of_gt (blk_lt (g := gb327) (o := .cells #[.bool a0_0, .slice A0_1 l0_1.length c0_1] 37 (0, 0)) (by (with_reducible repeat (first | refine blk_drewN ?_ _ | refine blk_drew ?_ | refine blk_alloc ?_ _)); exact BK327.out)) : gb328 ≠ gb327)); clear BK327; clear HB; have BK327 := n0_; have HB := n1_; have BK328 := n2_; have GW328 := n3_; have GE328 := n4_; have NB327_328 := n5_; have NB328_327 := n6_; clear n0_ n1_ n2_ n3_ n4_ n5_ n6_; clear hb hbox hg) | ((with_reducible refine gate_dst (N := 4) rfl ?_); refine box_event ?hg (N := 4) ?hd (cs := #[.bool false, .slice none 0 0]) (t := 37) ?hr ?_; (case hd => rfl); (case hg => rfl); (case hr => first | (go_simp; done) | (go_simp; rfl)); intro gb329 hg w9 hbox hb; have n0_ := Aside0.mk (blk_below (g := gb327) (o := .cells #[.bool a0_0, .slice A0_1 l0_1.length c0_1] 37 (0, 0)) (by (with_reducible repeat (first | refine blk_drewN ?_ _ | refine blk_drew ?_ | refine blk_alloc ?_ _)); exact BK327.out) hb); have n1_ := Aside0.mk (blk_below (g := gb328) (o := .cells #[.bool a1_0, .slice A1_1 l1_1.length c1_1] 37 (0, 0)) (by (with_reducible repeat (first | refine blk_drewN ?_ _ | refine blk_drew ?_ | refine blk_alloc ?_ _)); exact BK328.out) hb); have n2_ := Aside0.mk (below_step (by repeat (first | (with_reducible first | exact HB.out | apply below_alloc | apply pw_below_drewN | apply below_drew1 | refine below_set ?_ GE327.out | refine below_set ?_ GE328.out) | exact HB.out)) hb); have n3_ := Aside0.mk (hbox); have n4_ := Aside0.mk ((by rw [hg]; exact (below_size (by repeat (first | (with_reducible first | exact HB.out | apply below_alloc | apply pw_below_drewN | apply below_drew1 | refine below_set ?_ GE327.out | refine below_set ?_ GE328.out) | exact HB.out))) : w.heap.size ≤ gb329)); have n5_ := Aside0.mk ((by rw [hg]; exact (below_size (by repeat (first | (with_reducible first | exact HB.out | apply below_alloc | apply pw_below_drewN | apply below_drew1 | refine below_set ?_ GE327.out | refine below_set ?_ GE328.out) | exact HB.out))) : w.heap.size ≤ gb329)); have n6_ := Aside0.mk ((by rw [hg]; exact Nat.ne_of_lt (blk_lt (g := gb327) (o := .cells #[.bool a0_0, .slice A0_1 l0_1.length c0_1] 37 (0, 0)) (by (with_reducible repeat (first | refine blk_drewN ?_ _ | refine blk_drew ?_ | refine blk_alloc ?_ _)); exact BK327.out)) : gb327 ≠ gb329)); have n7_ := Aside0.mk ((by rw [hg]; exact Nat.ne_of_gt (blk_lt (g := gb327) (o := .cells #[.bool a0_0, .slice A0_1 l0_1.length c0_1] 37 (0, 0)) (by (with_reducible repeat (first | refine blk_drewN ?_ _ | refine blk_drew ?_ | refine blk_alloc ?_ _)); exact BK327.out)) : gb329 ≠ gb327)); have n8_ := Aside0.mk ((by rw [hg]; exact Nat.ne_of_lt (blk_lt (g := gb328) (o := .cells #[.bool a1_0, .slice A1_1 l1_1.length c1_1] 37 (0, 0)) (by (with_reducible repeat (first | refine blk_drewN ?_ _ | refine blk_drew ?_ | refine blk_alloc ?_ _)); exact BK328.out)) : gb328 ≠ gb329)); have n9_ := Aside0.mk ((by rw [hg]; exact Nat.ne_of_gt (blk_lt (g := gb328) (o := .cells #[.bool a1_0, .slice A1_1 l1_1.length c1_1] 37 (0, 0)) (by (with_reducible repeat (first | refine blk_drewN ?_ _ | refine blk_drew ?_ | refine blk_alloc ?_ _)); exact BK328.out)) : gb329 ≠ gb328)); clear BK327; clear BK328; clear HB; have BK327 := n0_; have BK328 := n1_; have HB := n2_; have BK329 := n3_; have GW329 := n4_; have GE329 := n5_; have NB327_329 := n6_; have NB329_327 := n7_; have NB328_329 := n8_; have NB329_328 := n9_; clear n0_ n1_ n2_ n3_ n4_ n5_ n6_ n7_ n8_ n9_; clear hb hbox hg; have hnb10 := NB327_328.out; have hnc10 := NB328_327.out; have hnb11 := NB327_329.out; have hnc11 := NB329_327.out; have hcz12_0 : w9.cell? ⟨gb327, 0, none⟩ = some (.bool a0_0) := (blk_cell BK327.out 0).trans rfl; have hcz12_1 : w9.cell? ⟨gb327, 1, none⟩ = some (.slice A0_1 l0_1.length c0_1) := (blk_cell BK327.out 1).trans rfl; have hfz12_0 := blk_frozen BK327.out 0; have hfz12_1 := blk_frozen BK327.out 1; have hnb13 := NB328_329.out; have hnc13 := NB329_328.out; have hcz14_0 : w9.cell? ⟨gb328, 0, none⟩ = some (.bool a1_0) := (blk_cell BK328.out 0).trans rfl; have hcz14_1 : w9.cell? ⟨gb328, 1, none⟩ = some (.slice A1_1 l1_1.length c1_1) := (blk_cell BK328.out 1).trans rfl; have hfz14_0 := blk_frozen BK328.out 0; have hfz14_1 := blk_frozen BK328.out 1) | ((with_reducible refine gate_callee (f := 36) rfl ?_); refine goesL_ (some 11) rfl rfl Tryz.func36 (by kernel_rfl) rfl #[.agg #[.bool a0_0, .slice A0_1 l0_1.length c0_1], .agg #[.bool a1_0, .slice A1_1 l1_1.length c1_1]] rfl (by (try simp only [List.map_toArray, List.map_cons, List.map_nil]); first | done | rfl | (simp only [List.length_drop, List.length_take]; rfl)) ?_; (with_reducible refine (spec_Int_Floor.calls k a0_0 _ _ l0_1 a1_0 _ _ l1_1 t330 t331 t334 t335 _ ?side1 ?side2 ?side3 ?side4 A3.out).mono ?_); (case side1 => repeat (first | exact (Kd.C_below HR0_1.out HB.out) | (with_reducible refine Kd.C_alloc ?_ _) | (with_reducible refine Kd.C_drewN ?_ _) | (with_reducible refine Kd.C_drew ?_))); (case side2 => exact HC0_1.out); (case side3 => repeat (first | exact (Kd.C_below HR1_1.out HB.out) | (with_reducible refine Kd.C_alloc ?_ _) | (with_reducible refine Kd.C_drewN ?_ _) | (with_reducible refine Kd.C_drew ?_))); (case side4 => exact HC1_1.out); rintro e w15 ⟨v332, v336, rfl, ho0, ho1, hb⟩; refine ⟨_, rfl, ?_⟩; have n0_ := Aside0.mk (Kd.R_lower ho0 (below_size (by repeat (first | (with_reducible first | exact HB.out | apply below_alloc | apply pw_below_drewN | apply below_drew1 | refine below_set ?_ GE327.out | refine below_set ?_ GE328.out | refine below_set ?_ GE329.out) | exact HB.out)))); have n1_ := Aside0.mk (Kd.R_lower ho1 (below_size (by repeat (first | (with_reducible first | exact HB.out | apply below_alloc | apply pw_below_drewN | apply below_drew1 | refine below_set ?_ GE327.out | refine below_set ?_ GE328.out | refine below_set ?_ GE329.out) | exact HB.out)))); have n2_ := Aside0.mk (blk_below (g := gb327) (o := .cells #[.bool a0_0, .slice A0_1 l0_1.length c0_1] 37 (0, 0)) (by (with_reducible repeat (first | refine blk_drewN ?_ _ | refine blk_drew ?_ | refine blk_alloc ?_ _)); exact BK327.out) hb); have n3_ := Aside0.mk (blk_below (g := gb328) (o := .cells #[.bool a1_0, .slice A1_1 l1_1.length c1_1] 37 (0, 0)) (by (with_reducible repeat (first | refine blk_drewN ?_ _ | refine blk_drew ?_ | refine blk_alloc ?_ _)); exact BK328.out) hb); have n4_ := Aside0.mk (blk_below (g := gb329) (o := .cells #[.bool false, .slice none 0 0] 37 (0, 0)) (by (with_reducible repeat (first | refine blk_drewN ?_ _ | refine blk_drew ?_ | refine blk_alloc ?_ _)); exact BK329.out) hb); have n5_ := Aside0.mk (below_step (by repeat (first | (with_reducible first | exact HB.out | apply below_alloc | apply pw_below_drewN | apply below_drew1 | refine below_set ?_ GE327.out | refine below_set ?_ GE328.out | refine below_set ?_ GE329.out) | exact HB.out)) hb); clear BK327; clear BK328; clear BK329; clear HB; have HO333 := n0_; have HO337 := n1_; have BK327 := n2_; have BK328 := n3_; have BK329 := n4_; have HB := n5_; clear n0_ n1_ n2_ n3_ n4_ n5_; (try clear hb); (try clear hb2); (try clear hk); (try clear hi); (try clear ho0); (try clear ho1)) | ((with_reducible refine gate_dst (N := 5) rfl ?_); refine box_event ?hg (N := 5) ?hd (cs := #[.bool false, .slice none 0 0]) (t := 37) ?hr ?_; (case hd => rfl); (case hg => rfl); (case hr => first | (go_simp; done) | (go_simp; rfl)); intro gb338 hg w16 hbox hb; have n0_ := Aside0.mk (Kd.R_below (by (with_reducible repeat (first | apply Kd.R_alloc | apply Kd.R_drewN | apply Kd.R_drew)); exact HO333.out) hb); have n1_ := Aside0.mk (Kd.R_below (by (with_reducible repeat (first | apply Kd.R_alloc | apply Kd.R_drewN | apply Kd.R_drew)); exact HO337.out) hb); have n2_ := Aside0.mk (blk_below (g := gb327) (o := .cells #[.bool a0_0, .slice A0_1 l0_1.length c0_1] 37 (0, 0)) (by (with_reducible repeat (first | refine blk_drewN ?_ _ | refine blk_drew ?_ | refine blk_alloc ?_ _)); exact BK327.out) hb); have n3_ := Aside0.mk (blk_below (g := gb328) (o := .cells #[.bool a1_0, .slice A1_1 l1_1.length c1_1] 37 (0, 0)) (by (with_reducible repeat (first | refine blk_drewN ?_ _ | refine blk_drew ?_ | refine blk_alloc ?_ _)); exact BK328.out) hb); have n4_ := Aside0.mk (blk_below (g := gb329) (o := .cells #[.bool false, .slice none 0 0] 37 (0, 0)) (by (with_reducible repeat (first | refine blk_drewN ?_ _ | refine blk_drew ?_ | refine blk_alloc ?_ _)); exact BK329.out) hb); have n5_ := Aside0.mk (below_step (by repeat (first | (with_reducible first | exact HB.out | apply below_alloc | apply pw_below_drewN | apply below_drew1 | refine below_set ?_ GE327.out | refine below_set ?_ GE328.out | refine below_set ?_ GE329.out) | exact HB.out)) hb); have n6_ := Aside0.mk (hbox); have n7_ := Aside0.mk ((by rw [hg]; exact (below_size (by repeat (first | (with_reducible first | exact HB.out | apply below_alloc | apply pw_below_drewN | apply below_drew1 | refine below_set ?_ GE327.out | refine below_set ?_ GE328.out | refine below_set ?_ GE329.out) | exact HB.out))) : w.heap.size ≤ gb338)); have n8_ := Aside0.mk ((by rw [hg]; exact (below_size (by repeat (first | (with_reducible first | exact HB.out | apply below_alloc | apply pw_below_drewN | apply below_drew1 | refine below_set ?_ GE327.out | refine below_set ?_ GE328.out | refine below_set ?_ GE329.out) | exact HB.out))) : w.heap.size ≤ gb338)); have n9_ := Aside0.mk ((by rw [hg]; exact Nat.ne_of_lt (blk_lt (g := gb327) (o := .cells #[.bool a0_0, .slice A0_1 l0_1.length c0_1] 37 (0, 0)) (by (with_reducible repeat (first | refine blk_drewN ?_ _ | refine blk_drew ?_ | refine blk_alloc ?_ _)); exact BK327.out)) : gb327 ≠ gb338)); have n10_ := Aside0.mk ((by rw [hg]; exact Nat.ne_of_gt (blk_lt (g := gb327) (o := .cells #[.bool a0_0, .slice A0_1 l0_1.length c0_1] 37 (0, 0)) (by (with_reducible repeat (first | refine blk_drewN ?_ _ | refine blk_drew ?_ | refine blk_alloc ?_ _)); exact BK327.out)) : gb338 ≠ gb327)); have n11_ := Aside0.mk ((by rw [hg]; exact Nat.ne_of_lt (blk_lt (g := gb328) (o := .cells #[.bool a1_0, .slice A1_1 l1_1.length c1_1] 37 (0, 0)) (by (with_reducible repeat (first | refine blk_drewN ?_ _ | refine blk_drew ?_ | refine blk_alloc ?_ _)); exact BK328.out)) : gb328 ≠ gb338)); have n12_ := Aside0.mk ((by rw [hg]; exact Nat.ne_of_gt (blk_lt (g := gb328) (o := .cells #[.bool a1_0, .slice A1_1 l1_1.length c1_1] 37 (0, 0)) (by (with_reducible repeat (first | refine blk_drewN ?_ _ | refine blk_drew ?_ | refine blk_alloc ?_ _)); exact BK328.out)) : gb338 ≠ gb328)); have n13_ := Aside0.mk ((by rw [hg]; exact Nat.ne_of_lt (blk_lt (g := gb329) (o := .cells #[.bool false, .slice none 0 0] 37 (0, 0)) (by (with_reducible repeat (first | refine blk_drewN ?_ _ | refine blk_drew ?_ | refine blk_alloc ?_ _)); exact BK329.out)) : gb329 ≠ gb338)); have n14_ := Aside0.mk ((by rw [hg]; exact Nat.ne_of_gt (blk_lt (g := gb329) (o := .cells #[.bool false, .slice none 0 0] 37 (0, 0)) (by (with_reducible repeat (first | refine blk_drewN ?_ _ | refine blk_drew ?_ | refine blk_alloc ?_ _)); exact BK329.out)) : gb338 ≠ gb329)); clear HO333; clear HO337; clear BK327; clear BK328; clear BK329; clear HB; have HO333 := n0_; have HO337 := n1_; have BK327 := n2_; have BK328 := n3_; have BK329 := n4_; have HB := n5_; have BK338 := n6_; have GW338 := n7_; have GE338 := n8_; have NB327_338 := n9_; have NB338_327 := n10_; have NB328_338 := n11_; have NB338_328 := n12_; have NB329_338 := n13_; have NB338_329 := n14_; clear n0_ n1_ n2_ n3_ n4_ n5_ n6_ n7_ n8_ n9_ n10_ n11_ n12_ n13_ n14_; clear hb hbox hg) | ((with_reducible refine gate_dst (N := 6) rfl ?_); refine box_event ?hg (N := 6) ?hd (cs := #[.bool false, .slice none 0 0]) (t := 37) ?hr ?_; (case hd => rfl); (case hg => rfl); (case hr => first | (go_simp; done) | (go_simp; rfl)); intro gb339 hg w17 hbox hb; have n0_ := Aside0.mk (Kd.R_below (by (with_reducible repeat (first | apply Kd.R_alloc | apply Kd.R_drewN | apply Kd.R_drew)); exact HO333.out) hb); have n1_ := Aside0.mk (Kd.R_below (by (with_reducible repeat (first | apply Kd.R_alloc | apply Kd.R_drewN | apply Kd.R_drew)); exact HO337.out) hb); have n2_ := Aside0.mk (blk_below (g := gb327) (o := .cells #[.bool a0_0, .slice A0_1 l0_1.length c0_1] 37 (0, 0)) (by (with_reducible repeat (first | refine blk_drewN ?_ _ | refine blk_drew ?_ | refine blk_alloc ?_ _)); exact BK327.out) hb); have n3_ := Aside0.mk (blk_below (g := gb328) (o := .cells #[.bool a1_0, .slice A1_1 l1_1.length c1_1] 37 (0, 0)) (by (with_reducible repeat (first | refine blk_drewN ?_ _ | refine blk_drew ?_ | refine blk_alloc ?_ _)); exact BK328.out) hb); have n4_ := Aside0.mk (blk_below (g := gb329) (o := .cells #[.bool false, .slice none 0 0] 37 (0, 0)) (by (with_reducible repeat (first | refine blk_drewN ?_ _ | refine blk_drew ?_ | refine blk_alloc ?_ _)); exact BK329.out) hb); have n5_ := Aside0.mk (blk_below (g := gb338) (o := .cells #[.bool false, .slice none 0 0] 37 (0, 0)) (by (with_reducible repeat (first | refine blk_drewN ?_ _ | refine blk_drew ?_ | refine blk_alloc ?_ _)); exact BK338.out) hb); have n6_ := Aside0.mk (below_step (by repeat (first | (with_reducible first | exact HB.out | apply below_alloc | apply pw_below_drewN | apply below_drew1 | refine below_set ?_ GE327.out | refine below_set ?_ GE328.out | refine below_set ?_ GE329.out | refine below_set ?_ GE338.out) | exact HB.out)) hb); have n7_ := Aside0.mk (hbox); have n8_ := Aside0.mk ((by rw [hg]; exact (below_size (by repeat (first | (with_reducible first | exact HB.out | apply below_alloc | apply pw_below_drewN | apply below_drew1 | refine below_set ?_ GE327.out | refine below_set ?_ GE328.out | refine below_set ?_ GE329.out | refine below_set ?_ GE338.out) | exact HB.out))) : w.heap.size ≤ gb339)); have n9_ := Aside0.mk ((by rw [hg]; exact (below_size (by repeat (first | (with_reducible first | exact HB.out | apply below_alloc | apply pw_below_drewN | apply below_drew1 | refine below_set ?_ GE327.out | refine below_set ?_ GE328.out | refine below_set ?_ GE329.out | refine below_set ?_ GE338.out) | exact HB.out))) : w.heap.size ≤ gb339)); have n10_ := Aside0.mk ((by rw [hg]; exact Nat.ne_of_lt (blk_lt (g := gb327) (o := .cells #[.bool a0_0, .slice A0_1 l0_1.length c0_1] 37 (0, 0)) (by (with_reducible repeat (first | refine blk_drewN ?_ _ | refine blk_drew ?_ | refine blk_alloc ?_ _)); exact BK327.out)) : gb327 ≠ gb339)); have n11_ := Aside0.mk ((by rw [hg]; exact Nat.ne_of_gt (blk_lt (g := gb327) (o := .cells #[.bool a0_0, .slice A0_1 l0_1.length c0_1] 37 (0, 0)) (by (with_reducible repeat (first | refine blk_drewN ?_ _ | refine blk_drew ?_ | refine blk_alloc ?_ _)); exact BK327.out)) : gb339 ≠ gb327)); have n12_ := Aside0.mk ((by rw [hg]; exact Nat.ne_of_lt (blk_lt (g := gb328) (o := .cells #[.bool a1_0, .slice A1_1 l1_1.length c1_1] 37 (0, 0)) (by (with_reducible repeat (first | refine blk_drewN ?_ _ | refine blk_drew ?_ | refine blk_alloc ?_ _)); exact BK328.out)) : gb328 ≠ gb339)); have n13_ := Aside0.mk ((by rw [hg]; exact Nat.ne_of_gt (blk_lt (g := gb328) (o := .cells #[.bool a1_0, .slice A1_1 l1_1.length c1_1] 37 (0, 0)) (by (with_reducible repeat (first | refine blk_drewN ?_ _ | refine blk_drew ?_ | refine blk_alloc ?_ _)); exact BK328.out)) : gb339 ≠ gb328)); have n14_ := Aside0.mk ((by rw [hg]; exact Nat.ne_of_lt (blk_lt (g := gb329) (o := .cells #[.bool false, .slice none 0 0] 37 (0, 0)) (by (with_reducible repeat (first | refine blk_drewN ?_ _ | refine blk_drew ?_ | refine blk_alloc ?_ _)); exact BK329.out)) : gb329 ≠ gb339)); have n15_ := Aside0.mk ((by rw [hg]; exact Nat.ne_of_gt (blk_lt (g := gb329) (o := .cells #[.bool false, .slice none 0 0] 37 (0, 0)) (by (with_reducible repeat (first | refine blk_drewN ?_ _ | refine blk_drew ?_ | refine blk_alloc ?_ _)); exact BK329.out)) : gb339 ≠ gb329)); have n16_ := Aside0.mk ((by rw [hg]; exact Nat.ne_of_lt (blk_lt (g := gb338) (o := .cells #[.bool false, .slice none 0 0] 37 (0, 0)) (by (with_reducible repeat (first | refine blk_drewN ?_ _ | refine blk_drew ?_ | refine blk_alloc ?_ _)); exact BK338.out)) : gb338 ≠ gb339)); have n17_ := Aside0.mk ((by rw [hg]; exact Nat.ne_of_gt (blk_lt (g := gb338) (o := .cells #[.bool false, .slice none 0 0] 37 (0, 0)) (by (with_reducible repeat (first | refine blk_drewN ?_ _ | refine blk_drew ?_ | refine blk_alloc ?_ _)); exact BK338.out)) : gb339 ≠ gb338)); clear HO333; clear HO337; clear BK327; clear BK328; clear BK329; clear BK338; clear HB; have HO333 := n0_; have HO337 := n1_; have BK327 := n2_; have BK328 := n3_; have BK329 := n4_; have BK338 := n5_; have HB := n6_; have BK339 := n7_; have GW339 := n8_; have GE339 := n9_; have NB327_339 := n10_; have NB339_327 := n11_; have NB328_339 := n12_; have NB339_328 := n13_; have NB329_339 := n14_; have NB339_329 := n15_; have NB338_339 := n16_; have NB339_338 := n17_; clear n0_ n1_ n2_ n3_ n4_ n5_ n6_ n7_ n8_ n9_ n10_ n11_ n12_ n13_ n14_ n15_ n16_ n17_; clear hb hbox hg; have hnb18 := NB338_327.out; have hnc18 := NB327_338.out; have hnb19 := NB338_328.out; have hnc19 := NB328_338.out; have hnb20 := NB338_329.out; have hnc20 := NB329_338.out; have hnb21 := NB338_339.out; have hnc21 := NB339_338.out; have hcz22_0 : w17.cell? ⟨gb338, 0, none⟩ = some (.bool false) := (blk_cell BK338.out 0).trans rfl; have hcz22_1 : w17.cell? ⟨gb338, 1, none⟩ = some (.slice none 0 0) := (blk_cell BK338.out 1).trans rfl; have hfz22_0 := blk_frozen BK338.out 0; have hfz22_1 := blk_frozen BK338.out 1; obtain ⟨Ao23, co23, eo23⟩ := Kd.R_slice HO333.out; subst eo23; have hnb24 := NB339_327.out; have hnc24 := NB327_339.out; have hnb25 := NB339_328.out; have hnc25 := NB328_339.out; have hnb26 := NB339_329.out; have hnc26 := NB329_339.out; have hcz27_0 : w17.cell? ⟨gb339, 0, none⟩ = some (.bool false) := (blk_cell BK339.out 0).trans rfl; have hcz27_1 : w17.cell? ⟨gb339, 1, none⟩ = some (.slice none 0 0) := (blk_cell BK339.out 1).trans rfl; have hfz27_0 := blk_frozen BK339.out 0; have hfz27_1 := blk_frozen BK339.out 1; obtain ⟨Ao28, co28, eo28⟩ := Kd.R_slice HO337.out; subst eo28))
  have n0_ : Aside0 (Kd.R (Kd.int .u8) 5 ((((w17.setCell ⟨gb338, 0, none⟩ (.bool t330)).setCell ⟨gb338, 1, none⟩ (.slice Ao23 t331.length co23)).setCell ⟨gb339, 0, none⟩ (.bool t334)).setCell ⟨gb339, 1, none⟩ (.slice Ao28 t335.length co28)) w.heap.size (fun k_ => some k_ ≠ (.slice Ao28 t335.length co28 : Value).ownBlock) (.slice Ao23 t331.length co23) t331) := ⟨by (with_reducible repeat (first | apply Kd.R_alloc | apply Kd.R_drewN | apply Kd.R_drew)); exact Kd.R_mono (Kd.R_far (p := ⟨gb339, 1, none⟩) (Kd.R_far (p := ⟨gb339, 0, none⟩) (Kd.R_far (p := ⟨gb338, 1, none⟩) (Kd.R_far (p := ⟨gb338, 0, none⟩) (Kd.R_types (Kd.R_types HO333.out BK338.out (by decide)) BK339.out (by decide)) (fun _ hk => hk.1.2) (.bool t330)) (fun _ hk => hk.1.2) (.slice Ao23 t331.length co23)) (fun _ hk => hk.2) (.bool t334)) (fun _ hk => hk.2) (.slice Ao28 t335.length co28)) (fun _ hk => hk.1.1)⟩
  have n1_ : Aside0 (Kd.R (Kd.int .u8) 5 ((((w17.setCell ⟨gb338, 0, none⟩ (.bool t330)).setCell ⟨gb338, 1, none⟩ (.slice Ao23 t331.length co23)).setCell ⟨gb339, 0, none⟩ (.bool t334)).setCell ⟨gb339, 1, none⟩ (.slice Ao28 t335.length co28)) w.heap.size (fun k_ => some k_ ≠ (.slice Ao23 t331.length co23 : Value).ownBlock) (.slice Ao28 t335.length co28) t335) := ⟨by (with_reducible repeat (first | apply Kd.R_alloc | apply Kd.R_drewN | apply Kd.R_drew)); exact Kd.R_mono (Kd.R_far (p := ⟨gb339, 1, none⟩) (Kd.R_far (p := ⟨gb339, 0, none⟩) (Kd.R_far (p := ⟨gb338, 1, none⟩) (Kd.R_far (p := ⟨gb338, 0, none⟩) (Kd.R_types (Kd.R_types HO337.out BK338.out (by decide)) BK339.out (by decide)) (fun _ hk => hk.1.2) (.bool t330)) (fun _ hk => hk.1.2) (.slice Ao23 t331.length co23)) (fun _ hk => hk.2) (.bool t334)) (fun _ hk => hk.2) (.slice Ao28 t335.length co28)) (fun _ hk => hk.1.1)⟩
  have n2_ : Aside0 (((((w17.setCell ⟨gb338, 0, none⟩ (.bool t330)).setCell ⟨gb338, 1, none⟩ (.slice Ao23 t331.length co23)).setCell ⟨gb339, 0, none⟩ (.bool t334)).setCell ⟨gb339, 1, none⟩ (.slice Ao28 t335.length co28)).heap[gb327]? = some (.cells #[.bool a0_0, .slice A0_1 l0_1.length c0_1] 37 (0, 0))) := ⟨by (with_reducible repeat (first | refine blk_drewN ?_ _ | refine blk_drew ?_ | refine blk_alloc ?_ _)); refine blk_far ?_ NB327_339.out _; (with_reducible repeat (first | refine blk_drewN ?_ _ | refine blk_drew ?_ | refine blk_alloc ?_ _)); refine blk_far ?_ NB327_339.out _; (with_reducible repeat (first | refine blk_drewN ?_ _ | refine blk_drew ?_ | refine blk_alloc ?_ _)); refine blk_far ?_ NB327_338.out _; (with_reducible repeat (first | refine blk_drewN ?_ _ | refine blk_drew ?_ | refine blk_alloc ?_ _)); refine blk_far ?_ NB327_338.out _; (with_reducible repeat (first | refine blk_drewN ?_ _ | refine blk_drew ?_ | refine blk_alloc ?_ _)); exact BK327.out⟩
  have n3_ : Aside0 (((((w17.setCell ⟨gb338, 0, none⟩ (.bool t330)).setCell ⟨gb338, 1, none⟩ (.slice Ao23 t331.length co23)).setCell ⟨gb339, 0, none⟩ (.bool t334)).setCell ⟨gb339, 1, none⟩ (.slice Ao28 t335.length co28)).heap[gb328]? = some (.cells #[.bool a1_0, .slice A1_1 l1_1.length c1_1] 37 (0, 0))) := ⟨by (with_reducible repeat (first | refine blk_drewN ?_ _ | refine blk_drew ?_ | refine blk_alloc ?_ _)); refine blk_far ?_ NB328_339.out _; (with_reducible repeat (first | refine blk_drewN ?_ _ | refine blk_drew ?_ | refine blk_alloc ?_ _)); refine blk_far ?_ NB328_339.out _; (with_reducible repeat (first | refine blk_drewN ?_ _ | refine blk_drew ?_ | refine blk_alloc ?_ _)); refine blk_far ?_ NB328_338.out _; (with_reducible repeat (first | refine blk_drewN ?_ _ | refine blk_drew ?_ | refine blk_alloc ?_ _)); refine blk_far ?_ NB328_338.out _; (with_reducible repeat (first | refine blk_drewN ?_ _ | refine blk_drew ?_ | refine blk_alloc ?_ _)); exact BK328.out⟩
  have n4_ : Aside0 (((((w17.setCell ⟨gb338, 0, none⟩ (.bool t330)).setCell ⟨gb338, 1, none⟩ (.slice Ao23 t331.length co23)).setCell ⟨gb339, 0, none⟩ (.bool t334)).setCell ⟨gb339, 1, none⟩ (.slice Ao28 t335.length co28)).heap[gb329]? = some (.cells #[.bool false, .slice none 0 0] 37 (0, 0))) := ⟨by (with_reducible repeat (first | refine blk_drewN ?_ _ | refine blk_drew ?_ | refine blk_alloc ?_ _)); refine blk_far ?_ NB329_339.out _; (with_reducible repeat (first | refine blk_drewN ?_ _ | refine blk_drew ?_ | refine blk_alloc ?_ _)); refine blk_far ?_ NB329_339.out _; (with_reducible repeat (first | refine blk_drewN ?_ _ | refine blk_drew ?_ | refine blk_alloc ?_ _)); refine blk_far ?_ NB329_338.out _; (with_reducible repeat (first | refine blk_drewN ?_ _ | refine blk_drew ?_ | refine blk_alloc ?_ _)); refine blk_far ?_ NB329_338.out _; (with_reducible repeat (first | refine blk_drewN ?_ _ | refine blk_drew ?_ | refine blk_alloc ?_ _)); exact BK329.out⟩
  have n5_ : Aside0 (((((w17.setCell ⟨gb338, 0, none⟩ (.bool t330)).setCell ⟨gb338, 1, none⟩ (.slice Ao23 t331.length co23)).setCell ⟨gb339, 0, none⟩ (.bool t334)).setCell ⟨gb339, 1, none⟩ (.slice Ao28 t335.length co28)).heap[gb338]? = some (.cells #[.bool t330, .slice Ao23 t331.length co23] 37 (0, 0))) := ⟨by (with_reducible repeat (first | refine blk_drewN ?_ _ | refine blk_drew ?_ | refine blk_alloc ?_ _)); refine blk_far ?_ NB338_339.out _; (with_reducible repeat (first | refine blk_drewN ?_ _ | refine blk_drew ?_ | refine blk_alloc ?_ _)); refine blk_far ?_ NB338_339.out _; (with_reducible repeat (first | refine blk_drewN ?_ _ | refine blk_drew ?_ | refine blk_alloc ?_ _)); refine blk_put (cs := #[.bool t330, .slice none 0 0]) ?_ 1 _ rfl; (with_reducible repeat (first | refine blk_drewN ?_ _ | refine blk_drew ?_ | refine blk_alloc ?_ _)); refine blk_put (cs := #[.bool false, .slice none 0 0]) ?_ 0 _ rfl; (with_reducible repeat (first | refine blk_drewN ?_ _ | refine blk_drew ?_ | refine blk_alloc ?_ _)); exact BK338.out⟩
  have n6_ : Aside0 (((((w17.setCell ⟨gb338, 0, none⟩ (.bool t330)).setCell ⟨gb338, 1, none⟩ (.slice Ao23 t331.length co23)).setCell ⟨gb339, 0, none⟩ (.bool t334)).setCell ⟨gb339, 1, none⟩ (.slice Ao28 t335.length co28)).heap[gb339]? = some (.cells #[.bool t334, .slice Ao28 t335.length co28] 37 (0, 0))) := ⟨by (with_reducible repeat (first | refine blk_drewN ?_ _ | refine blk_drew ?_ | refine blk_alloc ?_ _)); refine blk_put (cs := #[.bool t334, .slice none 0 0]) ?_ 1 _ rfl; (with_reducible repeat (first | refine blk_drewN ?_ _ | refine blk_drew ?_ | refine blk_alloc ?_ _)); refine blk_put (cs := #[.bool false, .slice none 0 0]) ?_ 0 _ rfl; (with_reducible repeat (first | refine blk_drewN ?_ _ | refine blk_drew ?_ | refine blk_alloc ?_ _)); refine blk_far ?_ NB339_338.out _; (with_reducible repeat (first | refine blk_drewN ?_ _ | refine blk_drew ?_ | refine blk_alloc ?_ _)); refine blk_far ?_ NB339_338.out _; (with_reducible repeat (first | refine blk_drewN ?_ _ | refine blk_drew ?_ | refine blk_alloc ?_ _)); exact BK339.out⟩
  have n7_ : Aside0 (Below w.heap.size w ((((w17.setCell ⟨gb338, 0, none⟩ (.bool t330)).setCell ⟨gb338, 1, none⟩ (.slice Ao23 t331.length co23)).setCell ⟨gb339, 0, none⟩ (.bool t334)).setCell ⟨gb339, 1, none⟩ (.slice Ao28 t335.length co28))) := ⟨by repeat (first | (with_reducible first | exact HB.out | apply below_alloc | apply pw_below_drewN | apply below_drew1 | refine below_set ?_ GE327.out | refine below_set ?_ GE328.out | refine below_set ?_ GE329.out | refine below_set ?_ GE338.out | refine below_set ?_ GE339.out) | exact HB.out)⟩
  (try clear HO333)
  (try clear HO337)
  (try clear BK327)
  (try clear BK328)
  (try clear BK329)
  (try clear BK338)
  (try clear BK339)
  (try clear HB)
  generalize ((((w17.setCell ⟨gb338, 0, none⟩ (.bool t330)).setCell ⟨gb338, 1, none⟩ (.slice Ao23 t331.length co23)).setCell ⟨gb339, 0, none⟩ (.bool t334)).setCell ⟨gb339, 1, none⟩ (.slice Ao28 t335.length co28)) = w29 at n0_ n1_ n2_ n3_ n4_ n5_ n6_ n7_ ⊢
  have HO333 := n0_
  have HO337 := n1_
  have BK327 := n2_
  have BK328 := n3_
  have BK329 := n4_
  have BK338 := n5_
  have BK339 := n6_
  have HB := n7_
  clear n0_ n1_ n2_ n3_ n4_ n5_ n6_ n7_
  have n0_ := Aside0.mk (Kd.R_drew HO333.out)
  have n1_ := Aside0.mk (Kd.R_drew HO337.out)
  have n2_ := Aside0.mk (blk_drew BK327.out)
  have n3_ := Aside0.mk (blk_drew BK328.out)
  have n4_ := Aside0.mk (blk_drew BK329.out)
  have n5_ := Aside0.mk (blk_drew BK338.out)
  have n6_ := Aside0.mk (blk_drew BK339.out)
  have n7_ := Aside0.mk (below_drew1 HB.out)
  clear HO333
  clear HO337
  clear BK327
  clear BK328
  clear BK329
  clear BK338
  clear BK339
  clear HB
  have HO333 := n0_
  have HO337 := n1_
  have BK327 := n2_
  have BK328 := n3_
  have BK329 := n4_
  have BK338 := n5_
  have BK339 := n6_
  have HB := n7_
  clear n0_ n1_ n2_ n3_ n4_ n5_ n6_ n7_
  refine start_ (n := 6) (S := fun w' => w'.cell? ⟨gb339, 0, none⟩ = some (.bool t334) ∧ w'.cell? ⟨gb339, 1, none⟩ = some (.slice Ao28 t335.length co28) ∧ w'.cell? ⟨gb328, 0, none⟩ = some (.bool a1_0) ∧ w'.cell? ⟨gb328, 1, none⟩ = some (.slice A1_1 l1_1.length c1_1)) (ds := []) #[false, false, false, false, false, false] (by kernel_rfl) rfl rfl ⟨(blk_cell BK339.out 0).trans rfl, (blk_cell BK339.out 1).trans rfl, (blk_cell BK328.out 0).trans rfl, (blk_cell BK328.out 1).trans rfl⟩ (fun hHeld => ?_)
  generalize w29.drew = w30 at HO333 HO337 BK327 BK328 BK329 BK338 BK339 HB hHeld ⊢
  refine take_ (i := 0) (N := some 14) (v := ?_) (a' := ?_) #[true, false, false, false, false, false] rfl rfl (by kernel_rfl) (fun _ _ _ h => h) (Or.inl ⟨by rfl, ?_⟩) hHeld ?_ ?_
  rotate_left
  · rintro w' ⟨s0, s1, s2, s3⟩
    go_simp
    with_reducible rfl
  rotate_left
  · simp only [Act.put, List.setIfInBounds_toArray, List.set_cons_zero, List.set_cons_succ, i64_w, i32_w]
    rfl
  refine take_ (i := 1) (N := some 15) (v := ?_) (a' := ?_) #[true, true, false, false, false, false] rfl rfl (by kernel_rfl) (fun _ _ _ h => h) (Or.inl ⟨by rfl, ?_⟩) hHeld ?_ ?_
  rotate_left
  · rintro w' ⟨s0, s1, s2, s3⟩
    go_simp
    with_reducible rfl
  rotate_left
  · simp only [Act.put, List.setIfInBounds_toArray, List.set_cons_zero, List.set_cons_succ, i64_w, i32_w]
    rfl
  refine take_ (i := 3) (N := some 17) (v := ?_) (a' := ?_) #[true, true, false, true, false, false] rfl rfl (by kernel_rfl) (fun _ _ _ h => h) (Or.inl ⟨by rfl, ?_⟩) hHeld ?_ ?_
  rotate_left
  · rintro w' ⟨s0, s1, s2, s3⟩
    go_simp
    with_reducible rfl
  rotate_left
  · simp only [Act.put, List.setIfInBounds_toArray, List.set_cons_zero, List.set_cons_succ, i64_w, i32_w]
    rfl
  refine one_ (i := 2) (N := some 16) #[true, true, true, true, false, false] rfl rfl (by kernel_rfl) (by decide) (fun K hK => ?_)
  refine goes_ Tryz.func37 (by kernel_rfl) rfl #[.agg #[.bool t334, .slice Ao28 t335.length co28], .agg #[.bool t334, .slice Ao28 t335.length co28]] (by rfl) rfl rfl (by (try simp only [List.map_toArray, List.map_cons, List.map_nil]); first | done | rfl | (simp only [List.length_drop, List.length_take]; rfl)) ?_
  with_reducible refine (spec_Int_Add.calls k t334 _ _ t335 t334 _ _ t335 t340 t341 _ ?side1 ?side2 ?side3 ?side4 A4.out).mono ?_
  (case side1 => repeat (first | exact (Kd.R_reads' HO337.out).2.2 | (with_reducible refine Kd.C_alloc ?_ _) | (with_reducible refine Kd.C_drewN ?_ _) | (with_reducible refine Kd.C_drew ?_)))
  (case side2 => exact (Kd.R_reads' HO337.out).2.1)
  (case side3 => repeat (first | exact (Kd.R_reads' HO337.out).2.2 | (with_reducible refine Kd.C_alloc ?_ _) | (with_reducible refine Kd.C_drewN ?_ _) | (with_reducible refine Kd.C_drew ?_)))
  (case side4 => exact (Kd.R_reads' HO337.out).2.1)
  rintro e w31 ⟨v342, rfl, ho0, hb⟩
  refine ⟨_, rfl, ?_⟩
  have n0_ := Aside0.mk (Kd.R_elder' (by (with_reducible repeat (first | apply Kd.R_alloc | apply Kd.R_drewN | apply Kd.R_drew)); exact HO333.out) (Kd.R_base ho0) hb)
  have n1_ := Aside0.mk (Kd.R_elder' (by (with_reducible repeat (first | apply Kd.R_alloc | apply Kd.R_drewN | apply Kd.R_drew)); exact HO337.out) (Kd.R_base ho0) hb)
  have n2_ := Aside0.mk (Kd.R_lower (Kd.R_new' (Kd.R_new' ho0 (Kd.R_lt (by (with_reducible repeat (first | apply Kd.R_alloc | apply Kd.R_drewN | apply Kd.R_drew)); exact HO333.out))) (Kd.R_lt (by (with_reducible repeat (first | apply Kd.R_alloc | apply Kd.R_drewN | apply Kd.R_drew)); exact HO337.out))) (below_size (by repeat (first | (with_reducible first | exact HB.out | apply below_alloc | apply pw_below_drewN | apply below_drew1 | refine below_set ?_ GE327.out | refine below_set ?_ GE328.out | refine below_set ?_ GE329.out | refine below_set ?_ GE338.out | refine below_set ?_ GE339.out) | exact HB.out))))
  have n3_ := Aside0.mk (blk_below (g := gb327) (o := .cells #[.bool a0_0, .slice A0_1 l0_1.length c0_1] 37 (0, 0)) (by (with_reducible repeat (first | refine blk_drewN ?_ _ | refine blk_drew ?_ | refine blk_alloc ?_ _)); exact BK327.out) hb)
  have n4_ := Aside0.mk (blk_below (g := gb328) (o := .cells #[.bool a1_0, .slice A1_1 l1_1.length c1_1] 37 (0, 0)) (by (with_reducible repeat (first | refine blk_drewN ?_ _ | refine blk_drew ?_ | refine blk_alloc ?_ _)); exact BK328.out) hb)
  have n5_ := Aside0.mk (blk_below (g := gb329) (o := .cells #[.bool false, .slice none 0 0] 37 (0, 0)) (by (with_reducible repeat (first | refine blk_drewN ?_ _ | refine blk_drew ?_ | refine blk_alloc ?_ _)); exact BK329.out) hb)
  have n6_ := Aside0.mk (blk_below (g := gb338) (o := .cells #[.bool t330, .slice Ao23 t331.length co23] 37 (0, 0)) (by (with_reducible repeat (first | refine blk_drewN ?_ _ | refine blk_drew ?_ | refine blk_alloc ?_ _)); exact BK338.out) hb)
  have n7_ := Aside0.mk (blk_below (g := gb339) (o := .cells #[.bool t334, .slice Ao28 t335.length co28] 37 (0, 0)) (by (with_reducible repeat (first | refine blk_drewN ?_ _ | refine blk_drew ?_ | refine blk_alloc ?_ _)); exact BK339.out) hb)
  have n8_ := Aside0.mk (below_step (by repeat (first | (with_reducible first | exact HB.out | apply below_alloc | apply pw_below_drewN | apply below_drew1 | refine below_set ?_ GE327.out | refine below_set ?_ GE328.out | refine below_set ?_ GE329.out | refine below_set ?_ GE338.out | refine below_set ?_ GE339.out) | exact HB.out)) hb)
  clear HO333
  clear HO337
  clear BK327
  clear BK328
  clear BK329
  clear BK338
  clear BK339
  clear HB
  have HO333 := n0_
  have HO337 := n1_
  have HO343 := n2_
  have BK327 := n3_
  have BK328 := n4_
  have BK329 := n5_
  have BK338 := n6_
  have BK339 := n7_
  have HB := n8_
  clear n0_ n1_ n2_ n3_ n4_ n5_ n6_ n7_ n8_
  (try clear hb)
  (try clear hb2)
  (try clear hk)
  (try clear hi)
  (try clear ho0)
  obtain ⟨Ao32, co32, eo32⟩ := Kd.R_slice HO343.out
  (first | subst eo32 | (injection eo32 with f1_ f2_ f3_; have f4_ := f1_.symm; have f5_ := f3_.symm; clear f1_ f2_ f3_; subst f4_; subst f5_))
  refine hK.out _ _ ⟨(blk_cell BK339.out 0).trans rfl, (blk_cell BK339.out 1).trans rfl, (blk_cell BK328.out 0).trans rfl, (blk_cell BK328.out 1).trans rfl⟩ (fun hHeld => ?_)
  clear hK K
  refine norm_ (a' := ?_) ?_ ?_
  rotate_left
  · show Act.put _ (some 16) _ = _
    simp only [Act.put, List.setIfInBounds_toArray, List.set_cons_zero, List.set_cons_succ, i64_w, i32_w]
    rfl
  refine one_ (i := 4) (N := some 18) #[true, true, true, true, true, false] rfl rfl (by kernel_rfl) (by decide) (fun K hK => ?_)
  refine goes_ Tryz.func38 (by kernel_rfl) rfl #[.agg #[.bool t340, .slice Ao32 t341.length co32], .agg #[.bool a1_0, .slice A1_1 l1_1.length c1_1]] (by rfl) rfl rfl (by (try simp only [List.map_toArray, List.map_cons, List.map_nil]); first | done | rfl | (simp only [List.length_drop, List.length_take]; rfl)) ?_
  with_reducible refine (spec_Int_Cmp.calls k t340 _ _ t341 a1_0 _ _ l1_1 t344 _ ?side1 ?side2 ?side3 ?side4 A5.out).mono ?_
  (case side1 => repeat (first | exact (Kd.R_reads' HO343.out).2.2 | (with_reducible refine Kd.C_alloc ?_ _) | (with_reducible refine Kd.C_drewN ?_ _) | (with_reducible refine Kd.C_drew ?_)))
  (case side2 => exact (Kd.R_reads' HO343.out).2.1)
  (case side3 => repeat (first | exact (Kd.C_below HR1_1.out HB.out) | (with_reducible refine Kd.C_alloc ?_ _) | (with_reducible refine Kd.C_drewN ?_ _) | (with_reducible refine Kd.C_drew ?_)))
  (case side4 => exact HC1_1.out)
  rintro e w33 ⟨rfl, hb⟩
  refine ⟨_, rfl, ?_⟩
  have n0_ := Aside0.mk (Kd.R_below (by (with_reducible repeat (first | apply Kd.R_alloc | apply Kd.R_drewN | apply Kd.R_drew)); exact HO333.out) hb)
  have n1_ := Aside0.mk (Kd.R_below (by (with_reducible repeat (first | apply Kd.R_alloc | apply Kd.R_drewN | apply Kd.R_drew)); exact HO337.out) hb)
  have n2_ := Aside0.mk (Kd.R_below (by (with_reducible repeat (first | apply Kd.R_alloc | apply Kd.R_drewN | apply Kd.R_drew)); exact HO343.out) hb)
  have n3_ := Aside0.mk (blk_below (g := gb327) (o := .cells #[.bool a0_0, .slice A0_1 l0_1.length c0_1] 37 (0, 0)) (by (with_reducible repeat (first | refine blk_drewN ?_ _ | refine blk_drew ?_ | refine blk_alloc ?_ _)); exact BK327.out) hb)
  have n4_ := Aside0.mk (blk_below (g := gb328) (o := .cells #[.bool a1_0, .slice A1_1 l1_1.length c1_1] 37 (0, 0)) (by (with_reducible repeat (first | refine blk_drewN ?_ _ | refine blk_drew ?_ | refine blk_alloc ?_ _)); exact BK328.out) hb)
  have n5_ := Aside0.mk (blk_below (g := gb329) (o := .cells #[.bool false, .slice none 0 0] 37 (0, 0)) (by (with_reducible repeat (first | refine blk_drewN ?_ _ | refine blk_drew ?_ | refine blk_alloc ?_ _)); exact BK329.out) hb)
  have n6_ := Aside0.mk (blk_below (g := gb338) (o := .cells #[.bool t330, .slice Ao23 t331.length co23] 37 (0, 0)) (by (with_reducible repeat (first | refine blk_drewN ?_ _ | refine blk_drew ?_ | refine blk_alloc ?_ _)); exact BK338.out) hb)
  have n7_ := Aside0.mk (blk_below (g := gb339) (o := .cells #[.bool t334, .slice Ao28 t335.length co28] 37 (0, 0)) (by (with_reducible repeat (first | refine blk_drewN ?_ _ | refine blk_drew ?_ | refine blk_alloc ?_ _)); exact BK339.out) hb)
  have n8_ := Aside0.mk (below_step (by repeat (first | (with_reducible first | exact HB.out | apply below_alloc | apply pw_below_drewN | apply below_drew1 | refine below_set ?_ GE327.out | refine below_set ?_ GE328.out | refine below_set ?_ GE329.out | refine below_set ?_ GE338.out | refine below_set ?_ GE339.out) | exact HB.out)) hb)
  clear HO333
  clear HO337
  clear HO343
  clear BK327
  clear BK328
  clear BK329
  clear BK338
  clear BK339
  clear HB
  have HO333 := n0_
  have HO337 := n1_
  have HO343 := n2_
  have BK327 := n3_
  have BK328 := n4_
  have BK329 := n5_
  have BK338 := n6_
  have BK339 := n7_
  have HB := n8_
  clear n0_ n1_ n2_ n3_ n4_ n5_ n6_ n7_ n8_
  (try clear hb)
  (try clear hb2)
  (try clear hk)
  (try clear hi)
  refine hK.out _ _ ⟨(blk_cell BK339.out 0).trans rfl, (blk_cell BK339.out 1).trans rfl, (blk_cell BK328.out 0).trans rfl, (blk_cell BK328.out 1).trans rfl⟩ (fun hHeld => ?_)
  clear hK K
  refine norm_ (a' := ?_) ?_ ?_
  rotate_left
  · show Act.put _ (some 18) _ = _
    simp only [Act.put, List.setIfInBounds_toArray, List.set_cons_zero, List.set_cons_succ, i64_w, i32_w]
    rfl
  refine pure_ (i := 5) (N := some 7) (v := ?_) (a' := ?_) #[true, true, true, true, true, true] rfl rfl (by kernel_rfl) (fun _ _ _ h => h) (Or.inl ⟨by rfl, ?_⟩) ?_ ?_
  rotate_left
  · intro w'
    go_simp
    with_reducible rfl
  rotate_left
  · simp only [Act.put, List.setIfInBounds_toArray, List.set_cons_zero, List.set_cons_succ, i64_w, i32_w]
    rfl
  refine done_ (by kernel_rfl) ?_
  go_upto_region 3 with (fail)
  go_cut [30] (fun v30 wc => ∃ (kq : Nat) (x30_5 : Bool), v30 = .bool x30_5 ∧ Aside0 (spec_near.j0 kq x30_5 t330 t331 = some (r1, r2)) ∧ Aside0 (kq ≤ k) ∧ Aside0 (Kd.R (Kd.int .u8) 5 wc w.heap.size (fun k_ => some k_ ≠ ((.slice Ao28 t335.length co28) : Value).ownBlock) (.slice Ao23 t331.length co23) t331) ∧ Aside0 (Kd.R (Kd.int .u8) 5 wc w.heap.size (fun k_ => some k_ ≠ ((.slice Ao23 t331.length co23) : Value).ownBlock) (.slice Ao28 t335.length co28) t335) ∧ Aside0 (wc.heap[gb327]? = some (.cells #[.bool a0_0, (.slice A0_1 l0_1.length c0_1)] 37 (0, 0))) ∧ Aside0 (wc.heap[gb328]? = some (.cells #[.bool a1_0, (.slice A1_1 l1_1.length c1_1)] 37 (0, 0))) ∧ Aside0 (wc.heap[gb329]? = some (.cells #[.bool false, (.slice none 0 0)] 37 (0, 0))) ∧ Aside0 (wc.heap[gb338]? = some (.cells #[.bool t330, (.slice Ao23 t331.length co23)] 37 (0, 0))) ∧ Aside0 (wc.heap[gb339]? = some (.cells #[.bool t334, (.slice Ao28 t335.length co28)] 37 (0, 0))) ∧ Aside0 (Below w.heap.size w wc))
  case first =>
    have H := HC6.out
    clear HC6
    by_cases c34 : t344 > 0
    · rw [if_pos c34] at H
      have c34b0 : decide (0 < t344) = true := decide_eq_true c34
      clear c34
      (first | rw [c34b0] | (simp only [i64_w, i32_w]; rw [c34b0]) | skip)
      have H' := Aside0.mk H
      clear H
      go_wp2
      go_meet
      case rel => exact ⟨_, (true), (by first | rfl | (simp; done) | (simp [*]; done)), H', ⟨by first | omega | exact Nat.le_refl _⟩, ⟨by (with_reducible repeat (first | apply Kd.R_alloc | apply Kd.R_drewN | apply Kd.R_drew)); exact Kd.R_mono HO333.out (fun _ hk => hk.1)⟩, ⟨by (with_reducible repeat (first | apply Kd.R_alloc | apply Kd.R_drewN | apply Kd.R_drew)); exact Kd.R_mono HO337.out (fun _ hk => hk.1)⟩, ⟨by (with_reducible repeat (first | refine blk_drewN ?_ _ | refine blk_drew ?_ | refine blk_alloc ?_ _)); exact BK327.out⟩, ⟨by (with_reducible repeat (first | refine blk_drewN ?_ _ | refine blk_drew ?_ | refine blk_alloc ?_ _)); exact BK328.out⟩, ⟨by (with_reducible repeat (first | refine blk_drewN ?_ _ | refine blk_drew ?_ | refine blk_alloc ?_ _)); exact BK329.out⟩, ⟨by (with_reducible repeat (first | refine blk_drewN ?_ _ | refine blk_drew ?_ | refine blk_alloc ?_ _)); exact BK338.out⟩, ⟨by (with_reducible repeat (first | refine blk_drewN ?_ _ | refine blk_drew ?_ | refine blk_alloc ?_ _)); exact BK339.out⟩, ⟨by repeat (first | (with_reducible first | exact HB.out | apply below_alloc | apply pw_below_drewN | apply below_drew1 | refine below_set ?_ GE327.out | refine below_set ?_ GE328.out | refine below_set ?_ GE329.out | refine below_set ?_ GE338.out | refine below_set ?_ GE339.out) | exact HB.out)⟩⟩
    · rw [if_neg c34] at H
      have c34b0 : decide (0 < t344) = false := decide_eq_false c34
      clear c34
      (first | rw [c34b0] | (simp only [i64_w, i32_w]; rw [c34b0]) | skip)
      by_cases c35 : t344 = 0
      · rw [if_pos c35] at H
        have c35b0 : (t344 == 0) = true := beq_iff_eq.mpr c35
        have c35b1 : (t344 != 0) = false := bne_eq_false_iff_eq.mpr c35
        clear c35
        replace H := Option.bind_eq_some_iff.mp H
        obtain ⟨t345, A360, H⟩ := H
        replace H : (spec_near.j0 k ((Go.bits .and .u64 t345 1) == 1) t330 t331) = some (r1, r2) := H
        have A36 := Aside0.mk A360
        clear A360
        have H' := Aside0.mk H
        clear H
        have hnb37 := NB338_327.out
        have hnc37 := NB327_338.out
        have hnb38 := NB338_328.out
        have hnc38 := NB328_338.out
        have hnb39 := NB338_329.out
        have hnc39 := NB329_338.out
        have hnb40 := NB338_339.out
        have hnc40 := NB339_338.out
        have hcz41_0 : w33.cell? ⟨gb338, 0, none⟩ = some (.bool t330) := (blk_cell BK338.out 0).trans rfl
        have hcz41_1 : w33.cell? ⟨gb338, 1, none⟩ = some (.slice Ao23 t331.length co23) := (blk_cell BK338.out 1).trans rfl
        have hfz41_0 := blk_frozen BK338.out 0
        have hfz41_1 := blk_frozen BK338.out 1
        go_wp2_with (first | (go_at_call 39; (with_reducible refine (spec_Int_low.calls k t330 _ _ t331 t345 _ ?side1 ?side2 A36.out).mono ?_); (case side1 => repeat (first | exact (Kd.R_reads' HO333.out).2.2 | (with_reducible refine Kd.C_alloc ?_ _) | (with_reducible refine Kd.C_drewN ?_ _) | (with_reducible refine Kd.C_drew ?_))); (case side2 => exact (Kd.R_reads' HO333.out).2.1); rintro e w42 ⟨rfl, hb⟩; have n0_ := Aside0.mk (Kd.R_below (by (with_reducible repeat (first | apply Kd.R_alloc | apply Kd.R_drewN | apply Kd.R_drew)); exact HO333.out) hb); have n1_ := Aside0.mk (Kd.R_below (by (with_reducible repeat (first | apply Kd.R_alloc | apply Kd.R_drewN | apply Kd.R_drew)); exact HO337.out) hb); have n2_ := Aside0.mk (Kd.R_below (by (with_reducible repeat (first | apply Kd.R_alloc | apply Kd.R_drewN | apply Kd.R_drew)); exact HO343.out) hb); have n3_ := Aside0.mk (blk_below (g := gb327) (o := .cells #[.bool a0_0, .slice A0_1 l0_1.length c0_1] 37 (0, 0)) (by (with_reducible repeat (first | refine blk_drewN ?_ _ | refine blk_drew ?_ | refine blk_alloc ?_ _)); exact BK327.out) hb); have n4_ := Aside0.mk (blk_below (g := gb328) (o := .cells #[.bool a1_0, .slice A1_1 l1_1.length c1_1] 37 (0, 0)) (by (with_reducible repeat (first | refine blk_drewN ?_ _ | refine blk_drew ?_ | refine blk_alloc ?_ _)); exact BK328.out) hb); have n5_ := Aside0.mk (blk_below (g := gb329) (o := .cells #[.bool false, .slice none 0 0] 37 (0, 0)) (by (with_reducible repeat (first | refine blk_drewN ?_ _ | refine blk_drew ?_ | refine blk_alloc ?_ _)); exact BK329.out) hb); have n6_ := Aside0.mk (blk_below (g := gb338) (o := .cells #[.bool t330, .slice Ao23 t331.length co23] 37 (0, 0)) (by (with_reducible repeat (first | refine blk_drewN ?_ _ | refine blk_drew ?_ | refine blk_alloc ?_ _)); exact BK338.out) hb); have n7_ := Aside0.mk (blk_below (g := gb339) (o := .cells #[.bool t334, .slice Ao28 t335.length co28] 37 (0, 0)) (by (with_reducible repeat (first | refine blk_drewN ?_ _ | refine blk_drew ?_ | refine blk_alloc ?_ _)); exact BK339.out) hb); have n8_ := Aside0.mk (below_step (by repeat (first | (with_reducible first | exact HB.out | apply below_alloc | apply pw_below_drewN | apply below_drew1 | refine below_set ?_ GE327.out | refine below_set ?_ GE328.out | refine below_set ?_ GE329.out | refine below_set ?_ GE338.out | refine below_set ?_ GE339.out) | exact HB.out)) hb); clear HO333; clear HO337; clear HO343; clear BK327; clear BK328; clear BK329; clear BK338; clear BK339; clear HB; have HO333 := n0_; have HO337 := n1_; have HO343 := n2_; have BK327 := n3_; have BK328 := n4_; have BK329 := n5_; have BK338 := n6_; have BK339 := n7_; have HB := n8_; clear n0_ n1_ n2_ n3_ n4_ n5_ n6_ n7_ n8_; (try clear hb); (try clear hb2); (try clear hk); (try clear hi)))
        go_meet
        case rel => exact ⟨_, (((Go.bits .and .u64 t345 1) == 1)), (by first | rfl | (simp; done) | (simp [*]; done)), H', ⟨by first | omega | exact Nat.le_refl _⟩, ⟨by (with_reducible repeat (first | apply Kd.R_alloc | apply Kd.R_drewN | apply Kd.R_drew)); exact Kd.R_mono HO333.out (fun _ hk => hk.1)⟩, ⟨by (with_reducible repeat (first | apply Kd.R_alloc | apply Kd.R_drewN | apply Kd.R_drew)); exact Kd.R_mono HO337.out (fun _ hk => hk.1)⟩, ⟨by (with_reducible repeat (first | refine blk_drewN ?_ _ | refine blk_drew ?_ | refine blk_alloc ?_ _)); exact BK327.out⟩, ⟨by (with_reducible repeat (first | refine blk_drewN ?_ _ | refine blk_drew ?_ | refine blk_alloc ?_ _)); exact BK328.out⟩, ⟨by (with_reducible repeat (first | refine blk_drewN ?_ _ | refine blk_drew ?_ | refine blk_alloc ?_ _)); exact BK329.out⟩, ⟨by (with_reducible repeat (first | refine blk_drewN ?_ _ | refine blk_drew ?_ | refine blk_alloc ?_ _)); exact BK338.out⟩, ⟨by (with_reducible repeat (first | refine blk_drewN ?_ _ | refine blk_drew ?_ | refine blk_alloc ?_ _)); exact BK339.out⟩, ⟨by repeat (first | (with_reducible first | exact HB.out | apply below_alloc | apply pw_below_drewN | apply below_drew1 | refine below_set ?_ GE327.out | refine below_set ?_ GE328.out | refine below_set ?_ GE329.out | refine below_set ?_ GE338.out | refine below_set ?_ GE339.out) | exact HB.out)⟩⟩
      · rw [if_neg c35] at H
        have c35b0 : (t344 == 0) = false := beq_eq_false_iff_ne.mpr c35
        have c35b1 : (t344 != 0) = true := bne_iff_ne.mpr c35
        have H' := Aside0.mk H
        clear H
        go_wp2
        go_meet
        case rel => exact ⟨_, (false), (by first | rfl | (simp; done) | (simp [*]; done)), H', ⟨by first | omega | exact Nat.le_refl _⟩, ⟨by (with_reducible repeat (first | apply Kd.R_alloc | apply Kd.R_drewN | apply Kd.R_drew)); exact Kd.R_mono HO333.out (fun _ hk => hk.1)⟩, ⟨by (with_reducible repeat (first | apply Kd.R_alloc | apply Kd.R_drewN | apply Kd.R_drew)); exact Kd.R_mono HO337.out (fun _ hk => hk.1)⟩, ⟨by (with_reducible repeat (first | refine blk_drewN ?_ _ | refine blk_drew ?_ | refine blk_alloc ?_ _)); exact BK327.out⟩, ⟨by (with_reducible repeat (first | refine blk_drewN ?_ _ | refine blk_drew ?_ | refine blk_alloc ?_ _)); exact BK328.out⟩, ⟨by (with_reducible repeat (first | refine blk_drewN ?_ _ | refine blk_drew ?_ | refine blk_alloc ?_ _)); exact BK329.out⟩, ⟨by (with_reducible repeat (first | refine blk_drewN ?_ _ | refine blk_drew ?_ | refine blk_alloc ?_ _)); exact BK338.out⟩, ⟨by (with_reducible repeat (first | refine blk_drewN ?_ _ | refine blk_drew ?_ | refine blk_alloc ?_ _)); exact BK339.out⟩, ⟨by repeat (first | (with_reducible first | exact HB.out | apply below_alloc | apply pw_below_drewN | apply below_drew1 | refine below_set ?_ GE327.out | refine below_set ?_ GE328.out | refine below_set ?_ GE329.out | refine below_set ?_ GE338.out | refine below_set ?_ GE339.out) | exact HB.out)⟩⟩
  case rest =>
    clear HC6
    try clear c1
    try clear c2
    try clear p2
    try clear c3
    try clear c4
    try clear c10
    try clear c11
    try clear c13
    try clear c18
    try clear c19
    try clear c20
    try clear c21
    try clear c24
    try clear c25
    try clear c26
    try clear c34
    try clear c34b0
    try clear c35
    try clear c35b0
    try clear c35b1
    try clear c36
    try clear c37
    try clear c38
    try clear c39
    try clear c40
    try clear hcz12_0
    try clear hcz12_1
    try clear hcz14_0
    try clear hcz14_1
    try clear hcz22_0
    try clear hcz22_1
    try clear hcz27_0
    try clear hcz27_1
    try clear hcz41_0
    try clear hcz41_1
    try clear hfz12_0
    try clear hfz12_1
    try clear hfz14_0
    try clear hfz14_1
    try clear hfz22_0
    try clear hfz22_1
    try clear hfz27_0
    try clear hfz27_1
    try clear hfz41_0
    try clear hfz41_1
    obtain ⟨kq, x30_5, rfl, HA, HJ5, HO_339001, HO_340001, BK327, BK328, BK329, BK338, BK339, HB⟩ := hcut
    cases kq with
    | zero => exact absurd HA.out (by simp [spec_near.j0])
    | succ kj5 =>
      have H := HA.out
      clear HA
      simp only [spec_near.j0] at H
      by_cases c43 : x30_5 = true
      · subst c43
        have H1 : ((spec_Small.f kj5 1).bind fun bt346 => ((spec_Int_Add.f kj5 t330 t331 bt346.1 bt346.2).bind fun bt350 => (some (bt350.1, bt350.2)))) = some (r1, r2) := by rw [if_pos rfl] at H; exact H
        clear H
        have H := H1
        clear H1
        replace H := Option.bind_eq_some_iff.mp H
        obtain ⟨⟨t346, t347⟩, A440, H⟩ := H
        replace H : ((spec_Int_Add.f kj5 t330 t331 t346 t347).bind fun bt350 => (some (bt350.1, bt350.2))) = some (r1, r2) := H
        have A44 := Aside0.mk A440
        clear A440
        replace H := Option.bind_eq_some_iff.mp H
        obtain ⟨⟨t350, t351⟩, A450, H⟩ := H
        replace H : (some (t350, t351)) = some (r1, r2) := H
        have A45 := Aside0.mk A450
        clear A450
        simp only [Option.some.injEq, Prod.mk.injEq] at H
        obtain ⟨rfl, rfl⟩ := H
        try go_wp2
        have n0_ := Aside0.mk (Kd.R_drew HO_339001.out)
        have n1_ := Aside0.mk (Kd.R_drew HO_340001.out)
        have n2_ := Aside0.mk (blk_drew BK327.out)
        have n3_ := Aside0.mk (blk_drew BK328.out)
        have n4_ := Aside0.mk (blk_drew BK329.out)
        have n5_ := Aside0.mk (blk_drew BK338.out)
        have n6_ := Aside0.mk (blk_drew BK339.out)
        have n7_ := Aside0.mk (below_drew1 HB.out)
        clear HO_339001
        clear HO_340001
        clear BK327
        clear BK328
        clear BK329
        clear BK338
        clear BK339
        clear HB
        have HO_339001 := n0_
        have HO_340001 := n1_
        have BK327 := n2_
        have BK328 := n3_
        have BK329 := n4_
        have BK338 := n5_
        have BK339 := n6_
        have HB := n7_
        clear n0_ n1_ n2_ n3_ n4_ n5_ n6_ n7_
        refine start_ (n := 4) (S := fun w' => w'.cell? ⟨gb338, 0, none⟩ = some (.bool t330) ∧ w'.cell? ⟨gb338, 1, none⟩ = some (.slice Ao23 t331.length co23)) (ds := [3]) #[false, false, false, false] (by kernel_rfl) rfl rfl ⟨(blk_cell BK338.out 0).trans rfl, (blk_cell BK338.out 1).trans rfl⟩ (fun hHeld => ?_)
        generalize wc.drew = w46 at HO_339001 HO_340001 BK327 BK328 BK329 BK338 BK339 HB hHeld ⊢
        refine take_ (i := 0) (N := some 31) (v := ?_) (a' := ?_) #[true, false, false, false] rfl rfl (by kernel_rfl) (fun _ _ _ h => h) (Or.inl ⟨by rfl, ?_⟩) hHeld ?_ ?_
        rotate_left
        · rintro w' ⟨s0, s1⟩
          go_simp
          with_reducible rfl
        rotate_left
        · simp only [Act.put, List.setIfInBounds_toArray, List.set_cons_zero, List.set_cons_succ, i64_w, i32_w]
          rfl
        refine one_ (i := 1) (N := some 32) #[true, true, false, false] rfl rfl (by kernel_rfl) (by decide) (fun K hK => ?_)
        refine goes_ Tryz.func22 (by kernel_rfl) rfl #[.int .i64 1] (by rfl) rfl rfl (by (try simp only [List.map_toArray, List.map_cons, List.map_nil]); first | done | rfl | (simp only [List.length_drop, List.length_take]; rfl)) ?_
        with_reducible refine (spec_Small.calls kj5 1 t346 t347 _ A44.out).mono ?_
        rintro e w47 ⟨v348, rfl, ho0, hb⟩
        refine ⟨_, rfl, ?_⟩
        have n0_ := Aside0.mk (Kd.R_elder' (by (with_reducible repeat (first | apply Kd.R_alloc | apply Kd.R_drewN | apply Kd.R_drew)); exact HO_339001.out) (Kd.R_base ho0) hb)
        have n1_ := Aside0.mk (Kd.R_elder' (by (with_reducible repeat (first | apply Kd.R_alloc | apply Kd.R_drewN | apply Kd.R_drew)); exact HO_340001.out) (Kd.R_base ho0) hb)
        have n2_ := Aside0.mk (Kd.R_lower (Kd.R_new' (Kd.R_new' ho0 (Kd.R_lt (by (with_reducible repeat (first | apply Kd.R_alloc | apply Kd.R_drewN | apply Kd.R_drew)); exact HO_339001.out))) (Kd.R_lt (by (with_reducible repeat (first | apply Kd.R_alloc | apply Kd.R_drewN | apply Kd.R_drew)); exact HO_340001.out))) (below_size (by repeat (first | (with_reducible first | exact HB.out | apply below_alloc | apply pw_below_drewN | apply below_drew1 | refine below_set ?_ GE327.out | refine below_set ?_ GE328.out | refine below_set ?_ GE329.out | refine below_set ?_ GE338.out | refine below_set ?_ GE339.out) | exact HB.out))))
        have n3_ := Aside0.mk (blk_below (g := gb327) (o := .cells #[.bool a0_0, .slice A0_1 l0_1.length c0_1] 37 (0, 0)) (by (with_reducible repeat (first | refine blk_drewN ?_ _ | refine blk_drew ?_ | refine blk_alloc ?_ _)); exact BK327.out) hb)
        have n4_ := Aside0.mk (blk_below (g := gb328) (o := .cells #[.bool a1_0, .slice A1_1 l1_1.length c1_1] 37 (0, 0)) (by (with_reducible repeat (first | refine blk_drewN ?_ _ | refine blk_drew ?_ | refine blk_alloc ?_ _)); exact BK328.out) hb)
        have n5_ := Aside0.mk (blk_below (g := gb329) (o := .cells #[.bool false, .slice none 0 0] 37 (0, 0)) (by (with_reducible repeat (first | refine blk_drewN ?_ _ | refine blk_drew ?_ | refine blk_alloc ?_ _)); exact BK329.out) hb)
        have n6_ := Aside0.mk (blk_below (g := gb338) (o := .cells #[.bool t330, .slice Ao23 t331.length co23] 37 (0, 0)) (by (with_reducible repeat (first | refine blk_drewN ?_ _ | refine blk_drew ?_ | refine blk_alloc ?_ _)); exact BK338.out) hb)
        have n7_ := Aside0.mk (blk_below (g := gb339) (o := .cells #[.bool t334, .slice Ao28 t335.length co28] 37 (0, 0)) (by (with_reducible repeat (first | refine blk_drewN ?_ _ | refine blk_drew ?_ | refine blk_alloc ?_ _)); exact BK339.out) hb)
        have n8_ := Aside0.mk (below_step (by repeat (first | (with_reducible first | exact HB.out | apply below_alloc | apply pw_below_drewN | apply below_drew1 | refine below_set ?_ GE327.out | refine below_set ?_ GE328.out | refine below_set ?_ GE329.out | refine below_set ?_ GE338.out | refine below_set ?_ GE339.out) | exact HB.out)) hb)
        clear HO_339001
        clear HO_340001
        clear BK327
        clear BK328
        clear BK329
        clear BK338
        clear BK339
        clear HB
        have HO_339001 := n0_
        have HO_340001 := n1_
        have HO349 := n2_
        have BK327 := n3_
        have BK328 := n4_
        have BK329 := n5_
        have BK338 := n6_
        have BK339 := n7_
        have HB := n8_
        clear n0_ n1_ n2_ n3_ n4_ n5_ n6_ n7_ n8_
        (try clear hb)
        (try clear hb2)
        (try clear hk)
        (try clear hi)
        (try clear ho0)
        obtain ⟨Ao48, co48, eo48⟩ := Kd.R_slice HO349.out
        (first | subst eo48 | (injection eo48 with f1_ f2_ f3_; have f4_ := f1_.symm; have f5_ := f3_.symm; clear f1_ f2_ f3_; subst f4_; subst f5_))
        refine hK.out _ _ ⟨(blk_cell BK338.out 0).trans rfl, (blk_cell BK338.out 1).trans rfl⟩ (fun hHeld => ?_)
        clear hK K
        refine norm_ (a' := ?_) ?_ ?_
        rotate_left
        · show Act.put _ (some 32) _ = _
          simp only [Act.put, List.setIfInBounds_toArray, List.set_cons_zero, List.set_cons_succ, i64_w, i32_w]
          rfl
        refine one_ (i := 2) (N := some 33) #[true, true, true, false] rfl rfl (by kernel_rfl) (by decide) (fun K hK => ?_)
        refine goes_ Tryz.func37 (by kernel_rfl) rfl #[.agg #[.bool t330, .slice Ao23 t331.length co23], .agg #[.bool t346, .slice Ao48 t347.length co48]] (by rfl) rfl rfl (by (try simp only [List.map_toArray, List.map_cons, List.map_nil]); first | done | rfl | (simp only [List.length_drop, List.length_take]; rfl)) ?_
        with_reducible refine (spec_Int_Add.calls kj5 t330 _ _ t331 t346 _ _ t347 t350 t351 _ ?side1 ?side2 ?side3 ?side4 A45.out).mono ?_
        (case side1 => repeat (first | exact (Kd.R_reads' HO_339001.out).2.2 | (with_reducible refine Kd.C_alloc ?_ _) | (with_reducible refine Kd.C_drewN ?_ _) | (with_reducible refine Kd.C_drew ?_)))
        (case side2 => exact (Kd.R_reads' HO_339001.out).2.1)
        (case side3 => repeat (first | exact (Kd.R_reads' HO349.out).2.2 | (with_reducible refine Kd.C_alloc ?_ _) | (with_reducible refine Kd.C_drewN ?_ _) | (with_reducible refine Kd.C_drew ?_)))
        (case side4 => exact (Kd.R_reads' HO349.out).2.1)
        rintro e w49 ⟨v352, rfl, ho0, hb⟩
        refine ⟨_, rfl, ?_⟩
        have n0_ := Aside0.mk (Kd.R_elder' (by (with_reducible repeat (first | apply Kd.R_alloc | apply Kd.R_drewN | apply Kd.R_drew)); exact HO_339001.out) (Kd.R_base ho0) hb)
        have n1_ := Aside0.mk (Kd.R_elder' (by (with_reducible repeat (first | apply Kd.R_alloc | apply Kd.R_drewN | apply Kd.R_drew)); exact HO_340001.out) (Kd.R_base ho0) hb)
        have n2_ := Aside0.mk (Kd.R_elder' (by (with_reducible repeat (first | apply Kd.R_alloc | apply Kd.R_drewN | apply Kd.R_drew)); exact HO349.out) (Kd.R_base ho0) hb)
        have n3_ := Aside0.mk (Kd.R_lower (Kd.R_new' (Kd.R_new' (Kd.R_new' ho0 (Kd.R_lt (by (with_reducible repeat (first | apply Kd.R_alloc | apply Kd.R_drewN | apply Kd.R_drew)); exact HO_339001.out))) (Kd.R_lt (by (with_reducible repeat (first | apply Kd.R_alloc | apply Kd.R_drewN | apply Kd.R_drew)); exact HO_340001.out))) (Kd.R_lt (by (with_reducible repeat (first | apply Kd.R_alloc | apply Kd.R_drewN | apply Kd.R_drew)); exact HO349.out))) (below_size (by repeat (first | (with_reducible first | exact HB.out | apply below_alloc | apply pw_below_drewN | apply below_drew1 | refine below_set ?_ GE327.out | refine below_set ?_ GE328.out | refine below_set ?_ GE329.out | refine below_set ?_ GE338.out | refine below_set ?_ GE339.out) | exact HB.out))))
        have n4_ := Aside0.mk (blk_below (g := gb327) (o := .cells #[.bool a0_0, .slice A0_1 l0_1.length c0_1] 37 (0, 0)) (by (with_reducible repeat (first | refine blk_drewN ?_ _ | refine blk_drew ?_ | refine blk_alloc ?_ _)); exact BK327.out) hb)
        have n5_ := Aside0.mk (blk_below (g := gb328) (o := .cells #[.bool a1_0, .slice A1_1 l1_1.length c1_1] 37 (0, 0)) (by (with_reducible repeat (first | refine blk_drewN ?_ _ | refine blk_drew ?_ | refine blk_alloc ?_ _)); exact BK328.out) hb)
        have n6_ := Aside0.mk (blk_below (g := gb329) (o := .cells #[.bool false, .slice none 0 0] 37 (0, 0)) (by (with_reducible repeat (first | refine blk_drewN ?_ _ | refine blk_drew ?_ | refine blk_alloc ?_ _)); exact BK329.out) hb)
        have n7_ := Aside0.mk (blk_below (g := gb338) (o := .cells #[.bool t330, .slice Ao23 t331.length co23] 37 (0, 0)) (by (with_reducible repeat (first | refine blk_drewN ?_ _ | refine blk_drew ?_ | refine blk_alloc ?_ _)); exact BK338.out) hb)
        have n8_ := Aside0.mk (blk_below (g := gb339) (o := .cells #[.bool t334, .slice Ao28 t335.length co28] 37 (0, 0)) (by (with_reducible repeat (first | refine blk_drewN ?_ _ | refine blk_drew ?_ | refine blk_alloc ?_ _)); exact BK339.out) hb)
        have n9_ := Aside0.mk (below_step (by repeat (first | (with_reducible first | exact HB.out | apply below_alloc | apply pw_below_drewN | apply below_drew1 | refine below_set ?_ GE327.out | refine below_set ?_ GE328.out | refine below_set ?_ GE329.out | refine below_set ?_ GE338.out | refine below_set ?_ GE339.out) | exact HB.out)) hb)
        clear HO_339001
        clear HO_340001
        clear HO349
        clear BK327
        clear BK328
        clear BK329
        clear BK338
        clear BK339
        clear HB
        have HO_339001 := n0_
        have HO_340001 := n1_
        have HO349 := n2_
        have HO353 := n3_
        have BK327 := n4_
        have BK328 := n5_
        have BK329 := n6_
        have BK338 := n7_
        have BK339 := n8_
        have HB := n9_
        clear n0_ n1_ n2_ n3_ n4_ n5_ n6_ n7_ n8_ n9_
        (try clear hb)
        (try clear hb2)
        (try clear hk)
        (try clear hi)
        (try clear ho0)
        obtain ⟨Ao51, co51, eo51⟩ := Kd.R_slice HO353.out
        (first | subst eo51 | (injection eo51 with f1_ f2_ f3_; have f4_ := f1_.symm; have f5_ := f3_.symm; clear f1_ f2_ f3_; subst f4_; subst f5_))
        refine hK.out _ _ ⟨(blk_cell BK338.out 0).trans rfl, (blk_cell BK338.out 1).trans rfl⟩ (fun hHeld => ?_)
        clear hK K
        refine norm_ (a' := ?_) ?_ ?_
        rotate_left
        · show Act.put _ (some 33) _ = _
          simp only [Act.put, List.setIfInBounds_toArray, List.set_cons_zero, List.set_cons_succ, i64_w, i32_w]
          rfl
        refine last_ (i := 3) (N := none) #[true, true, true, true] rfl rfl (by kernel_rfl) (by decide) (fun K hK => ?_)
        have hs50 : w49.cell? ⟨gb338, 0, none⟩ = some (.bool t330) := (blk_cell BK338.out 0).trans rfl
        have hfs50 := blk_frozen BK338.out 0
        have hns50_0 := NB327_338.out
        have hns50_1 := NB328_338.out
        have hns50_2 := NB329_338.out
        have hns50_4 := NB339_338.out
        have hms50_0 := NB338_327.out
        have hms50_1 := NB338_328.out
        have hms50_2 := NB338_329.out
        have hms50_4 := NB338_339.out
        have hs52 : w49.cell? ⟨gb338, 1, none⟩ = some (.slice Ao23 t331.length co23) := (blk_cell BK338.out 1).trans rfl
        have hfs52 := blk_frozen BK338.out 1
        have hns52_0 := NB327_338.out
        have hns52_1 := NB328_338.out
        have hns52_2 := NB329_338.out
        have hns52_4 := NB339_338.out
        have hms52_0 := NB338_327.out
        have hms52_1 := NB338_328.out
        have hms52_2 := NB338_329.out
        have hms52_4 := NB338_339.out
        refine skip_ (w1 := ?_) (by rfl) rfl ?_ ?_
        rotate_left
        · go_simp
          rfl
        refine hK.out _ _ ?_
        clear hK K
        refine done_ (by kernel_rfl) ?_
        have hnb53 := NB338_327.out
        have hnc53 := NB327_338.out
        have hnb54 := NB338_328.out
        have hnc54 := NB328_338.out
        have hnb55 := NB338_329.out
        have hnc55 := NB329_338.out
        have hnb56 := NB338_339.out
        have hnc56 := NB339_338.out
        have hcz57_0 : w49.cell? ⟨gb338, 0, none⟩ = some (.bool t330) := (blk_cell BK338.out 0).trans rfl
        have hcz57_1 : w49.cell? ⟨gb338, 1, none⟩ = some (.slice Ao23 t331.length co23) := (blk_cell BK338.out 1).trans rfl
        have hfz57_0 := blk_frozen BK338.out 0
        have hfz57_1 := blk_frozen BK338.out 1
        have hnb58 := NB329_327.out
        have hnc58 := NB327_329.out
        have hnb59 := NB329_328.out
        have hnc59 := NB328_329.out
        have hnb60 := NB329_339.out
        have hnc60 := NB339_329.out
        have hcz61_0 : w49.cell? ⟨gb329, 0, none⟩ = some (.bool false) := (blk_cell BK329.out 0).trans rfl
        have hcz61_1 : w49.cell? ⟨gb329, 1, none⟩ = some (.slice none 0 0) := (blk_cell BK329.out 1).trans rfl
        have hfz61_0 := blk_frozen BK329.out 0
        have hfz61_1 := blk_frozen BK329.out 1
        try go_wp2
        refine bodyPost_ret (results_cell_row rfl _ _ gb329 37 #[.bool t350, .slice Ao51 t351.length co51] (0, 0) _ rfl (by (with_reducible repeat (first | refine blk_drewN ?_ _ | refine blk_drew ?_ | refine blk_alloc ?_ _)); refine blk_put (cs := #[.bool t350, .slice none 0 0]) ?_ 1 _ rfl; (with_reducible repeat (first | refine blk_drewN ?_ _ | refine blk_drew ?_ | refine blk_alloc ?_ _)); refine blk_put (cs := #[.bool false, .slice none 0 0]) ?_ 0 _ rfl; (with_reducible repeat (first | refine blk_drewN ?_ _ | refine blk_drew ?_ | refine blk_alloc ?_ _)); refine blk_far ?_ NB329_338.out _; (with_reducible repeat (first | refine blk_drewN ?_ _ | refine blk_drew ?_ | refine blk_alloc ?_ _)); refine blk_far ?_ NB329_338.out _; (with_reducible repeat (first | refine blk_drewN ?_ _ | refine blk_drew ?_ | refine blk_alloc ?_ _)); exact BK329.out) Tryz.underlying37 rfl (by kernel_rfl)) rfl ?_
        exact ⟨_, by first | rfl | (simp [errW_none, errW_some] <;> rfl) | (simp [*, errW_none, errW_some] <;> rfl), by (with_reducible repeat (first | apply Kd.R_alloc | apply Kd.R_drewN | apply Kd.R_drew)); exact Kd.R_mono (Kd.R_far (p := ⟨gb329, 1, none⟩) (Kd.R_far (p := ⟨gb329, 0, none⟩) (Kd.R_far (p := ⟨gb338, 1, none⟩) (Kd.R_far (p := ⟨gb338, 0, none⟩) (Kd.R_types (Kd.R_types HO353.out BK338.out (by decide)) BK329.out (by decide)) (fun _ hk => hk.1.2) (.bool t350)) (fun _ hk => hk.1.2) (.slice Ao51 t351.length co51)) (fun _ hk => hk.2) (.bool t350)) (fun _ hk => hk.2) (.slice Ao51 t351.length co51)) (fun _ hk => trivial), by repeat (first | (with_reducible first | exact HB.out | apply below_alloc | apply pw_below_drewN | apply below_drew1 | refine below_set ?_ GE327.out | refine below_set ?_ GE328.out | refine below_set ?_ GE329.out | refine below_set ?_ GE338.out | refine below_set ?_ GE339.out) | exact HB.out)⟩
      · replace c43 := Bool.eq_false_iff.mpr c43
        subst c43
        have H1 : (some (t330, t331)) = some (r1, r2) := by rw [if_neg (show ¬ (false = true) by decide)] at H; exact H
        clear H
        have H := H1
        clear H1
        simp only [Option.some.injEq, Prod.mk.injEq] at H
        obtain ⟨rfl, rfl⟩ := H
        have hnb62 := NB338_327.out
        have hnc62 := NB327_338.out
        have hnb63 := NB338_328.out
        have hnc63 := NB328_338.out
        have hnb64 := NB338_329.out
        have hnc64 := NB329_338.out
        have hnb65 := NB338_339.out
        have hnc65 := NB339_338.out
        have hcz66_0 : wc.cell? ⟨gb338, 0, none⟩ = some (.bool t330) := (blk_cell BK338.out 0).trans rfl
        have hcz66_1 : wc.cell? ⟨gb338, 1, none⟩ = some (.slice Ao23 t331.length co23) := (blk_cell BK338.out 1).trans rfl
        have hfz66_0 := blk_frozen BK338.out 0
        have hfz66_1 := blk_frozen BK338.out 1
        have hnb67 := NB329_327.out
        have hnc67 := NB327_329.out
        have hnb68 := NB329_328.out
        have hnc68 := NB328_329.out
        have hnb69 := NB329_339.out
        have hnc69 := NB339_329.out
        have hcz70_0 : wc.cell? ⟨gb329, 0, none⟩ = some (.bool false) := (blk_cell BK329.out 0).trans rfl
        have hcz70_1 : wc.cell? ⟨gb329, 1, none⟩ = some (.slice none 0 0) := (blk_cell BK329.out 1).trans rfl
        have hfz70_0 := blk_frozen BK329.out 0
        have hfz70_1 := blk_frozen BK329.out 1
        go_wp2
        refine bodyPost_ret (results_cell_row rfl _ _ gb329 37 #[.bool t330, .slice Ao23 t331.length co23] (0, 0) _ rfl (by (with_reducible repeat (first | refine blk_drewN ?_ _ | refine blk_drew ?_ | refine blk_alloc ?_ _)); refine blk_put (cs := #[.bool t330, .slice none 0 0]) ?_ 1 _ rfl; (with_reducible repeat (first | refine blk_drewN ?_ _ | refine blk_drew ?_ | refine blk_alloc ?_ _)); refine blk_put (cs := #[.bool false, .slice none 0 0]) ?_ 0 _ rfl; (with_reducible repeat (first | refine blk_drewN ?_ _ | refine blk_drew ?_ | refine blk_alloc ?_ _)); exact BK329.out) Tryz.underlying37 rfl (by kernel_rfl)) rfl ?_
        exact ⟨_, by first | rfl | (simp [errW_none, errW_some] <;> rfl) | (simp [*, errW_none, errW_some] <;> rfl), by (with_reducible repeat (first | apply Kd.R_alloc | apply Kd.R_drewN | apply Kd.R_drew)); exact Kd.R_mono (Kd.R_far (p := ⟨gb329, 1, none⟩) (Kd.R_far (p := ⟨gb329, 0, none⟩) (Kd.R_types HO_339001.out BK329.out (by decide)) (fun _ hk => hk.2) (.bool t330)) (fun _ hk => hk.2) (.slice Ao23 t331.length co23)) (fun _ hk => trivial), by repeat (first | (with_reducible first | exact HB.out | apply below_alloc | apply pw_below_drewN | apply below_drew1 | refine below_set ?_ GE327.out | refine below_set ?_ GE328.out | refine below_set ?_ GE329.out | refine below_set ?_ GE338.out | refine below_set ?_ GE339.out) | exact HB.out)⟩
end Go.Proofs.YtdbjoiojiibdgaaGreatDoor.PFixed
namespace Go.Proofs.YtdbjoiojiibdgaaGreatDoor.PFixed
open Go.RowKit Go.Proofs.YtdbjoiojiibdgaaGreatDoorW.PrintWords Go.Proofs.YtdbjoiojiibdgaaGreatDoorW.PrintLast Go.Proofs.YtdbjoiojiibdgaaGreatDoorW.PrintMore
attribute [local go_sem] max2_int min2_int max_two min_two max_three min_three max_four min_four
set_option linter.unusedVariables false
set_option linter.unusedSimpArgs false
mutual
def spec_Int_Base.l0 : Nat → Int → List Int → List Int → Bool → List Int → Option (ByteArray)
  | 0, _, _, _, _, _ => none
  | k + 1, x1, x5, x6, x355000, x355001 => if (x6.length : Int) > 0 then (spec_Int_Base.l1 k x1 x5 x6 0 0 x355000 x355001) else (if x355000 = true then (if x5.length < 140737488355328 then (spec_Int_Base.j2 k (x5 ++ [45])) else (none)) else (spec_Int_Base.j2 k x5))
def spec_Int_Base.l1 : Nat → Int → List Int → List Int → Int → Int → Bool → List Int → Option (ByteArray)
  | 0, _, _, _, _, _, _, _ => none
  | k + 1, x1, x5, x6, x7, x8, x355000, x355001 => if x8 < (x6.length : Int) then (if 0 ≤ x8 then (if x1 = 0 then (none) else (spec_Int_Base.l1 k x1 x5 (x6.set (x8 : Int).toNat ((wrap64 (Int.tdiv (wrap64 ((wrap64 (x7 * 256)) + (wrap64 (rd x6 x8)))) x1)) % 256)) (Int.tmod (wrap64 ((wrap64 (x7 * 256)) + (wrap64 (rd x6 x8)))) x1) (wrap64 (x8 + 1)) x355000 x355001)) else (none)) else ((spec_cut.f k x6).bind fun t367 => (if 0 ≤ x7 then (if x7 < 36 then (if x5.length < 140737488355328 then (spec_Int_Base.l0 k x1 (x5 ++ [bt (⟨#[48, 49, 50, 51, 52, 53, 54, 55, 56, 57, 97, 98, 99, 100, 101, 102, 103, 104, 105, 106, 107, 108, 109, 110, 111, 112, 113, 114, 115, 116, 117, 118, 119, 120, 121, 122]⟩ : ByteArray) x7]) t367 x355000 x355001) else (none)) else (none)) else (none)))
def spec_Int_Base.j2 : Nat → List Int → Option (ByteArray)
  | 0, _ => none
  | k + 1, x5 => spec_Int_Base.l2 k x5 0 (wrap64 ((x5.length : Int) - 1))
def spec_Int_Base.l2 : Nat → List Int → Int → Int → Option (ByteArray)
  | 0, _, _, _ => none
  | k + 1, x5, x9, x10 => if x9 < x10 then (if 0 ≤ x10 then (if x10 < (x5.length : Int) then (if 0 ≤ x9 then (if x9 < (x5.length : Int) then (spec_Int_Base.l2 k ((x5.set (x9 : Int).toNat (rd x5 x10)).set (x10 : Int).toNat (rd x5 x9)) (wrap64 (x9 + 1)) (wrap64 (x10 - 1))) else (none)) else (none)) else (none)) else (none)) else (some (strOfNums x5))
end
def spec_Int_Base.f (k : Nat) (a0_0 : Bool) (l0_1 : List Int) (a1 : Int) : Option (ByteArray) := (spec_Int_Zero.f a0_0 l0_1).bind fun t355 => (if t355 = true then (some (⟨#[48]⟩ : ByteArray)) else ((some (([] : List Int) : List Int)).bind fun y359 => (if y359.length + l0_1.length < 140737488355328 then (spec_Int_Base.l0 k a1 (([] : List Int)) (y359 ++ l0_1) a0_0 l0_1) else (none))))
def spec_Int_Base.T20 : Bool × List (List Nat × List Nat) := (true, [([], []), ([], []), ([], []), ([], []), ([], []), ([], []), ([4, 5], [4, 5]), ([6], [6]), ([], []), ([], []), ([8, 9], [8, 9]), ([10], [10]), ([0, 1, 0, 1, 4, 5, 6, 7, 11], [0, 1]), ([12, 7, 0, 1, 4, 5, 6, 7, 11], [7, 12]), ([2, 3, 0, 1, 2, 3, 4, 5, 6, 7, 8, 9, 10, 11, 12, 13], [2, 3]), ([14, 11, 13, 0, 1, 2, 3, 4, 5, 6, 7, 8, 9, 10, 11, 12, 13], [11, 14])])
def spec_Int_Base.B20 : List Nat := [0, 0, 0, 0, 0, 0, 48, 112, 0, 0, 768, 1792, 4083, 8179, 16383, 32767]
theorem spec_Int_Base.tab20 : rtab .any (opsOf Tryz.f27 20) = spec_Int_Base.T20 := by kernel_rfl
theorem spec_Int_Base.bits20 : waitsOk spec_Int_Base.T20.2 spec_Int_Base.B20 = true := by kernel_rfl
set_option maxHeartbeats 8000000 in
set_option maxRecDepth 100000 in
theorem spec_Int_Base.calls (k : Nat) (a0_0 : Bool) (A0_1 : Option Addr) (c0_1 : Nat) (l0_1 : List Int) (a1 : Int) (r : ByteArray) (w : World) (hr0_1 : Kd.C (Kd.int .u8) w A0_1 l0_1.length l0_1) (hc0_1 : l0_1.length ≤ c0_1) (h : spec_Int_Base.f k a0_0 l0_1 a1 = some r) :
    Calls Tryz.prog 27 #[.agg #[.bool a0_0, .slice A0_1 l0_1.length c0_1], .int .i64 a1] w fun e w' => e = .returned (.string r) ∧ Below w.heap.size w w' := by
  have hu37 := Tryz.underlying37
  have HR0_1 := Aside0.mk hr0_1
  have HC0_1 := Aside0.mk hc0_1
  clear hr0_1 hc0_1
  have HB := Aside0.mk (Below.refl w.heap.size w)
  have H : ((spec_Int_Zero.f a0_0 l0_1).bind fun t355 => (if t355 = true then (some (⟨#[48]⟩ : ByteArray)) else ((some (([] : List Int) : List Int)).bind fun y359 => (if y359.length + l0_1.length < 140737488355328 then (spec_Int_Base.l0 k a1 (([] : List Int)) (y359 ++ l0_1) a0_0 l0_1) else (none))))) = some r := h
  clear h
  replace H := Option.bind_eq_some_iff.mp H
  obtain ⟨t355, A30, H⟩ := H
  replace H : (if t355 = true then (some (⟨#[48]⟩ : ByteArray)) else ((some (([] : List Int) : List Int)).bind fun y359 => (if y359.length + l0_1.length < 140737488355328 then (spec_Int_Base.l0 k a1 (([] : List Int)) (y359 ++ l0_1) a0_0 l0_1) else (none)))) = some r := H
  have A3 := Aside0.mk A30
  clear A30
  by_cases c4 : t355 = true
  · subst c4
    have H1 : (some (⟨#[48]⟩ : ByteArray)) = some r := by rw [if_pos rfl] at H; exact H
    clear H
    have H := H1
    clear H1
    obtain rfl := Option.some.inj H
    go_enter Tryz.func27, Tryz.ntmps27
    go_wp2_with (first | ((with_reducible refine gate_dst (N := 2) rfl ?_); refine box_event ?hg (N := 2) ?hd (cs := #[.bool a0_0, .slice A0_1 l0_1.length c0_1]) (t := 37) ?hr ?_; (case hd => rfl); (case hg => rfl); (case hr => first | (go_simp; done) | (go_simp; rfl)); intro gb354 hg w5 hbox hb; have n0_ := Aside0.mk (below_step (by repeat (first | (with_reducible first | exact HB.out | apply below_alloc | apply pw_below_drewN | apply below_drew1) | exact HB.out)) hb); have n1_ := Aside0.mk (hbox); have n2_ := Aside0.mk ((by rw [hg]; exact (below_size (by repeat (first | (with_reducible first | exact HB.out | apply below_alloc | apply pw_below_drewN | apply below_drew1) | exact HB.out))) : w.heap.size ≤ gb354)); have n3_ := Aside0.mk ((by rw [hg]; exact (below_size (by repeat (first | (with_reducible first | exact HB.out | apply below_alloc | apply pw_below_drewN | apply below_drew1) | exact HB.out))) : w.heap.size ≤ gb354)); clear HB; have HB := n0_; have BK354 := n1_; have GW354 := n2_; have GE354 := n3_; clear n0_ n1_ n2_ n3_; clear hb hbox hg; have hcz6_0 : w5.cell? ⟨gb354, 0, none⟩ = some (.bool a0_0) := (blk_cell BK354.out 0).trans rfl; have hcz6_1 : w5.cell? ⟨gb354, 1, none⟩ = some (.slice A0_1 l0_1.length c0_1) := (blk_cell BK354.out 1).trans rfl; have hfz6_0 := blk_frozen BK354.out 0; have hfz6_1 := blk_frozen BK354.out 1) | ((with_reducible refine gate_callee (f := 33) rfl ?_); refine goesL_ (some 12) rfl rfl Tryz.func33 (by kernel_rfl) rfl #[.agg #[.bool a0_0, .slice A0_1 l0_1.length c0_1]] rfl (by (try simp only [List.map_toArray, List.map_cons, List.map_nil]); first | done | rfl | (simp only [List.length_drop, List.length_take]; rfl)) ?_; (with_reducible refine (spec_Int_Zero.calls a0_0 _ _ l0_1 true _ ?side1 ?side2 A3.out).mono ?_); (case side1 => repeat (first | exact (Kd.C_below HR0_1.out HB.out) | (with_reducible refine Kd.C_alloc ?_ _) | (with_reducible refine Kd.C_drewN ?_ _) | (with_reducible refine Kd.C_drew ?_))); (case side2 => exact HC0_1.out); rintro e w7 ⟨rfl, hb⟩; refine ⟨_, rfl, ?_⟩; have n0_ := Aside0.mk (blk_below (g := gb354) (o := .cells #[.bool a0_0, .slice A0_1 l0_1.length c0_1] 37 (0, 0)) (by (with_reducible repeat (first | refine blk_drewN ?_ _ | refine blk_drew ?_ | refine blk_alloc ?_ _)); exact BK354.out) hb); have n1_ := Aside0.mk (below_step (by repeat (first | (with_reducible first | exact HB.out | apply below_alloc | apply pw_below_drewN | apply below_drew1 | refine below_set ?_ GE354.out) | exact HB.out)) hb); clear BK354; clear HB; have BK354 := n0_; have HB := n1_; clear n0_ n1_; (try clear hb); (try clear hb2); (try clear hk); (try clear hi)))
    go_ret
    exact ⟨by first | rfl | (simp [errW_none, errW_some] <;> rfl) | (simp [*, errW_none, errW_some] <;> rfl), by repeat (first | (with_reducible first | exact HB.out | apply below_alloc | apply pw_below_drewN | apply below_drew1 | refine below_set ?_ GE354.out) | exact HB.out)⟩
  · replace c4 := Bool.eq_false_iff.mpr c4
    subst c4
    have H1 : ((some (([] : List Int) : List Int)).bind fun y359 => (if y359.length + l0_1.length < 140737488355328 then (spec_Int_Base.l0 k a1 (([] : List Int)) (y359 ++ l0_1) a0_0 l0_1) else (none))) = some r := by rw [if_neg (show ¬ (false = true) by decide)] at H; exact H
    clear H
    have H := H1
    clear H1
    obtain ⟨y356, hy356⟩ : ∃ y_ : List Int, y_ = (([] : List Int)) := ⟨_, rfl⟩
    replace H : ((some (([] : List Int) : List Int)).bind fun y359 => (if y359.length + l0_1.length < 140737488355328 then (spec_Int_Base.l0 k a1 y356 (y359 ++ l0_1) a0_0 l0_1) else (none))) = some r := by first | (rw [hy356]; with_reducible exact H) | (have H2_ := (Option.bind_some _ _).symm.trans H; rw [hy356]; with_reducible exact H2_) | (have H2_ := (Option.bind_some _ _).symm.trans H; with_reducible exact H2_) | with_reducible exact H | (rw [hy356]; exact H) | exact H
    have Ny356 := Aside0.mk hy356
    clear hy356
    obtain ⟨y359, hy359⟩ : ∃ y_ : List Int, y_ = (([] : List Int)) := ⟨_, rfl⟩
    replace H : (if y359.length + l0_1.length < 140737488355328 then (spec_Int_Base.l0 k a1 y356 (y359 ++ l0_1) a0_0 l0_1) else (none)) = some r := by first | (rw [hy359]; with_reducible exact H) | (have H2_ := (Option.bind_some _ _).symm.trans H; rw [hy359]; with_reducible exact H2_) | (have H2_ := (Option.bind_some _ _).symm.trans H; with_reducible exact H2_) | with_reducible exact H | (rw [hy359]; exact H) | exact H
    have Ny359 := Aside0.mk hy359
    clear hy359
    by_cases c8 : y359.length + l0_1.length < 140737488355328
    · rw [if_pos c8] at H
      have LMc8 := Aside0.mk c8
      clear c8
      obtain ⟨y362, hy362⟩ : ∃ y_ : List Int, y_ = (y359 ++ l0_1) := ⟨_, rfl⟩
      replace H : (spec_Int_Base.l0 k a1 y356 y362 a0_0 l0_1) = some r := by first | (rw [hy362]; with_reducible exact H) | (have H2_ := (Option.bind_some _ _).symm.trans H; rw [hy362]; with_reducible exact H2_) | (have H2_ := (Option.bind_some _ _).symm.trans H; with_reducible exact H2_) | with_reducible exact H | (rw [hy362]; exact H) | exact H
      have Ny362 := Aside0.mk hy362
      clear hy362
      have H' := Aside0.mk H
      clear H
      go_enter Tryz.func27, Tryz.ntmps27
      go_wp2_with (first | ((with_reducible refine gate_dst (N := 2) rfl ?_); refine box_event ?hg (N := 2) ?hd (cs := #[.bool a0_0, .slice A0_1 l0_1.length c0_1]) (t := 37) ?hr ?_; (case hd => rfl); (case hg => rfl); (case hr => first | (go_simp; done) | (go_simp; rfl)); intro gb354 hg w9 hbox hb; have n0_ := Aside0.mk (below_step (by repeat (first | (with_reducible first | exact HB.out | apply below_alloc | apply pw_below_drewN | apply below_drew1) | exact HB.out)) hb); have n1_ := Aside0.mk (hbox); have n2_ := Aside0.mk ((by rw [hg]; exact (below_size (by repeat (first | (with_reducible first | exact HB.out | apply below_alloc | apply pw_below_drewN | apply below_drew1) | exact HB.out))) : w.heap.size ≤ gb354)); have n3_ := Aside0.mk ((by rw [hg]; exact (below_size (by repeat (first | (with_reducible first | exact HB.out | apply below_alloc | apply pw_below_drewN | apply below_drew1) | exact HB.out))) : w.heap.size ≤ gb354)); clear HB; have HB := n0_; have BK354 := n1_; have GW354 := n2_; have GE354 := n3_; clear n0_ n1_ n2_ n3_; clear hb hbox hg; have hcz10_0 : w9.cell? ⟨gb354, 0, none⟩ = some (.bool a0_0) := (blk_cell BK354.out 0).trans rfl; have hcz10_1 : w9.cell? ⟨gb354, 1, none⟩ = some (.slice A0_1 l0_1.length c0_1) := (blk_cell BK354.out 1).trans rfl; have hfz10_0 := blk_frozen BK354.out 0; have hfz10_1 := blk_frozen BK354.out 1) | ((with_reducible refine gate_callee (f := 33) rfl ?_); refine goesL_ (some 12) rfl rfl Tryz.func33 (by kernel_rfl) rfl #[.agg #[.bool a0_0, .slice A0_1 l0_1.length c0_1]] rfl (by (try simp only [List.map_toArray, List.map_cons, List.map_nil]); first | done | rfl | (simp only [List.length_drop, List.length_take]; rfl)) ?_; (with_reducible refine (spec_Int_Zero.calls a0_0 _ _ l0_1 false _ ?side1 ?side2 A3.out).mono ?_); (case side1 => repeat (first | exact (Kd.C_below HR0_1.out HB.out) | (with_reducible refine Kd.C_alloc ?_ _) | (with_reducible refine Kd.C_drewN ?_ _) | (with_reducible refine Kd.C_drew ?_))); (case side2 => exact HC0_1.out); rintro e w11 ⟨rfl, hb⟩; refine ⟨_, rfl, ?_⟩; have n0_ := Aside0.mk (blk_below (g := gb354) (o := .cells #[.bool a0_0, .slice A0_1 l0_1.length c0_1] 37 (0, 0)) (by (with_reducible repeat (first | refine blk_drewN ?_ _ | refine blk_drew ?_ | refine blk_alloc ?_ _)); exact BK354.out) hb); have n1_ := Aside0.mk (below_step (by repeat (first | (with_reducible first | exact HB.out | apply below_alloc | apply pw_below_drewN | apply below_drew1 | refine below_set ?_ GE354.out) | exact HB.out)) hb); clear BK354; clear HB; have BK354 := n0_; have HB := n1_; clear n0_ n1_; (try clear hb); (try clear hb2); (try clear hk); (try clear hi)) | ((with_reducible refine gate_dst (N := 13) rfl ?_); refine Kd.R_lit (Kd.int .u8) _ 5 ?hg (N := 13) ?hd (xs := ([] : List Int)) (inner := []) (ok := fun _ => True) (okp := fun _ => True) ?hr ?hp (fun _ hk => hk) trivial (Below.refl _ _) (Nat.le_refl _) (by simp) ?_; (case hd => rfl); (case hg => rfl); (case hr => first | (go_simp; done) | (go_simp; rfl)); (case hp => exact (Reps.none _ _)); intro v357 w12 ho13 hb hg_ hnew_; clear hg_ hnew_; (first | rw [← Ny356.out] at ho13 | (simp only [Int.reduceToNat] at ho13; rw [← Ny356.out] at ho13)); have n0_ := Aside0.mk (Kd.R_lower ho13 (below_size (by repeat (first | (with_reducible first | exact HB.out | apply below_alloc | apply pw_below_drewN | apply below_drew1 | refine below_set ?_ GE354.out) | exact HB.out)))); have n1_ := Aside0.mk (blk_below (g := gb354) (o := .cells #[.bool a0_0, .slice A0_1 l0_1.length c0_1] 37 (0, 0)) (by (with_reducible repeat (first | refine blk_drewN ?_ _ | refine blk_drew ?_ | refine blk_alloc ?_ _)); exact BK354.out) hb); have n2_ := Aside0.mk (below_step (by repeat (first | (with_reducible first | exact HB.out | apply below_alloc | apply pw_below_drewN | apply below_drew1 | refine below_set ?_ GE354.out) | exact HB.out)) hb); clear BK354; clear HB; have HO358 := n0_; have BK354 := n1_; have HB := n2_; clear n0_ n1_ n2_; clear hb ho13) | ((with_reducible refine gate_dst (N := 14) rfl ?_); refine Kd.R_lit (Kd.int .u8) _ 5 ?hg (N := 14) ?hd (xs := ([] : List Int)) (inner := []) (ok := fun _ => True) (okp := fun _ => True) ?hr ?hp (fun _ hk => hk) trivial (Below.refl _ _) (Nat.le_refl _) (by simp) ?_; (case hd => rfl); (case hg => rfl); (case hr => first | (go_simp; done) | (go_simp; rfl)); (case hp => exact (Reps.none _ _)); intro v360 w14 ho15 hb hg_ hnew_; clear hg_ hnew_; (first | rw [← Ny359.out] at ho15 | (simp only [Int.reduceToNat] at ho15; rw [← Ny359.out] at ho15)); have n0_ := Aside0.mk (Kd.R_elder' (by (with_reducible repeat (first | apply Kd.R_alloc | apply Kd.R_drewN | apply Kd.R_drew)); exact HO358.out) (Kd.R_base ho15) hb); have n1_ := Aside0.mk (Kd.R_lower (Kd.R_new' ho15 (Kd.R_lt (by (with_reducible repeat (first | apply Kd.R_alloc | apply Kd.R_drewN | apply Kd.R_drew)); exact HO358.out))) (below_size (by repeat (first | (with_reducible first | exact HB.out | apply below_alloc | apply pw_below_drewN | apply below_drew1 | refine below_set ?_ GE354.out) | exact HB.out)))); have n2_ := Aside0.mk (blk_below (g := gb354) (o := .cells #[.bool a0_0, .slice A0_1 l0_1.length c0_1] 37 (0, 0)) (by (with_reducible repeat (first | refine blk_drewN ?_ _ | refine blk_drew ?_ | refine blk_alloc ?_ _)); exact BK354.out) hb); have n3_ := Aside0.mk (below_step (by repeat (first | (with_reducible first | exact HB.out | apply below_alloc | apply pw_below_drewN | apply below_drew1 | refine below_set ?_ GE354.out) | exact HB.out)) hb); clear HO358; clear BK354; clear HB; have HO358 := n0_; have HO361 := n1_; have BK354 := n2_; have HB := n3_; clear n0_ n1_ n2_ n3_; clear hb ho15; have hcz16_0 : w14.cell? ⟨gb354, 0, none⟩ = some (.bool a0_0) := (blk_cell BK354.out 0).trans rfl; have hcz16_1 : w14.cell? ⟨gb354, 1, none⟩ = some (.slice A0_1 l0_1.length c0_1) := (blk_cell BK354.out 1).trans rfl; have hfz16_0 := blk_frozen BK354.out 0; have hfz16_1 := blk_frozen BK354.out 1) | ((with_reducible refine gate_builtin (b := .append) (xs := #[.tmp 14, .tmp 16]) rfl ?_); at_builtin; refine Kd.R_append_rows (Kd.int .u8) (w0 := w) w.heap.size rfl (.tmp 14) (.tmp 16) 35 5 (.int .u8 0) 1 rfl Tryz.underlying35 info5 rfl (by decide) (by omega) v360 y359 l0_1 _ _ _ (fun k_ => some k_ ≠ (v357 : Value).ownBlock) (fun _ => False) rfl rfl ?aO ?aR (fun _ _ h => h) (fun _ h => h.elim) ?aF ?aB ?aS ?aL ?_; (case aR => repeat (first | exact (Kd.C_below HR0_1.out HB.out) | (with_reducible refine Kd.C_alloc ?_ _) | (with_reducible refine Kd.C_drewN ?_ _) | (with_reducible refine Kd.C_drew ?_))); (case aB => exact (by repeat (first | (with_reducible first | exact HB.out | apply below_alloc | apply pw_below_drewN | apply below_drew1 | refine below_set ?_ GE354.out) | exact HB.out))); (case aF => exact (fun k_ hk => Kd.fresh' (Kd.R_lt (by (with_reducible repeat (first | apply Kd.R_alloc | apply Kd.R_drewN | apply Kd.R_drew)); exact HO358.out)) k_ hk)); (case aO => exact (by (with_reducible repeat (first | apply Kd.R_alloc | apply Kd.R_drewN | apply Kd.R_drew)); exact Kd.R_mono HO361.out (fun _ hk => hk.2))); (case aS => exact (below_size (by repeat (first | (with_reducible first | exact HB.out | apply below_alloc | apply pw_below_drewN | apply below_drew1 | refine below_set ?_ GE354.out) | exact HB.out)))); (case aL => have := LMc8.out; omega); intro v363 w17 ho hb hg hat; rw [← Ny362.out] at ho; have n0_ := Aside0.mk (blk_grown (g := gb354) (o := .cells #[.bool a0_0, .slice A0_1 l0_1.length c0_1] 37 (0, 0)) (by (with_reducible repeat (first | refine blk_drewN ?_ _ | refine blk_drew ?_ | refine blk_alloc ?_ _)); exact BK354.out) hg (Kd.R_ne HO361.out BK354.out (by decide))); have n1_ := Aside0.mk (Kd.R_after (ok := (fun _ => True)) (by (with_reducible repeat (first | apply Kd.R_alloc | apply Kd.R_drewN | apply Kd.R_drew)); exact HO358.out) hg hat); have n2_ := Aside0.mk (hb); have n3_ := Aside0.mk (ho); clear BK354; clear HO358; clear HB; clear HO361; have BK354 := n0_; have HO358 := n1_; have HB := n2_; have HO364 := n3_; clear n0_ n1_ n2_ n3_; clear ho hb hg hat))
      go_loopg [5, 6] k (fun kq v5 v6 w' => ∃ (x5_1 : List Int) (x6_1 : List Int), Aside0 (spec_Int_Base.l0 kq a1 x5_1 x6_1 a0_0 l0_1 = some r) ∧ Aside0 (kq ≤ k) ∧ Aside0 (Kd.R (Kd.int .u8) 5 w' w.heap.size (fun k_ => some k_ ≠ (v6 : Value).ownBlock) v5 x5_1) ∧ Aside0 (Kd.R (Kd.int .u8) 5 w' w.heap.size (fun k_ => some k_ ≠ (v5 : Value).ownBlock) v6 x6_1) ∧ Aside0 (w'.heap[gb354]? = some (.cells #[.bool a0_0, (.slice A0_1 l0_1.length c0_1)] 37 (0, 0))) ∧ Aside0 (Below w.heap.size w w'))
      case atStart => exact ⟨(y356), (y362), H', ⟨Nat.le_refl _⟩, ⟨by (with_reducible repeat (first | apply Kd.R_alloc | apply Kd.R_drewN | apply Kd.R_drew)); exact Kd.R_mono HO358.out (fun _ hk => hk.2)⟩, ⟨by (with_reducible repeat (first | apply Kd.R_alloc | apply Kd.R_drewN | apply Kd.R_drew)); exact HO364.out⟩, ⟨by (with_reducible repeat (first | refine blk_drewN ?_ _ | refine blk_drew ?_ | refine blk_alloc ?_ _)); exact BK354.out⟩, ⟨by repeat (first | (with_reducible first | exact HB.out | apply below_alloc | apply pw_below_drewN | apply below_drew1 | refine below_set ?_ GE354.out) | exact HB.out)⟩⟩
      case round =>
        clear H'
        try clear c2
        try clear p2
        try clear c3
        try clear c4
        try clear c8
        try clear hcz10_0
        try clear hcz10_1
        try clear hcz16_0
        try clear hcz16_1
        try clear hcz6_0
        try clear hcz6_1
        try clear hfz10_0
        try clear hfz10_1
        try clear hfz16_0
        try clear hfz16_1
        try clear hfz6_0
        try clear hfz6_1
        obtain ⟨x5_1, x6_1, HA, HK1, HO_5, HO_6, BK354, HB⟩ := hrel
        cases gk with
        | zero => exact absurd HA.out (by simp [spec_Int_Base.l0])
        | succ k1 =>
          have H := HA.out
          clear HA
          simp only [spec_Int_Base.l0] at H
          by_cases c18 : (x6_1.length : Int) > 0
          · rw [if_pos c18] at H
            have c18b0 : decide (0 < (x6_1.length : Int)) = true := decide_eq_true c18
            have c18b1 : decide (0 < x6_1.length) = true := decide_eq_true (by omega)
            clear c18
            have H' := Aside0.mk H
            clear H
            obtain ⟨Ao19, co19, eo19⟩ := Kd.R_slice HO_6.out
            subst eo19
            go_wp2
            go_loopg [7, 8] k1 (fun kq v7 v8 w' => ∃ (x6_2 : List Int) (x7_2 : Int) (x8_2 : Int), v7 = .int .i64 x7_2 ∧ v8 = .int .i64 x8_2 ∧ Aside0 (spec_Int_Base.l1 kq a1 x5_1 x6_2 x7_2 x8_2 a0_0 l0_1 = some r) ∧ Aside0 (kq ≤ k1) ∧ Aside0 (Kd.R (Kd.int .u8) 5 w' w.heap.size (fun k_ => some k_ ≠ ((.slice Ao19 x6_1.length co19) : Value).ownBlock) u5 x5_1) ∧ Aside0 (Kd.R (Kd.int .u8) 5 w' w.heap.size (fun k_ => some k_ ≠ (u5 : Value).ownBlock) (.slice Ao19 x6_1.length co19) x6_2) ∧ Aside0 (w'.heap[gb354]? = some (.cells #[.bool a0_0, (.slice A0_1 l0_1.length c0_1)] 37 (0, 0))) ∧ Aside0 (Below w.heap.size w w'))
            case atStart => exact ⟨(x6_1), (0), (0), (by first | rfl | (simp; done) | (simp [*]; done)), (by first | rfl | (simp; done) | (simp [*]; done)), H', ⟨Nat.le_refl _⟩, ⟨by (with_reducible repeat (first | apply Kd.R_alloc | apply Kd.R_drewN | apply Kd.R_drew)); exact HO_5.out⟩, ⟨by (with_reducible repeat (first | apply Kd.R_alloc | apply Kd.R_drewN | apply Kd.R_drew)); exact HO_6.out⟩, ⟨by (with_reducible repeat (first | refine blk_drewN ?_ _ | refine blk_drew ?_ | refine blk_alloc ?_ _)); exact BK354.out⟩, ⟨by repeat (first | (with_reducible first | exact HB.out | apply below_alloc | apply pw_below_drewN | apply below_drew1 | refine below_set ?_ GE354.out) | exact HB.out)⟩⟩
            case round =>
              clear H'
              try clear c1
              try clear c2
              try clear p2
              try clear c3
              try clear c4
              try clear c8
              try clear c18
              try clear c18b0
              try clear c18b1
              try clear hcz10_0
              try clear hcz10_1
              try clear hcz16_0
              try clear hcz16_1
              try clear hcz6_0
              try clear hcz6_1
              try clear hfz10_0
              try clear hfz10_1
              try clear hfz16_0
              try clear hfz16_1
              try clear hfz6_0
              try clear hfz6_1
              try clear p2
              obtain ⟨x6_2, x7_2, x8_2, rfl, rfl, HA, HK2, HO_5, HO_6, BK354, HB⟩ := hrel
              have hl6_2 := (Kd.R_reads' HO_6.out).1
              rw [hl6_2] at HO_6
              (try simp only [hl6_2])
              (try simp only [hl6_2] at BK354)
              (try simp only [hl6_2] at HO_5)
              cases gk with
              | zero => exact absurd HA.out (by simp [spec_Int_Base.l1])
              | succ k2 =>
                have H := HA.out
                clear HA
                simp only [spec_Int_Base.l1] at H
                by_cases c20 : x8_2 < (x6_2.length : Int)
                · rw [if_pos c20] at H
                  have c20b0 : decide (x8_2 < (x6_2.length : Int)) = true := decide_eq_true c20
                  clear c20
                  by_cases c21 : 0 ≤ x8_2
                  · rw [if_pos c21] at H
                    have c21b0 : decide (0 ≤ x8_2) = true := decide_eq_true c21
                    clear c21
                    by_cases c22 : a1 = 0
                    · rw [if_pos c22] at H
                      exact absurd H (by simp)
                    · rw [if_neg c22] at H
                      have c22b0 : (a1 == 0) = false := beq_eq_false_iff_ne.mpr c22
                      have c22b1 : (a1 != 0) = true := bne_iff_ne.mpr c22
                      obtain ⟨y366, hy366⟩ : ∃ y_ : List Int, y_ = (x6_2.set (x8_2 : Int).toNat ((wrap64 (Int.tdiv (wrap64 ((wrap64 (x7_2 * 256)) + (wrap64 (rd x6_2 x8_2)))) a1)) % 256)) := ⟨_, rfl⟩
                      replace H : (spec_Int_Base.l1 k2 a1 x5_1 y366 (Int.tmod (wrap64 ((wrap64 (x7_2 * 256)) + (wrap64 (rd x6_2 x8_2)))) a1) (wrap64 (x8_2 + 1)) a0_0 l0_1) = some r := by first | (rw [hy366]; with_reducible exact H) | (have H2_ := (Option.bind_some _ _).symm.trans H; rw [hy366]; with_reducible exact H2_) | (have H2_ := (Option.bind_some _ _).symm.trans H; with_reducible exact H2_) | with_reducible exact H | (rw [hy366]; exact H) | exact H
                      have Ny366 := Aside0.mk hy366
                      clear hy366
                      have H' := Aside0.mk H
                      clear H
                      have p365 : 0 ≤ (x8_2 : Int) := of_decide_eq_true (by first | (with_reducible assumption) | assumption)
                      have q365 : x8_2 < (x6_2.length : Int) := of_decide_eq_true (by first | (with_reducible assumption) | assumption)
                      obtain ⟨ad365, e365, hx365_0⟩ := Kd.at_int (Kd.R_reads' HO_6.out).2.2 x8_2 p365 q365
                      cases e365
                      replace p365 := eq_true p365
                      replace q365 := eq_true q365
                      have p23 : 0 ≤ (x8_2 : Int) := of_decide_eq_true (by first | (with_reducible assumption) | assumption)
                      have q23 : (x8_2 : Int) < ((x6_2.length : Int) : Int) := of_decide_eq_true (by first | (with_reducible assumption) | assumption)
                      obtain ⟨go23, co23, eo23, gb23, gl23, cl23, HG23⟩ := Kd.R_form HO_6.out (by omega)
                      (first | cases eo23 | (injection eo23 with ea_ en_ ec_; (first | subst ea_ | (injection ea_ with ea_; subst ea_)); subst ec_; clear en_))
                      have GB23 := Aside0.mk gb23
                      have GG23 := Aside0.mk HG23
                      clear gb23 gl23 HG23
                      (first | simp only [add_plain] at hx365_0 | skip)
                      obtain ⟨hx23_0, hf23_0⟩ := Kd.R_celln 0 HO_6.out (x8_2 : Int) p23 q23
                      replace p23 := eq_true p23
                      replace q23 := eq_true q23
                      have HP24 := Kd.R_putg HO_6.out (x8_2 : Int) ((wrap64 (Int.tdiv (wrap64 ((wrap64 (x7_2 * 256)) + (wrap64 (rd x6_2 x8_2)))) a1)) % 256)
                      go_wp2_with (first | ((with_reducible refine gate_store (t := 5) (p := 41) rfl ?_); refine store_event (t := 5) (p := 41) (v := ?vo_w25) (w1 := (wr.setCell ⟨go23, (x8_2 : Int).toNat, none⟩ (.int .u8 ((wrap64 (Int.tdiv (wrap64 ((wrap64 (x7_2 * 256)) + (wrap64 (rd x6_2 x8_2)))) a1)) % 256)))) ?hg ?ho ?hn ?hr ?_; (case ho => rfl); (case hg => rfl); (case hn => rfl); (case hr => first | (go_simp; done) | (go_simp; rfl)); intro w25 hw; have hg : wr.grownBy w25 (some go23) := (by rw [hw]; exact HP24.2); have hp_ : Kd.R (Kd.int .u8) 5 w25 w.heap.size (fun k_ => some k_ ≠ (u5 : Value).ownBlock) (.slice (some ⟨go23, 0, none⟩) x6_2.length co19) y366 := (by rw [hw, Ny366.out]; exact HP24.1); clear HP24; have n0_ := Aside0.mk (Kd.R_after (v := (.slice (some ⟨go23, 0, none⟩) x6_2.length co19)) (v1 := (.slice (some ⟨go23, 0, none⟩) x6_2.length co19)) (ok := (fun _ => True)) (by (with_reducible repeat (first | apply Kd.R_alloc | apply Kd.R_drewN | apply Kd.R_drew)); exact Kd.R_mono HO_5.out (fun _ hk => ⟨trivial, hk⟩)) hg (.inl rfl)); have n1_ := Aside0.mk (hp_); have n2_ := Aside0.mk (blk_grown (g := gb354) (o := .cells #[.bool a0_0, .slice A0_1 l0_1.length c0_1] 37 (0, 0)) (by (with_reducible repeat (first | refine blk_drewN ?_ _ | refine blk_drew ?_ | refine blk_alloc ?_ _)); exact BK354.out) hg (Kd.R_ne HO_6.out BK354.out (by decide))); have n3_ := Aside0.mk ((by rw [hw]; exact below_set (HB.out) GB23.out : Below w.heap.size w w25)); clear HO_5; clear HO_6; clear BK354; clear HB; have HO_5 := n0_; have HO_6 := n1_; have BK354 := n2_; have HB := n3_; clear n0_ n1_ n2_ n3_; clear hg hw hp_))
                      (try simp only [← hl6_2])
                      go_roundg k2
                      case measure => have := HK1.out; have := HK2.out; omega
                      case rel => exact ⟨(y366), (Int.tmod (wrap64 ((wrap64 (x7_2 * 256)) + (wrap64 (rd x6_2 x8_2)))) a1), (wrap64 (x8_2 + 1)), (by first | rfl | (simp; done) | (simp [*]; done)), (by first | rfl | (simp; done) | (simp [*]; done)), H', ⟨by have := HK1.out; have := HK2.out; omega⟩, ⟨by (try simp only [hl6_2]); (with_reducible repeat (first | apply Kd.R_alloc | apply Kd.R_drewN | apply Kd.R_drew)); exact Kd.R_mono HO_5.out (fun _ hk => hk.2)⟩, ⟨by (try simp only [hl6_2]); (with_reducible repeat (first | apply Kd.R_alloc | apply Kd.R_drewN | apply Kd.R_drew)); exact HO_6.out⟩, ⟨by (try simp only [hl6_2]); (with_reducible repeat (first | refine blk_drewN ?_ _ | refine blk_drew ?_ | refine blk_alloc ?_ _)); exact BK354.out⟩, ⟨by repeat (first | (with_reducible first | exact HB.out | apply below_alloc | apply pw_below_drewN | apply below_drew1 | refine below_set ?_ GE354.out) | exact HB.out)⟩⟩
                  · rw [if_neg c21] at H
                    exact absurd H (by simp)
                · rw [if_neg c20] at H
                  have c20b0 : decide (x8_2 < (x6_2.length : Int)) = false := decide_eq_false c20
                  clear c20
                  replace H := Option.bind_eq_some_iff.mp H
                  obtain ⟨t367, A260, H⟩ := H
                  replace H : (if 0 ≤ x7_2 then (if x7_2 < 36 then (if x5_1.length < 140737488355328 then (spec_Int_Base.l0 k2 a1 (x5_1 ++ [bt (⟨#[48, 49, 50, 51, 52, 53, 54, 55, 56, 57, 97, 98, 99, 100, 101, 102, 103, 104, 105, 106, 107, 108, 109, 110, 111, 112, 113, 114, 115, 116, 117, 118, 119, 120, 121, 122]⟩ : ByteArray) x7_2]) t367 a0_0 l0_1) else (none)) else (none)) else (none)) = some r := H
                  have A26 := Aside0.mk A260
                  clear A260
                  by_cases c27 : 0 ≤ x7_2
                  · rw [if_pos c27] at H
                    have c27b0 : decide (0 ≤ x7_2) = true := decide_eq_true c27
                    clear c27
                    by_cases c28 : x7_2 < 36
                    · rw [if_pos c28] at H
                      have c28b0 : decide (x7_2 < 36) = true := decide_eq_true c28
                      clear c28
                      by_cases c30 : x5_1.length < 140737488355328
                      · rw [if_pos c30] at H
                        have LMc30 := Aside0.mk c30
                        clear c30
                        obtain ⟨y370, hy370⟩ : ∃ y_ : List Int, y_ = (x5_1 ++ [bt (⟨#[48, 49, 50, 51, 52, 53, 54, 55, 56, 57, 97, 98, 99, 100, 101, 102, 103, 104, 105, 106, 107, 108, 109, 110, 111, 112, 113, 114, 115, 116, 117, 118, 119, 120, 121, 122]⟩ : ByteArray) x7_2]) := ⟨_, rfl⟩
                        replace H : (spec_Int_Base.l0 k2 a1 y370 t367 a0_0 l0_1) = some r := by first | (rw [hy370]; with_reducible exact H) | (have H2_ := (Option.bind_some _ _).symm.trans H; rw [hy370]; with_reducible exact H2_) | (have H2_ := (Option.bind_some _ _).symm.trans H; with_reducible exact H2_) | with_reducible exact H | (rw [hy370]; exact H) | exact H
                        have Ny370 := Aside0.mk hy370
                        clear hy370
                        have H' := Aside0.mk H
                        clear H
                        go_wp2_with (first | ((with_reducible refine gate_callee (f := 32) rfl ?_); refine goesL_ (some 46) rfl rfl Tryz.func32 (by kernel_rfl) rfl #[.slice Ao19 x6_2.length co19] rfl (by (try simp only [List.map_toArray, List.map_cons, List.map_nil]); first | done | rfl | (simp only [List.length_drop, List.length_take]; rfl)) ?_; (with_reducible refine (spec_cut.calls k2 _ _ x6_2 t367 _ ?side1 ?side2 A26.out).mono ?_); (case side1 => repeat (first | exact (Kd.R_reads' HO_6.out).2.2 | (with_reducible refine Kd.C_alloc ?_ _) | (with_reducible refine Kd.C_drewN ?_ _) | (with_reducible refine Kd.C_drew ?_))); (case side2 => exact (Kd.R_reads' HO_6.out).2.1); rintro e w31 ⟨v368, rfl, ho0, hb⟩; refine ⟨_, rfl, ?_⟩; have n0_ := Aside0.mk (Kd.R_elder' (by (with_reducible repeat (first | apply Kd.R_alloc | apply Kd.R_drewN | apply Kd.R_drew)); exact HO_5.out) (Kd.R_base ho0) hb); have n1_ := Aside0.mk (Kd.R_elder' (by (with_reducible repeat (first | apply Kd.R_alloc | apply Kd.R_drewN | apply Kd.R_drew)); exact HO_6.out) (Kd.R_base ho0) hb); have n2_ := Aside0.mk (Kd.R_lower (Kd.R_new' (Kd.R_new' ho0 (Kd.R_lt (by (with_reducible repeat (first | apply Kd.R_alloc | apply Kd.R_drewN | apply Kd.R_drew)); exact HO_5.out))) (Kd.R_lt (by (with_reducible repeat (first | apply Kd.R_alloc | apply Kd.R_drewN | apply Kd.R_drew)); exact HO_6.out))) (below_size (by repeat (first | (with_reducible first | exact HB.out | apply below_alloc | apply pw_below_drewN | apply below_drew1 | refine below_set ?_ GE354.out) | exact HB.out)))); have n3_ := Aside0.mk (blk_below (g := gb354) (o := .cells #[.bool a0_0, .slice A0_1 l0_1.length c0_1] 37 (0, 0)) (by (with_reducible repeat (first | refine blk_drewN ?_ _ | refine blk_drew ?_ | refine blk_alloc ?_ _)); exact BK354.out) hb); have n4_ := Aside0.mk (below_step (by repeat (first | (with_reducible first | exact HB.out | apply below_alloc | apply pw_below_drewN | apply below_drew1 | refine below_set ?_ GE354.out) | exact HB.out)) hb); clear HO_5; clear HO_6; clear BK354; clear HB; have HO_5 := n0_; have HO_6 := n1_; have HO369 := n2_; have BK354 := n3_; have HB := n4_; clear n0_ n1_ n2_ n3_ n4_; (try clear hb); (try clear hb2); (try clear hk); (try clear hi); (try clear ho0); have p29 : 0 ≤ (x7_2 : Int) := of_decide_eq_true (by first | (with_reducible assumption) | assumption); have q29 : x7_2 < (36 : Int) := of_decide_eq_true (by first | (with_reducible assumption) | assumption); have hx29 := bt_at (⟨#[48, 49, 50, 51, 52, 53, 54, 55, 56, 57, 97, 98, 99, 100, 101, 102, 103, 104, 105, 106, 107, 108, 109, 110, 111, 112, 113, 114, 115, 116, 117, 118, 119, 120, 121, 122]⟩ : ByteArray) x7_2; replace p29 := eq_true p29; replace q29 := eq_true q29) | ((with_reducible refine gate_builtin (b := .append) (xs := #[.tmp 47, .tmp 50]) rfl ?_); at_builtin; refine Kd.R_append (Kd.int .u8) (w0 := w) w.heap.size rfl (.tmp 47) (.tmp 50) 35 5 (.int .u8 0) 1 rfl Tryz.underlying35 info5 rfl (by decide) (by omega) u5 x5_1 (bt (⟨#[48, 49, 50, 51, 52, 53, 54, 55, 56, 57, 97, 98, 99, 100, 101, 102, 103, 104, 105, 106, 107, 108, 109, 110, 111, 112, 113, 114, 115, 116, 117, 118, 119, 120, 121, 122]⟩ : ByteArray) x7_2) [.int .u8 (bt (⟨#[48, 49, 50, 51, 52, 53, 54, 55, 56, 57, 97, 98, 99, 100, 101, 102, 103, 104, 105, 106, 107, 108, 109, 110, 111, 112, 113, 114, 115, 116, 117, 118, 119, 120, 121, 122]⟩ : ByteArray) x7_2)] (fun k_ => some k_ ≠ (.slice Ao19 x6_2.length co19 : Value).ownBlock ∧ some k_ ≠ (v368 : Value).ownBlock) (fun _ => False) rfl rfl ?aP (fun _ hk => hk.elim) ?aF ?aO ?aB ?aS ?aL ?_; (case aP => exact rfl); (case aB => exact (by repeat (first | (with_reducible first | exact HB.out | apply below_alloc | apply pw_below_drewN | apply below_drew1 | refine below_set ?_ GE354.out) | exact HB.out))); (case aF => exact (fun k_ hk => ⟨Kd.fresh' (Kd.R_lt (by (with_reducible repeat (first | apply Kd.R_alloc | apply Kd.R_drewN | apply Kd.R_drew)); exact HO_6.out)) k_ hk, Kd.fresh' (Kd.R_lt (by (with_reducible repeat (first | apply Kd.R_alloc | apply Kd.R_drewN | apply Kd.R_drew)); exact HO369.out)) k_ hk⟩)); (case aO => exact (by (with_reducible repeat (first | apply Kd.R_alloc | apply Kd.R_drewN | apply Kd.R_drew)); exact HO_5.out)); (case aS => exact (below_size (by repeat (first | (with_reducible first | exact HB.out | apply below_alloc | apply pw_below_drewN | apply below_drew1 | refine below_set ?_ GE354.out) | exact HB.out)))); (case aL => have := LMc30.out; omega); intro v371 w32 ho hb hg hat; rw [← Ny370.out] at ho; have n0_ := Aside0.mk (Kd.R_after (ok := (fun k_ => some k_ ≠ (v368 : Value).ownBlock)) (by (with_reducible repeat (first | apply Kd.R_alloc | apply Kd.R_drewN | apply Kd.R_drew)); exact Kd.R_mono HO_6.out (fun _ hk => ⟨hk.2, hk.1⟩)) hg hat); have n1_ := Aside0.mk (blk_grown (g := gb354) (o := .cells #[.bool a0_0, .slice A0_1 l0_1.length c0_1] 37 (0, 0)) (by (with_reducible repeat (first | refine blk_drewN ?_ _ | refine blk_drew ?_ | refine blk_alloc ?_ _)); exact BK354.out) hg (Kd.R_ne HO_5.out BK354.out (by decide))); have n2_ := Aside0.mk (Kd.R_after (ok := (fun k_ => some k_ ≠ (.slice Ao19 x6_2.length co19 : Value).ownBlock)) (by (with_reducible repeat (first | apply Kd.R_alloc | apply Kd.R_drewN | apply Kd.R_drew)); exact Kd.R_mono HO369.out (fun _ hk => ⟨hk.2, hk.1.2⟩)) hg hat); have n3_ := Aside0.mk (hb); have n4_ := Aside0.mk (ho); clear HO_6; clear BK354; clear HO369; clear HB; clear HO_5; have HO_6 := n0_; have BK354 := n1_; have HO369 := n2_; have HB := n3_; have HO372 := n4_; clear n0_ n1_ n2_ n3_ n4_; clear ho hb hg hat))
                        (try simp only [← hl6_2])
                        go_roundg k2
                        case measure => have := HK1.out; have := HK2.out; omega
                        case rel => exact ⟨(y370), (t367), H', ⟨by have := HK1.out; have := HK2.out; omega⟩, ⟨by (try simp only [hl6_2]); (with_reducible repeat (first | apply Kd.R_alloc | apply Kd.R_drewN | apply Kd.R_drew)); exact Kd.R_mono HO372.out (fun _ hk => hk.2)⟩, ⟨by (try simp only [hl6_2]); (with_reducible repeat (first | apply Kd.R_alloc | apply Kd.R_drewN | apply Kd.R_drew)); exact Kd.R_mono HO369.out (fun _ hk => hk.2)⟩, ⟨by (try simp only [hl6_2]); (with_reducible repeat (first | refine blk_drewN ?_ _ | refine blk_drew ?_ | refine blk_alloc ?_ _)); exact BK354.out⟩, ⟨by repeat (first | (with_reducible first | exact HB.out | apply below_alloc | apply pw_below_drewN | apply below_drew1 | refine below_set ?_ GE354.out) | exact HB.out)⟩⟩
                      · rw [if_neg c30] at H
                        exact absurd H (by simp)
                    · rw [if_neg c28] at H
                      exact absurd H (by simp)
                  · rw [if_neg c27] at H
                    exact absurd H (by simp)
          · rw [if_neg c18] at H
            have c18b0 : decide (0 < (x6_1.length : Int)) = false := decide_eq_false c18
            have c18b1 : decide (0 < x6_1.length) = false := decide_eq_false (by omega)
            clear c18
            have HC33 := Aside0.mk H
            clear H
            obtain ⟨Ao34, co34, eo34⟩ := Kd.R_slice HO_6.out
            subst eo34
            have hcz35_0 : wr.cell? ⟨gb354, 0, none⟩ = some (.bool a0_0) := (blk_cell BK354.out 0).trans rfl
            have hcz35_1 : wr.cell? ⟨gb354, 1, none⟩ = some (.slice A0_1 l0_1.length c0_1) := (blk_cell BK354.out 1).trans rfl
            have hfz35_0 := blk_frozen BK354.out 0
            have hfz35_1 := blk_frozen BK354.out 1
            go_upto_if 53 with (fail)
            go_cut [5] (fun v5 wc => ∃ (kq : Nat) (x5_32 : List Int), Aside0 (spec_Int_Base.j2 kq x5_32 = some r) ∧ Aside0 (kq ≤ k1) ∧ Aside0 (Kd.R (Kd.int .u8) 5 wc w.heap.size (fun _ => True) v5 x5_32) ∧ Aside0 (wc.heap[gb354]? = some (.cells #[.bool a0_0, (.slice A0_1 l0_1.length c0_1)] 37 (0, 0))) ∧ Aside0 (Below w.heap.size w wc))
            case first =>
              have H := HC33.out
              clear HC33
              by_cases c36 : a0_0 = true
              · subst c36
                have H1 : (if x5_1.length < 140737488355328 then (spec_Int_Base.j2 k1 (x5_1 ++ [45])) else (none)) = some r := by rw [if_pos rfl] at H; exact H
                clear H
                have H := H1
                clear H1
                by_cases c37 : x5_1.length < 140737488355328
                · rw [if_pos c37] at H
                  have LMc37 := Aside0.mk c37
                  clear c37
                  obtain ⟨y373, hy373⟩ : ∃ y_ : List Int, y_ = (x5_1 ++ [45]) := ⟨_, rfl⟩
                  replace H : (spec_Int_Base.j2 k1 y373) = some r := by first | (rw [hy373]; with_reducible exact H) | (have H2_ := (Option.bind_some _ _).symm.trans H; rw [hy373]; with_reducible exact H2_) | (have H2_ := (Option.bind_some _ _).symm.trans H; with_reducible exact H2_) | with_reducible exact H | (rw [hy373]; exact H) | exact H
                  have Ny373 := Aside0.mk hy373
                  clear hy373
                  have H' := Aside0.mk H
                  clear H
                  go_wp2_with (first | ((with_reducible refine gate_builtin (b := .append) (xs := #[.tmp 54, .tmp 55]) rfl ?_); at_builtin; refine Kd.R_append (Kd.int .u8) (w0 := w) w.heap.size rfl (.tmp 54) (.tmp 55) 35 5 (.int .u8 0) 1 rfl Tryz.underlying35 info5 rfl (by decide) (by omega) u5 x5_1 45 [.int .u8 45] (fun k_ => some k_ ≠ (.slice Ao34 x6_1.length co34 : Value).ownBlock) (fun _ => False) rfl rfl ?aP (fun _ hk => hk.elim) ?aF ?aO ?aB ?aS ?aL ?_; (case aP => exact rfl); (case aB => exact (by repeat (first | (with_reducible first | exact HB.out | apply below_alloc | apply pw_below_drewN | apply below_drew1 | refine below_set ?_ GE354.out) | exact HB.out))); (case aF => exact (fun k_ hk => Kd.fresh' (Kd.R_lt (by (with_reducible repeat (first | apply Kd.R_alloc | apply Kd.R_drewN | apply Kd.R_drew)); exact HO_6.out)) k_ hk)); (case aO => exact (by (with_reducible repeat (first | apply Kd.R_alloc | apply Kd.R_drewN | apply Kd.R_drew)); exact HO_5.out)); (case aS => exact (below_size (by repeat (first | (with_reducible first | exact HB.out | apply below_alloc | apply pw_below_drewN | apply below_drew1 | refine below_set ?_ GE354.out) | exact HB.out)))); (case aL => have := LMc37.out; omega); intro v374 w38 ho hb hg hat; rw [← Ny373.out] at ho; have n0_ := Aside0.mk (Kd.R_after (ok := (fun _ => True)) (by (with_reducible repeat (first | apply Kd.R_alloc | apply Kd.R_drewN | apply Kd.R_drew)); exact Kd.R_mono HO_6.out (fun _ hk => ⟨trivial, hk⟩)) hg hat); have n1_ := Aside0.mk (blk_grown (g := gb354) (o := .cells #[.bool true, .slice A0_1 l0_1.length c0_1] 37 (0, 0)) (by (with_reducible repeat (first | refine blk_drewN ?_ _ | refine blk_drew ?_ | refine blk_alloc ?_ _)); exact BK354.out) hg (Kd.R_ne HO_5.out BK354.out (by decide))); have n2_ := Aside0.mk (hb); have n3_ := Aside0.mk (ho); clear HO_6; clear BK354; clear HB; clear HO_5; have HO_6 := n0_; have BK354 := n1_; have HB := n2_; have HO375 := n3_; clear n0_ n1_ n2_ n3_; clear ho hb hg hat))
                  go_meet
                  case rel => exact ⟨_, (y373), H', ⟨by have := HK1.out; first | omega | exact Nat.le_refl _⟩, ⟨by (with_reducible repeat (first | apply Kd.R_alloc | apply Kd.R_drewN | apply Kd.R_drew)); exact Kd.R_mono HO375.out (fun _ hk => trivial)⟩, ⟨by (with_reducible repeat (first | refine blk_drewN ?_ _ | refine blk_drew ?_ | refine blk_alloc ?_ _)); exact BK354.out⟩, ⟨by repeat (first | (with_reducible first | exact HB.out | apply below_alloc | apply pw_below_drewN | apply below_drew1 | refine below_set ?_ GE354.out) | exact HB.out)⟩⟩
                · rw [if_neg c37] at H
                  exact absurd H (by simp)
              · replace c36 := Bool.eq_false_iff.mpr c36
                subst c36
                have H1 : (spec_Int_Base.j2 k1 x5_1) = some r := by rw [if_neg (show ¬ (false = true) by decide)] at H; exact H
                clear H
                have H := H1
                clear H1
                have H' := Aside0.mk H
                clear H
                go_wp2
                go_meet
                case rel => exact ⟨_, (x5_1), H', ⟨by have := HK1.out; first | omega | exact Nat.le_refl _⟩, ⟨by (with_reducible repeat (first | apply Kd.R_alloc | apply Kd.R_drewN | apply Kd.R_drew)); exact Kd.R_mono HO_5.out (fun _ hk => trivial)⟩, ⟨by (with_reducible repeat (first | refine blk_drewN ?_ _ | refine blk_drew ?_ | refine blk_alloc ?_ _)); exact BK354.out⟩, ⟨by repeat (first | (with_reducible first | exact HB.out | apply below_alloc | apply pw_below_drewN | apply below_drew1 | refine below_set ?_ GE354.out) | exact HB.out)⟩⟩
            case rest =>
              clear HC33
              try clear c1
              try clear c2
              try clear p2
              try clear q2
              try clear hx2
              try clear hf2
              try clear c3
              try clear p3
              try clear q3
              try clear hx3
              try clear c4
              try clear p6
              try clear c8
              try clear c18
              try clear c18b0
              try clear c18b1
              try clear c20
              try clear c20b0
              try clear c21
              try clear c21b0
              try clear c22
              try clear c22b0
              try clear c22b1
              try clear p23
              try clear q23
              try clear hx23
              try clear hf23
              try clear c27
              try clear c27b0
              try clear c28
              try clear c28b0
              try clear p29
              try clear q29
              try clear hx29
              try clear c30
              try clear c32
              try clear c33
              try clear c36
              try clear p36
              try clear q36
              try clear hx36
              try clear c37
              try clear hcz10_0
              try clear hcz10_1
              try clear hcz16_0
              try clear hcz16_1
              try clear hcz35_0
              try clear hcz35_1
              try clear hcz6_0
              try clear hcz6_1
              try clear hfz10_0
              try clear hfz10_1
              try clear hfz16_0
              try clear hfz16_1
              try clear hfz35_0
              try clear hfz35_1
              try clear hfz6_0
              try clear hfz6_1
              try clear hx23_0
              try clear hx365_0
              try clear p2
              try clear p23
              try clear p29
              try clear p365
              try clear q23
              try clear q29
              try clear q365
              obtain ⟨kq, x5_32, HA, HJ32, HO_5, BK354, HB⟩ := hcut
              cases kq with
              | zero => exact absurd HA.out (by simp [spec_Int_Base.j2])
              | succ kj32 =>
                have H := HA.out
                clear HA
                simp only [spec_Int_Base.j2] at H
                have H' := Aside0.mk H
                clear H
                obtain ⟨Ao39, co39, eo39⟩ := Kd.R_slice HO_5.out
                subst eo39
                go_wp2
                go_loopg [9, 10] kj32 (fun kq v9 v10 w' => ∃ (x5_3 : List Int) (x9_3 : Int) (x10_3 : Int), v9 = .int .i64 x9_3 ∧ v10 = .int .i64 x10_3 ∧ Aside0 (spec_Int_Base.l2 kq x5_3 x9_3 x10_3 = some r) ∧ Aside0 (kq ≤ kj32) ∧ Aside0 (Kd.R (Kd.int .u8) 5 w' w.heap.size (fun _ => True) (.slice Ao39 x5_32.length co39) x5_3) ∧ Aside0 (w'.heap[gb354]? = some (.cells #[.bool a0_0, (.slice A0_1 l0_1.length c0_1)] 37 (0, 0))) ∧ Aside0 (Below w.heap.size w w'))
                case atStart => exact ⟨(x5_32), (0), (wrap64 ((x5_32.length : Int) - 1)), (by first | rfl | (simp; done) | (simp [*]; done)), (by first | rfl | (simp; done) | (simp [*]; done)), H', ⟨Nat.le_refl _⟩, ⟨by (with_reducible repeat (first | apply Kd.R_alloc | apply Kd.R_drewN | apply Kd.R_drew)); exact HO_5.out⟩, ⟨by (with_reducible repeat (first | refine blk_drewN ?_ _ | refine blk_drew ?_ | refine blk_alloc ?_ _)); exact BK354.out⟩, ⟨by repeat (first | (with_reducible first | exact HB.out | apply below_alloc | apply pw_below_drewN | apply below_drew1 | refine below_set ?_ GE354.out) | exact HB.out)⟩⟩
                case round =>
                  clear H'
                  try clear c1
                  try clear c2
                  try clear p2
                  try clear q2
                  try clear hx2
                  try clear hf2
                  try clear c3
                  try clear p3
                  try clear q3
                  try clear hx3
                  try clear c4
                  try clear p6
                  try clear c8
                  try clear c18
                  try clear c18b0
                  try clear c18b1
                  try clear c20
                  try clear c20b0
                  try clear c21
                  try clear c21b0
                  try clear c22
                  try clear c22b0
                  try clear c22b1
                  try clear p23
                  try clear q23
                  try clear hx23
                  try clear hf23
                  try clear c27
                  try clear c27b0
                  try clear c28
                  try clear c28b0
                  try clear p29
                  try clear q29
                  try clear hx29
                  try clear c30
                  try clear c32
                  try clear c33
                  try clear c36
                  try clear p36
                  try clear q36
                  try clear hx36
                  try clear c37
                  try clear hcz10_0
                  try clear hcz10_1
                  try clear hcz16_0
                  try clear hcz16_1
                  try clear hcz35_0
                  try clear hcz35_1
                  try clear hcz6_0
                  try clear hcz6_1
                  try clear hfz10_0
                  try clear hfz10_1
                  try clear hfz16_0
                  try clear hfz16_1
                  try clear hfz35_0
                  try clear hfz35_1
                  try clear hfz6_0
                  try clear hfz6_1
                  try clear hx23_0
                  try clear hx365_0
                  try clear p2
                  try clear p23
                  try clear p29
                  try clear p3
                  try clear p36
                  try clear p365
                  try clear p6
                  try clear q2
                  try clear q23
                  try clear q29
                  try clear q3
                  try clear q36
                  try clear q365
                  obtain ⟨x5_3, x9_3, x10_3, rfl, rfl, HA, HK3, HO_5, BK354, HB⟩ := hrel
                  have hl5_3 := (Kd.R_reads' HO_5.out).1
                  rw [hl5_3] at HO_5
                  (try simp only [hl5_3])
                  (try simp only [hl5_3] at BK354)
                  cases gk with
                  | zero => exact absurd HA.out (by simp [spec_Int_Base.l2])
                  | succ k3 =>
                    have H := HA.out
                    clear HA
                    simp only [spec_Int_Base.l2] at H
                    by_cases c40 : x9_3 < x10_3
                    · rw [if_pos c40] at H
                      have c40b0 : decide (x9_3 < x10_3) = true := decide_eq_true c40
                      clear c40
                      by_cases c41 : 0 ≤ x10_3
                      · rw [if_pos c41] at H
                        have c41b0 : decide (0 ≤ x10_3) = true := decide_eq_true c41
                        clear c41
                        by_cases c42 : x10_3 < (x5_3.length : Int)
                        · rw [if_pos c42] at H
                          have c42b0 : decide (x10_3 < (x5_3.length : Int)) = true := decide_eq_true c42
                          clear c42
                          by_cases c43 : 0 ≤ x9_3
                          · rw [if_pos c43] at H
                            have c43b0 : decide (0 ≤ x9_3) = true := decide_eq_true c43
                            clear c43
                            by_cases c44 : x9_3 < (x5_3.length : Int)
                            · rw [if_pos c44] at H
                              have c44b0 : decide (x9_3 < (x5_3.length : Int)) = true := decide_eq_true c44
                              clear c44
                              obtain ⟨y378, hy378⟩ : ∃ y_ : List Int, y_ = (x5_3.set (x9_3 : Int).toNat (rd x5_3 x10_3)) := ⟨_, rfl⟩
                              replace H : (spec_Int_Base.l2 k3 (y378.set (x10_3 : Int).toNat (rd x5_3 x9_3)) (wrap64 (x9_3 + 1)) (wrap64 (x10_3 - 1))) = some r := by first | (rw [hy378]; with_reducible exact H) | (have H2_ := (Option.bind_some _ _).symm.trans H; rw [hy378]; with_reducible exact H2_) | (have H2_ := (Option.bind_some _ _).symm.trans H; with_reducible exact H2_) | with_reducible exact H | (rw [hy378]; exact H) | exact H
                              have Ny378 := Aside0.mk hy378
                              clear hy378
                              obtain ⟨y379, hy379⟩ : ∃ y_ : List Int, y_ = (y378.set (x10_3 : Int).toNat (rd x5_3 x9_3)) := ⟨_, rfl⟩
                              replace H : (spec_Int_Base.l2 k3 y379 (wrap64 (x9_3 + 1)) (wrap64 (x10_3 - 1))) = some r := by first | (rw [hy379]; with_reducible exact H) | (have H2_ := (Option.bind_some _ _).symm.trans H; rw [hy379]; with_reducible exact H2_) | (have H2_ := (Option.bind_some _ _).symm.trans H; with_reducible exact H2_) | with_reducible exact H | (rw [hy379]; exact H) | exact H
                              have Ny379 := Aside0.mk hy379
                              clear hy379
                              have H' := Aside0.mk H
                              clear H
                              try go_wp2
                              have n0_ := Aside0.mk (Kd.R_drew HO_5.out)
                              have n1_ := Aside0.mk (blk_drew BK354.out)
                              have n2_ := Aside0.mk (below_drew1 HB.out)
                              clear HO_5
                              clear BK354
                              clear HB
                              have HO_5 := n0_
                              have BK354 := n1_
                              have HB := n2_
                              clear n0_ n1_ n2_
                              have p376 : 0 ≤ (x10_3 : Int) := of_decide_eq_true (by first | (with_reducible assumption) | assumption)
                              have q376 : x10_3 < (x5_3.length : Int) := of_decide_eq_true (by first | (with_reducible assumption) | assumption)
                              obtain ⟨ad376, e376, hx376_0⟩ := Kd.at_int (Kd.R_reads' HO_5.out).2.2 x10_3 p376 q376
                              cases e376
                              replace p376 := eq_true p376
                              replace q376 := eq_true q376
                              have p377 : 0 ≤ (x9_3 : Int) := of_decide_eq_true (by first | (with_reducible assumption) | assumption)
                              have q377 : x9_3 < (x5_3.length : Int) := of_decide_eq_true (by first | (with_reducible assumption) | assumption)
                              obtain ⟨ad377, e377, hx377_0⟩ := Kd.at_int (Kd.R_reads' HO_5.out).2.2 x9_3 p377 q377
                              obtain rfl : ad376 = ad377 := (by injection e377)
                              replace p377 := eq_true p377
                              replace q377 := eq_true q377
                              have p45 : 0 ≤ (x9_3 : Int) := of_decide_eq_true (by first | (with_reducible assumption) | assumption)
                              have q45 : (x9_3 : Int) < ((x5_3.length : Int) : Int) := of_decide_eq_true (by first | (with_reducible assumption) | assumption)
                              obtain ⟨go45, co45, eo45, gb45, gl45, cl45, HG45⟩ := Kd.R_form HO_5.out (by omega)
                              (first | cases eo45 | (injection eo45 with ea_ en_ ec_; (first | subst ea_ | (injection ea_ with ea_; subst ea_)); subst ec_; clear en_))
                              have GB45 := Aside0.mk gb45
                              have GG45 := Aside0.mk HG45
                              clear gb45 gl45 HG45
                              (first | simp only [add_plain] at hx376_0 | skip)
                              (first | simp only [add_plain] at hx377_0 | skip)
                              obtain ⟨hx45_0, hf45_0⟩ := Kd.R_celln 0 HO_5.out (x9_3 : Int) p45 q45
                              replace p45 := eq_true p45
                              replace q45 := eq_true q45
                              have HP48 := Kd.R_putn HO_5.out (x9_3 : Int) (rd x5_3 x10_3)
                              rw [← Ny378.out] at HP48
                              have HQ48 := Aside0.mk HP48
                              clear HP48
                              have p46 : 0 ≤ (x10_3 : Int) := of_decide_eq_true (by first | (with_reducible assumption) | assumption)
                              have q46 : (x10_3 : Int) < ((x5_3.length : Int) : Int) := of_decide_eq_true (by first | (with_reducible assumption) | assumption)
                              obtain ⟨hx46_0, hf46_0⟩ := Kd.R_celln 0 HQ48.out (x10_3 : Int) p46 q46
                              replace p46 := eq_true p46
                              replace q46 := eq_true q46
                              have HP49 := Kd.R_putn HQ48.out (x10_3 : Int) (rd x5_3 x9_3)
                              rw [← Ny379.out] at HP49
                              have HQ49 := Aside0.mk HP49
                              clear HP49
                              refine start_ (n := 16) (S := fun w' => w'.cell? ⟨go45, (x10_3).toNat, none⟩ = some (.int .u8 (rd x5_3 x10_3)) ∧ w'.cell? ⟨go45, (x9_3).toNat, none⟩ = some (.int .u8 (rd x5_3 x9_3))) (ds := [13, 15]) #[false, false, false, false, false, false, false, false, false, false, false, false, false, false, false, false] (by kernel_rfl) rfl rfl ⟨hx376_0, hx377_0⟩ (fun hHeld => ?_); refine with_tabW spec_Int_Base.tab20 spec_Int_Base.bits20 (fun HT_ HW_ => ?_)
                              generalize wr.drew = w47 at HO_5 BK354 HB GG45 HQ48 HQ49 hf45_0 hf46_0 hx376_0 hx377_0 hx45_0 hx46_0 hHeld ⊢
                              refine pure_ (i := 0) (N := some 67) (v := ?_) (a' := ?_) #[true, false, false, false, false, false, false, false, false, false, false, false, false, false, false, false] rfl rfl (any_of HT_.out (by kernel_rfl)) (fun _ _ _ h => h) (Or.inl ⟨by rfl, ?_⟩) ?_ ?_
                              rotate_left
                              · intro w'
                                go_simp
                                with_reducible rfl
                              rotate_left
                              · simp only [Act.put, List.setIfInBounds_toArray, List.set_cons_zero, List.set_cons_succ, i64_w, i32_w]
                                rfl
                              refine pure_ (i := 1) (N := some 68) (v := ?_) (a' := ?_) #[true, true, false, false, false, false, false, false, false, false, false, false, false, false, false, false] rfl rfl (any_of HT_.out (by kernel_rfl)) (fun _ _ _ h => h) (Or.inl ⟨by rfl, ?_⟩) ?_ ?_
                              rotate_left
                              · intro w'
                                go_simp
                                with_reducible rfl
                              rotate_left
                              · simp only [Act.put, List.setIfInBounds_toArray, List.set_cons_zero, List.set_cons_succ, i64_w, i32_w]
                                rfl
                              refine pure_ (i := 2) (N := some 69) (v := ?_) (a' := ?_) #[true, true, true, false, false, false, false, false, false, false, false, false, false, false, false, false] rfl rfl (any_of HT_.out (by kernel_rfl)) (fun _ _ _ h => h) (Or.inl ⟨by rfl, ?_⟩) ?_ ?_
                              rotate_left
                              · intro w'
                                go_simp
                                with_reducible rfl
                              rotate_left
                              · simp only [Act.put, List.setIfInBounds_toArray, List.set_cons_zero, List.set_cons_succ, i64_w, i32_w]
                                rfl
                              refine pure_ (i := 3) (N := some 70) (v := ?_) (a' := ?_) #[true, true, true, true, false, false, false, false, false, false, false, false, false, false, false, false] rfl rfl (any_of HT_.out (by kernel_rfl)) (fun _ _ _ h => h) (Or.inl ⟨by rfl, ?_⟩) ?_ ?_
                              rotate_left
                              · intro w'
                                go_simp
                                with_reducible rfl
                              rotate_left
                              · simp only [Act.put, List.setIfInBounds_toArray, List.set_cons_zero, List.set_cons_succ, i64_w, i32_w]
                                rfl
                              refine pure_ (i := 4) (N := some 71) (v := ?_) (a' := ?_) #[true, true, true, true, true, false, false, false, false, false, false, false, false, false, false, false] rfl rfl (any_of HT_.out (by kernel_rfl)) (fun _ _ _ h => h) (Or.inl ⟨by rfl, ?_⟩) ?_ ?_
                              rotate_left
                              · intro w'
                                go_simp
                                with_reducible rfl
                              rotate_left
                              · simp only [Act.put, List.setIfInBounds_toArray, List.set_cons_zero, List.set_cons_succ, i64_w, i32_w]
                                rfl
                              refine pure_ (i := 5) (N := some 72) (v := ?_) (a' := ?_) #[true, true, true, true, true, true, false, false, false, false, false, false, false, false, false, false] rfl rfl (any_of HT_.out (by kernel_rfl)) (fun _ _ _ h => h) (Or.inl ⟨by rfl, ?_⟩) ?_ ?_
                              rotate_left
                              · intro w'
                                go_simp
                                with_reducible rfl
                              rotate_left
                              · simp only [Act.put, List.setIfInBounds_toArray, List.set_cons_zero, List.set_cons_succ, i64_w, i32_w]
                                rfl
                              refine pure_ (i := 6) (N := some 73) (v := ?_) (a' := ?_) #[true, true, true, true, true, true, true, false, false, false, false, false, false, false, false, false] rfl rfl (any_of HT_.out (by kernel_rfl)) (fun _ _ _ h => h) (Or.inl ⟨by rfl, ?_⟩) ?_ ?_
                              rotate_left
                              · intro w'
                                go_simp
                                with_reducible rfl
                              rotate_left
                              · simp only [Act.put, List.setIfInBounds_toArray, List.set_cons_zero, List.set_cons_succ, i64_w, i32_w]
                                rfl
                              refine pure_ (i := 8) (N := some 75) (v := ?_) (a' := ?_) #[true, true, true, true, true, true, true, false, true, false, false, false, false, false, false, false] rfl rfl (any_of HT_.out (by kernel_rfl)) (fun _ _ _ h => h) (Or.inl ⟨by rfl, ?_⟩) ?_ ?_
                              rotate_left
                              · intro w'
                                go_simp
                                with_reducible rfl
                              rotate_left
                              · simp only [Act.put, List.setIfInBounds_toArray, List.set_cons_zero, List.set_cons_succ, i64_w, i32_w]
                                rfl
                              refine pure_ (i := 9) (N := some 76) (v := ?_) (a' := ?_) #[true, true, true, true, true, true, true, false, true, true, false, false, false, false, false, false] rfl rfl (any_of HT_.out (by kernel_rfl)) (fun _ _ _ h => h) (Or.inl ⟨by rfl, ?_⟩) ?_ ?_
                              rotate_left
                              · intro w'
                                go_simp
                                with_reducible rfl
                              rotate_left
                              · simp only [Act.put, List.setIfInBounds_toArray, List.set_cons_zero, List.set_cons_succ, i64_w, i32_w]
                                rfl
                              refine pure_ (i := 10) (N := some 77) (v := ?_) (a' := ?_) #[true, true, true, true, true, true, true, false, true, true, true, false, false, false, false, false] rfl rfl (any_of HT_.out (by kernel_rfl)) (fun _ _ _ h => h) (Or.inl ⟨by rfl, ?_⟩) ?_ ?_
                              rotate_left
                              · intro w'
                                go_simp
                                with_reducible rfl
                              rotate_left
                              · simp only [Act.put, List.setIfInBounds_toArray, List.set_cons_zero, List.set_cons_succ, i64_w, i32_w]
                                rfl
                              refine take_ (i := 7) (N := some 74) (v := ?_) (a' := ?_) #[true, true, true, true, true, true, true, true, true, true, true, false, false, false, false, false] rfl rfl (take_ofW HT_.out HW_.out (by kernel_rfl)) (fun _ _ _ h => h) (Or.inl ⟨by rfl, ?_⟩) hHeld ?_ ?_
                              rotate_left
                              · rintro w' ⟨s0, s1⟩
                                go_simp
                                with_reducible rfl
                              rotate_left
                              · simp only [Act.put, List.setIfInBounds_toArray, List.set_cons_zero, List.set_cons_succ, i64_w, i32_w]
                                rfl
                              refine take_ (i := 11) (N := some 78) (v := ?_) (a' := ?_) #[true, true, true, true, true, true, true, true, true, true, true, true, false, false, false, false] rfl rfl (take_ofW HT_.out HW_.out (by kernel_rfl)) (fun _ _ _ h => h) (Or.inl ⟨by rfl, ?_⟩) hHeld ?_ ?_
                              rotate_left
                              · rintro w' ⟨s0, s1⟩
                                go_simp
                                with_reducible rfl
                              rotate_left
                              · simp only [Act.put, List.setIfInBounds_toArray, List.set_cons_zero, List.set_cons_succ, i64_w, i32_w]
                                rfl
                              refine pure_ (i := 12) (N := some 79) (v := ?_) (a' := ?_) #[true, true, true, true, true, true, true, true, true, true, true, true, true, false, false, false] rfl rfl (any_of HT_.out (by kernel_rfl)) (fun _ _ _ h => h) (Or.inl ⟨by rfl, ?_⟩) ?_ ?_
                              rotate_left
                              · intro w'
                                go_simp
                                with_reducible rfl
                              rotate_left
                              · simp only [Act.put, List.setIfInBounds_toArray, List.set_cons_zero, List.set_cons_succ, i64_w, i32_w]
                                rfl
                              refine last_ (i := 13) (N := none) #[true, true, true, true, true, true, true, true, true, true, true, true, true, true, false, false] rfl rfl (one_of HT_.out (by kernel_rfl)) (by decide) (fun K hK => ?_)
                              refine skip_ (w1 := ?_) (by rfl) rfl ?_ ?_
                              rotate_left
                              · go_simp
                                rfl
                              refine hK.out _ _ ?_
                              clear hK K
                              refine pure_ (i := 14) (N := some 80) (v := ?_) (a' := ?_) #[true, true, true, true, true, true, true, true, true, true, true, true, true, true, true, false] rfl rfl (any_of HT_.out (by kernel_rfl)) (fun _ _ _ h => h) (Or.inl ⟨by rfl, ?_⟩) ?_ ?_
                              rotate_left
                              · intro w'
                                go_simp
                                with_reducible rfl
                              rotate_left
                              · simp only [Act.put, List.setIfInBounds_toArray, List.set_cons_zero, List.set_cons_succ, i64_w, i32_w]
                                rfl
                              refine last_ (i := 15) (N := none) #[true, true, true, true, true, true, true, true, true, true, true, true, true, true, true, true] rfl rfl (one_of HT_.out (by kernel_rfl)) (by decide) (fun K hK => ?_)
                              refine skip_ (w1 := ?_) (by rfl) rfl ?_ ?_
                              rotate_left
                              · go_simp
                                rfl
                              refine hK.out _ _ ?_
                              clear hK K
                              refine done_ (done_of HT_.out (by kernel_rfl)) ?_
                              try go_wp2
                              (try simp only [← hl5_3])
                              go_roundg k3
                              case measure => have := HK1.out; have := HJ32.out; have := HK3.out; omega
                              case rel => exact ⟨(y379), (wrap64 (x9_3 + 1)), (wrap64 (x10_3 - 1)), (by first | rfl | (simp; done) | (simp [*]; done)), (by first | rfl | (simp; done) | (simp [*]; done)), H', ⟨by have := HK1.out; have := HJ32.out; have := HK3.out; omega⟩, ⟨by (try simp only [hl5_3]); (with_reducible repeat (first | apply Kd.R_alloc | apply Kd.R_drewN | apply Kd.R_drew)); exact HQ49.out⟩, ⟨by (try simp only [hl5_3]); (with_reducible repeat (first | refine blk_drewN ?_ _ | refine blk_drew ?_ | refine blk_alloc ?_ _)); refine blk_far ?_ (by have h_ := Kd.R_ne HO_5.out BK354.out (by decide); intro e_; exact h_ (by rw [e_]; rfl)) _; (with_reducible repeat (first | refine blk_drewN ?_ _ | refine blk_drew ?_ | refine blk_alloc ?_ _)); refine blk_far ?_ (by have h_ := Kd.R_ne HO_5.out BK354.out (by decide); intro e_; exact h_ (by rw [e_]; rfl)) _; (with_reducible repeat (first | refine blk_drewN ?_ _ | refine blk_drew ?_ | refine blk_alloc ?_ _)); exact BK354.out⟩, ⟨by repeat (first | (with_reducible first | exact HB.out | apply below_alloc | apply pw_below_drewN | apply below_drew1 | refine below_set ?_ GB45.out | refine below_set ?_ GB45.out | refine below_set ?_ GE354.out) | exact HB.out)⟩⟩
                            · rw [if_neg c44] at H
                              exact absurd H (by simp)
                          · rw [if_neg c43] at H
                            exact absurd H (by simp)
                        · rw [if_neg c42] at H
                          exact absurd H (by simp)
                      · rw [if_neg c41] at H
                        exact absurd H (by simp)
                    · rw [if_neg c40] at H
                      have c40b0 : decide (x9_3 < x10_3) = false := decide_eq_false c40
                      clear c40
                      obtain rfl := Option.some.inj H
                      have hcv50 := own_string (P := Tryz.prog) Tryz.underlying35 Tryz.underlying5 Tryz.underlying9 (Kd.own_of_R HO_5.out)
                      go_wp2
                      go_ret
                      exact ⟨by first | rfl | (simp [errW_none, errW_some] <;> rfl) | (simp [*, errW_none, errW_some] <;> rfl), by repeat (first | (with_reducible first | exact HB.out | apply below_alloc | apply pw_below_drewN | apply below_drew1 | refine below_set ?_ GE354.out) | exact HB.out)⟩
    · rw [if_neg c8] at H
      exact absurd H (by simp)
def spec_Int_Text.f (k : Nat) (a0_0 : Bool) (l0_1 : List Int) : Option (ByteArray) := (spec_Int_Base.f k a0_0 l0_1 10).bind fun t381 => (some t381)
set_option maxHeartbeats 8000000 in
set_option maxRecDepth 100000 in
theorem spec_Int_Text.calls (k : Nat) (a0_0 : Bool) (A0_1 : Option Addr) (c0_1 : Nat) (l0_1 : List Int) (r : ByteArray) (w : World) (hr0_1 : Kd.C (Kd.int .u8) w A0_1 l0_1.length l0_1) (hc0_1 : l0_1.length ≤ c0_1) (h : spec_Int_Text.f k a0_0 l0_1 = some r) :
    Calls Tryz.prog 15 #[.agg #[.bool a0_0, .slice A0_1 l0_1.length c0_1]] w fun e w' => e = .returned (.string r) ∧ Below w.heap.size w w' := by
  have hu37 := Tryz.underlying37
  have HR0_1 := Aside0.mk hr0_1
  have HC0_1 := Aside0.mk hc0_1
  clear hr0_1 hc0_1
  have HB := Aside0.mk (Below.refl w.heap.size w)
  have H : ((spec_Int_Base.f k a0_0 l0_1 10).bind fun t381 => (some t381)) = some r := h
  clear h
  replace H := Option.bind_eq_some_iff.mp H
  obtain ⟨t381, A20, H⟩ := H
  replace H : (some t381) = some r := H
  have A2 := Aside0.mk A20
  clear A20
  obtain rfl := Option.some.inj H
  go_enter Tryz.func15, Tryz.ntmps15
  go_wp2_with (first | ((with_reducible refine gate_dst (N := 1) rfl ?_); refine box_event ?hg (N := 1) ?hd (cs := #[.bool a0_0, .slice A0_1 l0_1.length c0_1]) (t := 37) ?hr ?_; (case hd => rfl); (case hg => rfl); (case hr => first | (go_simp; done) | (go_simp; rfl)); intro gb380 hg w3 hbox hb; have n0_ := Aside0.mk (below_step (by repeat (first | (with_reducible first | exact HB.out | apply below_alloc | apply pw_below_drewN | apply below_drew1) | exact HB.out)) hb); have n1_ := Aside0.mk (hbox); have n2_ := Aside0.mk ((by rw [hg]; exact (below_size (by repeat (first | (with_reducible first | exact HB.out | apply below_alloc | apply pw_below_drewN | apply below_drew1) | exact HB.out))) : w.heap.size ≤ gb380)); have n3_ := Aside0.mk ((by rw [hg]; exact (below_size (by repeat (first | (with_reducible first | exact HB.out | apply below_alloc | apply pw_below_drewN | apply below_drew1) | exact HB.out))) : w.heap.size ≤ gb380)); clear HB; have HB := n0_; have BK380 := n1_; have GW380 := n2_; have GE380 := n3_; clear n0_ n1_ n2_ n3_; clear hb hbox hg; have hcz4_0 : w3.cell? ⟨gb380, 0, none⟩ = some (.bool a0_0) := (blk_cell BK380.out 0).trans rfl; have hcz4_1 : w3.cell? ⟨gb380, 1, none⟩ = some (.slice A0_1 l0_1.length c0_1) := (blk_cell BK380.out 1).trans rfl; have hfz4_0 := blk_frozen BK380.out 0; have hfz4_1 := blk_frozen BK380.out 1) | ((with_reducible refine gate_callee (f := 27) rfl ?_); refine goesL_ (some 4) rfl rfl Tryz.func27 (by kernel_rfl) rfl #[.agg #[.bool a0_0, .slice A0_1 l0_1.length c0_1], .int .i64 10] rfl (by (try simp only [List.map_toArray, List.map_cons, List.map_nil]); first | done | rfl | (simp only [List.length_drop, List.length_take]; rfl)) ?_; (with_reducible refine (spec_Int_Base.calls k a0_0 _ _ l0_1 10 t381 _ ?side1 ?side2 A2.out).mono ?_); (case side1 => repeat (first | exact (Kd.C_below HR0_1.out HB.out) | (with_reducible refine Kd.C_alloc ?_ _) | (with_reducible refine Kd.C_drewN ?_ _) | (with_reducible refine Kd.C_drew ?_))); (case side2 => exact HC0_1.out); rintro e w5 ⟨rfl, hb⟩; refine ⟨_, rfl, ?_⟩; have n0_ := Aside0.mk (blk_below (g := gb380) (o := .cells #[.bool a0_0, .slice A0_1 l0_1.length c0_1] 37 (0, 0)) (by (with_reducible repeat (first | refine blk_drewN ?_ _ | refine blk_drew ?_ | refine blk_alloc ?_ _)); exact BK380.out) hb); have n1_ := Aside0.mk (below_step (by repeat (first | (with_reducible first | exact HB.out | apply below_alloc | apply pw_below_drewN | apply below_drew1 | refine below_set ?_ GE380.out) | exact HB.out)) hb); clear BK380; clear HB; have BK380 := n0_; have HB := n1_; clear n0_ n1_; (try clear hb); (try clear hb2); (try clear hk); (try clear hi)))
  go_ret
  exact ⟨by first | rfl | (simp [errW_none, errW_some] <;> rfl) | (simp [*, errW_none, errW_some] <;> rfl), by repeat (first | (with_reducible first | exact HB.out | apply below_alloc | apply pw_below_drewN | apply below_drew1 | refine below_set ?_ GE380.out) | exact HB.out)⟩
end Go.Proofs.YtdbjoiojiibdgaaGreatDoor.PFixed
namespace Go.Proofs.YtdbjoiojiibdgaaGreatDoor.PFixed
open Go.RowKit Go.Proofs.YtdbjoiojiibdgaaGreatDoorW.PrintWords Go.Proofs.YtdbjoiojiibdgaaGreatDoorW.PrintLast Go.Proofs.YtdbjoiojiibdgaaGreatDoorW.PrintMore
attribute [local go_sem] max2_int min2_int max_two min_two max_three min_three max_four min_four
set_option linter.unusedVariables false
set_option linter.unusedSimpArgs false
end Go.Proofs.YtdbjoiojiibdgaaGreatDoor.PFixed
