/-
  A part of the proof of FnMathWhole (packed out of smaller texts by a program of this session; what the proof does not reach is left out).
-/
import Derived.Test.YtldejfallphhbaaGreatDoorZ3
import Derived.Test.YtldejfallphhbaaGreatDoorZ4
namespace Go.Proofs.YtldejfallphhbaaGreatDoor.PNearest
open Go.RowKit Go.Proofs.YtldejfallphhbaaGreatDoorW.PrintWords Go.Proofs.YtldejfallphhbaaGreatDoorW.PrintLast Go.Proofs.YtldejfallphhbaaGreatDoorW.PrintMore
attribute [local go_sem] max2_int min2_int max_two min_two max_three min_three max_four min_four
set_option linter.unusedVariables false
set_option linter.unusedSimpArgs false
def spec_Int_Lsh.f (k : Nat) (a0_0 : Bool) (l0_1 : List Int) (a1 : Int) : Option (Bool × List Int) := (spec_Int_Zero.f a0_0 l0_1).bind fun t246 => (if t246 = true then (some (false, ([] : List Int))) else ((spec_Power.f k a1).bind fun bt247 => ((spec_Int_Mul.f k a0_0 l0_1 bt247.1 bt247.2).bind fun bt251 => (some (bt251.1, bt251.2)))))
theorem spec_Int_Lsh.mono : ∀ a0 a1 a2 k, LeO (spec_Int_Lsh.f k a0 a1 a2) (spec_Int_Lsh.f (k + 1) a0 a1 a2) := by
  intro a0 a1 a2 k
  unfold spec_Int_Lsh.f
  repeat' first
      | (with_reducible exact spec_Int_Mul.mono _ _ _ _ _)
      | (with_reducible exact spec_Power.mono _ _)
      | (with_reducible exact LeO.refl _)
      | (with_reducible exact LeO.none _)
      | (with_reducible refine LeO.ite ?_ ?_)
      | (with_reducible refine LeO.bind ?_ (fun _ => ?_))
      | exact spec_Int_Mul.mono _ _ _ _ _
      | exact spec_Power.mono _ _
      | exact LeO.none _
      | refine LeO.ite ?_ ?_
      | refine LeO.bind ?_ (fun _ => ?_)
set_option maxHeartbeats 8000000 in
set_option maxRecDepth 100000 in
theorem spec_Int_Lsh.calls (k : Nat) (a0_0 : Bool) (A0_1 : Option Addr) (c0_1 : Nat) (l0_1 : List Int) (a1 : Int) (r1 : Bool) (r2 : List Int) (w : World) (hr0_1 : Kd.C (Kd.int .u8) w A0_1 l0_1.length l0_1) (hc0_1 : l0_1.length ≤ c0_1) (h : spec_Int_Lsh.f k a0_0 l0_1 a1 = some (r1, r2)) :
    Calls Tryz.prog 55 #[.agg #[.bool a0_0, .slice A0_1 l0_1.length c0_1], .int .i64 a1] w fun e w' => ∃ v1_ : Value, e = .returned (.agg #[.bool r1, v1_]) ∧ Kd.R (Kd.int .u8) 5 w' w.heap.size (fun _ => True) v1_ r2 ∧ Below w.heap.size w w' := by
  have hu31 := Tryz.underlying31
  have HR0_1 := As.mk hr0_1
  have HC0_1 := As.mk hc0_1
  clear hr0_1 hc0_1
  have HB := As.mk (Below.refl w.heap.size w)
  have H : ((spec_Int_Zero.f a0_0 l0_1).bind fun t246 => (if t246 = true then (some (false, ([] : List Int))) else ((spec_Power.f k a1).bind fun bt247 => ((spec_Int_Mul.f k a0_0 l0_1 bt247.1 bt247.2).bind fun bt251 => (some (bt251.1, bt251.2)))))) = some (r1, r2) := h
  clear h
  replace H := Option.bind_eq_some_iff.mp H
  obtain ⟨t246, A30, H⟩ := H
  replace H : (if t246 = true then (some (false, ([] : List Int))) else ((spec_Power.f k a1).bind fun bt247 => ((spec_Int_Mul.f k a0_0 l0_1 bt247.1 bt247.2).bind fun bt251 => (some (bt251.1, bt251.2))))) = some (r1, r2) := H
  have A3 := As.mk A30
  clear A30
  by_cases c4 : t246 = true
  · subst c4
    have H1 : (some (false, ([] : List Int))) = some (r1, r2) := by rw [if_pos rfl] at H; exact H
    clear H
    have H := H1
    clear H1
    simp only [Option.some.injEq, Prod.mk.injEq] at H
    obtain ⟨rfl, rfl⟩ := H
    go_enter Tryz.func55, Tryz.ntmps55
    go_wp2_with (first | ((with_reducible refine gate_dst (N := 2) rfl ?_); refine box_event ?hg (N := 2) ?hd (cs := #[.bool a0_0, .slice A0_1 l0_1.length c0_1]) (t := 31) ?hr ?_; (case hd => rfl); (case hg => rfl); (case hr => first | (go_simp; done) | (go_simp; rfl)); intro gb244 hg w5 hbox hb; have n0_ := As.mk (bsp (by repeat (first | (with_reducible first | exact HB.out | apply bal | apply pwn | apply bdw) | exact HB.out)) hb); have n1_ := As.mk (hbox); have n2_ := As.mk ((by rw [hg]; exact (bsz (by repeat (first | (with_reducible first | exact HB.out | apply bal | apply pwn | apply bdw) | exact HB.out))) : w.heap.size ≤ gb244)); have n3_ := As.mk ((by rw [hg]; exact (bsz (by repeat (first | (with_reducible first | exact HB.out | apply bal | apply pwn | apply bdw) | exact HB.out))) : w.heap.size ≤ gb244)); clear HB; have HB := n0_; have BK244 := n1_; have GW244 := n2_; have GE244 := n3_; clear n0_ n1_ n2_ n3_; clear hb hbox hg) | ((with_reducible refine gate_dst (N := 4) rfl ?_); refine box_event ?hg (N := 4) ?hd (cs := #[.bool false, .slice none 0 0]) (t := 31) ?hr ?_; (case hd => rfl); (case hg => rfl); (case hr => first | (go_simp; done) | (go_simp; rfl)); intro gb245 hg w6 hbox hb; have n0_ := As.mk (kbw (g := gb244) (o := .cells #[.bool a0_0, .slice A0_1 l0_1.length c0_1] 31 (0, 0)) (by (with_reducible repeat (first | refine kdn ?_ _ | refine kdr ?_ | refine kal ?_ _)); exact BK244.out) hb); have n1_ := As.mk (bsp (by repeat (first | (with_reducible first | exact HB.out | apply bal | apply pwn | apply bdw | refine bst ?_ GE244.out) | exact HB.out)) hb); have n2_ := As.mk (hbox); have n3_ := As.mk ((by rw [hg]; exact (bsz (by repeat (first | (with_reducible first | exact HB.out | apply bal | apply pwn | apply bdw | refine bst ?_ GE244.out) | exact HB.out))) : w.heap.size ≤ gb245)); have n4_ := As.mk ((by rw [hg]; exact (bsz (by repeat (first | (with_reducible first | exact HB.out | apply bal | apply pwn | apply bdw | refine bst ?_ GE244.out) | exact HB.out))) : w.heap.size ≤ gb245)); have n5_ := As.mk ((by rw [hg]; exact Nat.ne_of_lt (blk_lt (g := gb244) (o := .cells #[.bool a0_0, .slice A0_1 l0_1.length c0_1] 31 (0, 0)) (by (with_reducible repeat (first | refine kdn ?_ _ | refine kdr ?_ | refine kal ?_ _)); exact BK244.out)) : gb244 ≠ gb245)); have n6_ := As.mk ((by rw [hg]; exact Nat.ne_of_gt (blk_lt (g := gb244) (o := .cells #[.bool a0_0, .slice A0_1 l0_1.length c0_1] 31 (0, 0)) (by (with_reducible repeat (first | refine kdn ?_ _ | refine kdr ?_ | refine kal ?_ _)); exact BK244.out)) : gb245 ≠ gb244)); clear BK244; clear HB; have BK244 := n0_; have HB := n1_; have BK245 := n2_; have GW245 := n3_; have GE245 := n4_; have NB244_245 := n5_; have NB245_244 := n6_; clear n0_ n1_ n2_ n3_ n4_ n5_ n6_; clear hb hbox hg; have hnb7 := NB244_245.out; have hnc7 := NB245_244.out; have hcz8_0 : w6.cell? ⟨gb244, 0, none⟩ = some (.bool a0_0) := (kcl BK244.out 0).trans rfl; have hcz8_1 : w6.cell? ⟨gb244, 1, none⟩ = some (.slice A0_1 l0_1.length c0_1) := (kcl BK244.out 1).trans rfl; have hfz8_0 := kfz BK244.out 0; have hfz8_1 := kfz BK244.out 1) | ((with_reducible refine gate_callee (f := 81) rfl ?_); refine goesL_ (some 6) rfl rfl Tryz.func81 (by kernel_rfl) rfl #[.agg #[.bool a0_0, .slice A0_1 l0_1.length c0_1]] rfl (by (try simp only [List.map_toArray, List.map_cons, List.map_nil]); first | done | rfl | (simp only [List.length_drop, List.length_take]; rfl)) ?_; (with_reducible refine (spec_Int_Zero.calls a0_0 _ _ l0_1 true _ ?side1 ?side2 A3.out).mono ?_); (case side1 => repeat (first | exact (Kd.C_below HR0_1.out HB.out) | (with_reducible refine Kd.C_alloc ?_ _) | (with_reducible refine Kd.C_drewN ?_ _) | (with_reducible refine Kd.C_drew ?_))); (case side2 => exact HC0_1.out); rintro e w9 ⟨rfl, hb⟩; refine ⟨_, rfl, ?_⟩; have n0_ := As.mk (kbw (g := gb244) (o := .cells #[.bool a0_0, .slice A0_1 l0_1.length c0_1] 31 (0, 0)) (by (with_reducible repeat (first | refine kdn ?_ _ | refine kdr ?_ | refine kal ?_ _)); exact BK244.out) hb); have n1_ := As.mk (kbw (g := gb245) (o := .cells #[.bool false, .slice none 0 0] 31 (0, 0)) (by (with_reducible repeat (first | refine kdn ?_ _ | refine kdr ?_ | refine kal ?_ _)); exact BK245.out) hb); have n2_ := As.mk (bsp (by repeat (first | (with_reducible first | exact HB.out | apply bal | apply pwn | apply bdw | refine bst ?_ GE244.out | refine bst ?_ GE245.out) | exact HB.out)) hb); clear BK244; clear BK245; clear HB; have BK244 := n0_; have BK245 := n1_; have HB := n2_; clear n0_ n1_ n2_; (try clear hb); (try clear hb2); (try clear hk); (try clear hi); have hcz10_0 : w9.cell? ⟨gb245, 0, none⟩ = some (.bool false) := (kcl BK245.out 0).trans rfl; have hcz10_1 : w9.cell? ⟨gb245, 1, none⟩ = some (.slice none 0 0) := (kcl BK245.out 1).trans rfl; have hfz10_0 := kfz BK245.out 0; have hfz10_1 := kfz BK245.out 1))
    refine bodyPost_ret (results_cell_row rfl _ _ gb245 31 #[.bool false, .slice none 0 0] (0, 0) _ rfl (by (with_reducible repeat (first | refine kdn ?_ _ | refine kdr ?_ | refine kal ?_ _)); refine blk_put (cs := #[.bool false, .slice none 0 0]) ?_ 1 _ rfl; (with_reducible repeat (first | refine kdn ?_ _ | refine kdr ?_ | refine kal ?_ _)); refine blk_put (cs := #[.bool false, .slice none 0 0]) ?_ 0 _ rfl; (with_reducible repeat (first | refine kdn ?_ _ | refine kdr ?_ | refine kal ?_ _)); exact BK245.out) Tryz.underlying31 rfl (by kernel_rfl)) rfl ?_
    exact ⟨_, by first | rfl | (simp [errW_none, errW_some] <;> rfl) | (simp [*, errW_none, errW_some] <;> rfl), by first | exact Kd.R_nil _ _ _ _ _ | exact Kd.N_nil _ _ _ _ _ | exact Kd.V_nil _ _ _ _ _ | exact Kd.Q_nil _ _ _ _ _ | exact Kd.S_nil _ _ _ _ _, by repeat (first | (with_reducible first | exact HB.out | apply bal | apply pwn | apply bdw | refine bst ?_ GE244.out | refine bst ?_ GE245.out) | exact HB.out)⟩
  · replace c4 := Bool.eq_false_iff.mpr c4
    subst c4
    have H1 : ((spec_Power.f k a1).bind fun bt247 => ((spec_Int_Mul.f k a0_0 l0_1 bt247.1 bt247.2).bind fun bt251 => (some (bt251.1, bt251.2)))) = some (r1, r2) := by rw [if_neg (show ¬ (false = true) by decide)] at H; exact H
    clear H
    have H := H1
    clear H1
    replace H := Option.bind_eq_some_iff.mp H
    obtain ⟨⟨t247, t248⟩, A110, H⟩ := H
    replace H : ((spec_Int_Mul.f k a0_0 l0_1 t247 t248).bind fun bt251 => (some (bt251.1, bt251.2))) = some (r1, r2) := H
    have A11 := As.mk A110
    clear A110
    replace H := Option.bind_eq_some_iff.mp H
    obtain ⟨⟨t251, t252⟩, A120, H⟩ := H
    replace H : (some (t251, t252)) = some (r1, r2) := H
    have A12 := As.mk A120
    clear A120
    simp only [Option.some.injEq, Prod.mk.injEq] at H
    obtain ⟨rfl, rfl⟩ := H
    go_enter Tryz.func55, Tryz.ntmps55
    try go_wp2_with (first | ((with_reducible refine gate_dst (N := 2) rfl ?_); refine box_event ?hg (N := 2) ?hd (cs := #[.bool a0_0, .slice A0_1 l0_1.length c0_1]) (t := 31) ?hr ?_; (case hd => rfl); (case hg => rfl); (case hr => first | (go_simp; done) | (go_simp; rfl)); intro gb244 hg w13 hbox hb; have n0_ := As.mk (bsp (by repeat (first | (with_reducible first | exact HB.out | apply bal | apply pwn | apply bdw) | exact HB.out)) hb); have n1_ := As.mk (hbox); have n2_ := As.mk ((by rw [hg]; exact (bsz (by repeat (first | (with_reducible first | exact HB.out | apply bal | apply pwn | apply bdw) | exact HB.out))) : w.heap.size ≤ gb244)); have n3_ := As.mk ((by rw [hg]; exact (bsz (by repeat (first | (with_reducible first | exact HB.out | apply bal | apply pwn | apply bdw) | exact HB.out))) : w.heap.size ≤ gb244)); clear HB; have HB := n0_; have BK244 := n1_; have GW244 := n2_; have GE244 := n3_; clear n0_ n1_ n2_ n3_; clear hb hbox hg) | ((with_reducible refine gate_dst (N := 4) rfl ?_); refine box_event ?hg (N := 4) ?hd (cs := #[.bool false, .slice none 0 0]) (t := 31) ?hr ?_; (case hd => rfl); (case hg => rfl); (case hr => first | (go_simp; done) | (go_simp; rfl)); intro gb245 hg w14 hbox hb; have n0_ := As.mk (kbw (g := gb244) (o := .cells #[.bool a0_0, .slice A0_1 l0_1.length c0_1] 31 (0, 0)) (by (with_reducible repeat (first | refine kdn ?_ _ | refine kdr ?_ | refine kal ?_ _)); exact BK244.out) hb); have n1_ := As.mk (bsp (by repeat (first | (with_reducible first | exact HB.out | apply bal | apply pwn | apply bdw | refine bst ?_ GE244.out) | exact HB.out)) hb); have n2_ := As.mk (hbox); have n3_ := As.mk ((by rw [hg]; exact (bsz (by repeat (first | (with_reducible first | exact HB.out | apply bal | apply pwn | apply bdw | refine bst ?_ GE244.out) | exact HB.out))) : w.heap.size ≤ gb245)); have n4_ := As.mk ((by rw [hg]; exact (bsz (by repeat (first | (with_reducible first | exact HB.out | apply bal | apply pwn | apply bdw | refine bst ?_ GE244.out) | exact HB.out))) : w.heap.size ≤ gb245)); have n5_ := As.mk ((by rw [hg]; exact Nat.ne_of_lt (blk_lt (g := gb244) (o := .cells #[.bool a0_0, .slice A0_1 l0_1.length c0_1] 31 (0, 0)) (by (with_reducible repeat (first | refine kdn ?_ _ | refine kdr ?_ | refine kal ?_ _)); exact BK244.out)) : gb244 ≠ gb245)); have n6_ := As.mk ((by rw [hg]; exact Nat.ne_of_gt (blk_lt (g := gb244) (o := .cells #[.bool a0_0, .slice A0_1 l0_1.length c0_1] 31 (0, 0)) (by (with_reducible repeat (first | refine kdn ?_ _ | refine kdr ?_ | refine kal ?_ _)); exact BK244.out)) : gb245 ≠ gb244)); clear BK244; clear HB; have BK244 := n0_; have HB := n1_; have BK245 := n2_; have GW245 := n3_; have GE245 := n4_; have NB244_245 := n5_; have NB245_244 := n6_; clear n0_ n1_ n2_ n3_ n4_ n5_ n6_; clear hb hbox hg; have hnb15 := NB244_245.out; have hnc15 := NB245_244.out; have hcz16_0 : w14.cell? ⟨gb244, 0, none⟩ = some (.bool a0_0) := (kcl BK244.out 0).trans rfl; have hcz16_1 : w14.cell? ⟨gb244, 1, none⟩ = some (.slice A0_1 l0_1.length c0_1) := (kcl BK244.out 1).trans rfl; have hfz16_0 := kfz BK244.out 0; have hfz16_1 := kfz BK244.out 1) | ((with_reducible refine gate_callee (f := 81) rfl ?_); refine goesL_ (some 6) rfl rfl Tryz.func81 (by kernel_rfl) rfl #[.agg #[.bool a0_0, .slice A0_1 l0_1.length c0_1]] rfl (by (try simp only [List.map_toArray, List.map_cons, List.map_nil]); first | done | rfl | (simp only [List.length_drop, List.length_take]; rfl)) ?_; (with_reducible refine (spec_Int_Zero.calls a0_0 _ _ l0_1 false _ ?side1 ?side2 A3.out).mono ?_); (case side1 => repeat (first | exact (Kd.C_below HR0_1.out HB.out) | (with_reducible refine Kd.C_alloc ?_ _) | (with_reducible refine Kd.C_drewN ?_ _) | (with_reducible refine Kd.C_drew ?_))); (case side2 => exact HC0_1.out); rintro e w17 ⟨rfl, hb⟩; refine ⟨_, rfl, ?_⟩; have n0_ := As.mk (kbw (g := gb244) (o := .cells #[.bool a0_0, .slice A0_1 l0_1.length c0_1] 31 (0, 0)) (by (with_reducible repeat (first | refine kdn ?_ _ | refine kdr ?_ | refine kal ?_ _)); exact BK244.out) hb); have n1_ := As.mk (kbw (g := gb245) (o := .cells #[.bool false, .slice none 0 0] 31 (0, 0)) (by (with_reducible repeat (first | refine kdn ?_ _ | refine kdr ?_ | refine kal ?_ _)); exact BK245.out) hb); have n2_ := As.mk (bsp (by repeat (first | (with_reducible first | exact HB.out | apply bal | apply pwn | apply bdw | refine bst ?_ GE244.out | refine bst ?_ GE245.out) | exact HB.out)) hb); clear BK244; clear BK245; clear HB; have BK244 := n0_; have BK245 := n1_; have HB := n2_; clear n0_ n1_ n2_; (try clear hb); (try clear hb2); (try clear hk); (try clear hi)))
    have n0_ := As.mk (kdr BK244.out)
    have n1_ := As.mk (kdr BK245.out)
    have n2_ := As.mk (bdw HB.out)
    clear BK244
    clear BK245
    clear HB
    have BK244 := n0_
    have BK245 := n1_
    have HB := n2_
    clear n0_ n1_ n2_
    refine start_ (n := 5) (S := fun w' => w'.cell? ⟨gb244, 0, none⟩ = some (.bool a0_0) ∧ w'.cell? ⟨gb244, 1, none⟩ = some (.slice A0_1 l0_1.length c0_1)) (ds := []) #[false, false, false, false, false] (by kernel_rfl) rfl rfl ⟨(kcl BK244.out 0).trans rfl, (kcl BK244.out 1).trans rfl⟩ (fun hHeld => ?_)
    generalize w17.drew = w18 at BK244 BK245 HB hHeld ⊢
    refine pure_ (i := 1) (N := some 9) (v := ?_) (a' := ?_) #[false, true, false, false, false] rfl rfl (by kernel_rfl) (fun _ _ _ h => h) (Or.inl ⟨by rfl, ?_⟩) ?_ ?_
    rotate_left
    · intro w'
      go_simp
      with_reducible rfl
    rotate_left
    · simp only [Act.put, List.setIfInBounds_toArray, List.set_cons_zero, List.set_cons_succ, i64_w, i32_w]
      rfl
    refine take_ (i := 0) (N := some 8) (v := ?_) (a' := ?_) #[true, true, false, false, false] rfl rfl (by kernel_rfl) (fun _ _ _ h => h) (Or.inl ⟨by rfl, ?_⟩) hHeld ?_ ?_
    rotate_left
    · rintro w' ⟨s0, s1⟩
      go_simp
      with_reducible rfl
    rotate_left
    · simp only [Act.put, List.setIfInBounds_toArray, List.set_cons_zero, List.set_cons_succ, i64_w, i32_w]
      rfl
    refine one_ (i := 2) (N := some 10) #[true, true, true, false, false] rfl rfl (by kernel_rfl) (by decide) (fun K hK => ?_)
    refine goes_ Tryz.func64 (by kernel_rfl) rfl #[.int .i64 a1] (by rfl) rfl rfl (by (try simp only [List.map_toArray, List.map_cons, List.map_nil]); first | done | rfl | (simp only [List.length_drop, List.length_take]; rfl)) ?_
    with_reducible refine (spec_Power.calls k a1 t247 t248 _ A11.out).mono ?_
    rintro e w19 ⟨v249, rfl, ho0, hb⟩
    refine ⟨_, rfl, ?_⟩
    have n0_ := As.mk (Kd.R_lower ho0 (bsz (by repeat (first | (with_reducible first | exact HB.out | apply bal | apply pwn | apply bdw | refine bst ?_ GE244.out | refine bst ?_ GE245.out) | exact HB.out))))
    have n1_ := As.mk (kbw (g := gb244) (o := .cells #[.bool a0_0, .slice A0_1 l0_1.length c0_1] 31 (0, 0)) (by (with_reducible repeat (first | refine kdn ?_ _ | refine kdr ?_ | refine kal ?_ _)); exact BK244.out) hb)
    have n2_ := As.mk (kbw (g := gb245) (o := .cells #[.bool false, .slice none 0 0] 31 (0, 0)) (by (with_reducible repeat (first | refine kdn ?_ _ | refine kdr ?_ | refine kal ?_ _)); exact BK245.out) hb)
    have n3_ := As.mk (bsp (by repeat (first | (with_reducible first | exact HB.out | apply bal | apply pwn | apply bdw | refine bst ?_ GE244.out | refine bst ?_ GE245.out) | exact HB.out)) hb)
    clear BK244
    clear BK245
    clear HB
    have HO250 := n0_
    have BK244 := n1_
    have BK245 := n2_
    have HB := n3_
    clear n0_ n1_ n2_ n3_
    (try clear hb)
    (try clear hb2)
    (try clear hk)
    (try clear hi)
    (try clear ho0)
    obtain ⟨Ao20, co20, eo20⟩ := Kd.R_slice HO250.out
    (first | subst eo20 | (injection eo20 with f1_ f2_ f3_; have f4_ := f1_.symm; have f5_ := f3_.symm; clear f1_ f2_ f3_; subst f4_; subst f5_))
    refine hK.out _ _ ⟨(kcl BK244.out 0).trans rfl, (kcl BK244.out 1).trans rfl⟩ (fun hHeld => ?_)
    clear hK K
    refine norm_ (a' := ?_) ?_ ?_
    rotate_left
    · show Act.put _ (some 10) _ = _
      simp only [Act.put, List.setIfInBounds_toArray, List.set_cons_zero, List.set_cons_succ, i64_w, i32_w]
      rfl
    refine one_ (i := 3) (N := some 11) #[true, true, true, true, false] rfl rfl (by kernel_rfl) (by decide) (fun K hK => ?_)
    refine goes_ Tryz.func82 (by kernel_rfl) rfl #[.agg #[.bool a0_0, .slice A0_1 l0_1.length c0_1], .agg #[.bool t247, .slice Ao20 t248.length co20]] (by rfl) rfl rfl (by (try simp only [List.map_toArray, List.map_cons, List.map_nil]); first | done | rfl | (simp only [List.length_drop, List.length_take]; rfl)) ?_
    with_reducible refine (spec_Int_Mul.calls k a0_0 _ _ l0_1 t247 _ _ t248 t251 t252 _ ?side1 ?side2 ?side3 ?side4 A12.out).mono ?_
    (case side1 => repeat (first | exact (Kd.C_below HR0_1.out HB.out) | (with_reducible refine Kd.C_alloc ?_ _) | (with_reducible refine Kd.C_drewN ?_ _) | (with_reducible refine Kd.C_drew ?_)))
    (case side2 => exact HC0_1.out)
    (case side3 => repeat (first | exact (Kd.R_reads' HO250.out).2.2 | (with_reducible refine Kd.C_alloc ?_ _) | (with_reducible refine Kd.C_drewN ?_ _) | (with_reducible refine Kd.C_drew ?_)))
    (case side4 => exact (Kd.R_reads' HO250.out).2.1)
    rintro e w21 ⟨v253, rfl, ho0, hb⟩
    refine ⟨_, rfl, ?_⟩
    have n0_ := As.mk (Kd.R_elder' (by (with_reducible repeat (first | apply Kd.R_alloc | apply Kd.R_drewN | apply Kd.R_drew)); exact HO250.out) (Kd.R_base ho0) hb)
    have n1_ := As.mk (Kd.R_lower (Kd.R_new' ho0 (Kd.R_lt (by (with_reducible repeat (first | apply Kd.R_alloc | apply Kd.R_drewN | apply Kd.R_drew)); exact HO250.out))) (bsz (by repeat (first | (with_reducible first | exact HB.out | apply bal | apply pwn | apply bdw | refine bst ?_ GE244.out | refine bst ?_ GE245.out) | exact HB.out))))
    have n2_ := As.mk (kbw (g := gb244) (o := .cells #[.bool a0_0, .slice A0_1 l0_1.length c0_1] 31 (0, 0)) (by (with_reducible repeat (first | refine kdn ?_ _ | refine kdr ?_ | refine kal ?_ _)); exact BK244.out) hb)
    have n3_ := As.mk (kbw (g := gb245) (o := .cells #[.bool false, .slice none 0 0] 31 (0, 0)) (by (with_reducible repeat (first | refine kdn ?_ _ | refine kdr ?_ | refine kal ?_ _)); exact BK245.out) hb)
    have n4_ := As.mk (bsp (by repeat (first | (with_reducible first | exact HB.out | apply bal | apply pwn | apply bdw | refine bst ?_ GE244.out | refine bst ?_ GE245.out) | exact HB.out)) hb)
    clear HO250
    clear BK244
    clear BK245
    clear HB
    have HO250 := n0_
    have HO254 := n1_
    have BK244 := n2_
    have BK245 := n3_
    have HB := n4_
    clear n0_ n1_ n2_ n3_ n4_
    (try clear hb)
    (try clear hb2)
    (try clear hk)
    (try clear hi)
    (try clear ho0)
    obtain ⟨Ao23, co23, eo23⟩ := Kd.R_slice HO254.out
    (first | subst eo23 | (injection eo23 with f1_ f2_ f3_; have f4_ := f1_.symm; have f5_ := f3_.symm; clear f1_ f2_ f3_; subst f4_; subst f5_))
    refine hK.out _ _ ⟨(kcl BK244.out 0).trans rfl, (kcl BK244.out 1).trans rfl⟩ (fun hHeld => ?_)
    clear hK K
    refine norm_ (a' := ?_) ?_ ?_
    rotate_left
    · show Act.put _ (some 11) _ = _
      simp only [Act.put, List.setIfInBounds_toArray, List.set_cons_zero, List.set_cons_succ, i64_w, i32_w]
      rfl
    refine one_ (i := 4) (N := none) #[true, true, true, true, true] rfl rfl (by kernel_rfl) (by decide) (fun K hK => ?_)
    have hs22 : w21.cell? ⟨gb245, 0, none⟩ = some (.bool false) := (kcl BK245.out 0).trans rfl
    have hfs22 := kfz BK245.out 0
    have hns22_0 := NB244_245.out
    have hms22_0 := NB245_244.out
    have hs24 : w21.cell? ⟨gb245, 1, none⟩ = some (.slice none 0 0) := (kcl BK245.out 1).trans rfl
    have hfs24 := kfz BK245.out 1
    have hns24_0 := NB244_245.out
    have hms24_0 := NB245_244.out
    refine skip_ (w1 := ?_) (by rfl) rfl ?_ ?_
    rotate_left
    · go_simp
      rfl
    refine hK.out _ _ ⟨((cell_far (p := ⟨gb245, _, none⟩) NB244_245.out _).trans (((cell_far (p := ⟨gb245, _, none⟩) NB244_245.out _).trans (hHeld.1)))), ((cell_far (p := ⟨gb245, _, none⟩) NB244_245.out _).trans (((cell_far (p := ⟨gb245, _, none⟩) NB244_245.out _).trans (hHeld.2))))⟩ (fun hHeld => ?_)
    clear hK K
    refine done_ (by kernel_rfl) ?_
    try go_wp2
    refine bodyPost_ret (results_cell_row rfl _ _ gb245 31 #[.bool t251, .slice Ao23 t252.length co23] (0, 0) _ rfl (by (with_reducible repeat (first | refine kdn ?_ _ | refine kdr ?_ | refine kal ?_ _)); refine blk_put (cs := #[.bool t251, .slice none 0 0]) ?_ 1 _ rfl; (with_reducible repeat (first | refine kdn ?_ _ | refine kdr ?_ | refine kal ?_ _)); refine blk_put (cs := #[.bool false, .slice none 0 0]) ?_ 0 _ rfl; (with_reducible repeat (first | refine kdn ?_ _ | refine kdr ?_ | refine kal ?_ _)); exact BK245.out) Tryz.underlying31 rfl (by kernel_rfl)) rfl ?_
    exact ⟨_, by first | rfl | (simp [errW_none, errW_some] <;> rfl) | (simp [*, errW_none, errW_some] <;> rfl), by (with_reducible repeat (first | apply Kd.R_alloc | apply Kd.R_drewN | apply Kd.R_drew)); exact Kd.R_mono (Kd.R_far (p := ⟨gb245, 1, none⟩) (Kd.R_far (p := ⟨gb245, 0, none⟩) (Kd.R_types HO254.out BK245.out (by decide)) (fun _ hk => hk.2) (.bool t251)) (fun _ hk => hk.2) (.slice Ao23 t252.length co23)) (fun _ hk => trivial), by repeat (first | (with_reducible first | exact HB.out | apply bal | apply pwn | apply bdw | refine bst ?_ GE244.out | refine bst ?_ GE245.out) | exact HB.out)⟩
def spec_bit.f (l0 : List Int) (a1 : Int) : Option (Int) := (spec_digit.f l0 (wrap64 (Int.tdiv a1 8))).bind fun t255 => (if 0 ≤ (IntKind.u64.wrap (Int.tmod a1 8)) then (some (Go.bits .and .i64 (shr .i64 t255 (IntKind.u64.wrap (Int.tmod a1 8))) 1)) else (none))
set_option maxHeartbeats 8000000 in
set_option maxRecDepth 100000 in
theorem spec_bit.calls (A0 : Option Addr) (c0 : Nat) (l0 : List Int) (a1 : Int) (r : Int) (w : World) (hr0 : Kd.C (Kd.int .u8) w A0 l0.length l0) (hc0 : l0.length ≤ c0) (h : spec_bit.f l0 a1 = some r) :
    Calls Tryz.prog 65 #[.slice A0 l0.length c0, .int .i64 a1] w fun e w' => e = .returned (.int .i64 r) ∧ Drawn0 w w' := by
  have HR0 := As.mk hr0
  have HC0 := As.mk hc0
  clear hr0 hc0
  have H : ((spec_digit.f l0 (wrap64 (Int.tdiv a1 8))).bind fun t255 => (if 0 ≤ (IntKind.u64.wrap (Int.tmod a1 8)) then (some (Go.bits .and .i64 (shr .i64 t255 (IntKind.u64.wrap (Int.tmod a1 8))) 1)) else (none))) = some r := h
  clear h
  replace H := Option.bind_eq_some_iff.mp H
  obtain ⟨t255, A30, H⟩ := H
  replace H : (if 0 ≤ (IntKind.u64.wrap (Int.tmod a1 8)) then (some (Go.bits .and .i64 (shr .i64 t255 (IntKind.u64.wrap (Int.tmod a1 8))) 1)) else (none)) = some r := H
  have A3 := As.mk A30
  clear A30
  obtain ⟨ji4, hji4⟩ : ∃ j_ : Int, (IntKind.u64.wrap (Int.tmod a1 8)) = j_ := ⟨_, rfl⟩
  replace H : (if 0 ≤ (ji4) then (some (Go.bits .and .i64 (shr .i64 t255 (ji4)) 1)) else (none)) = some r := by first | (rw [hji4] at H; exact H) | (simp only [hji4] at H ⊢; exact H)
  (try rw [hji4] at A3)
  by_cases c5 : 0 ≤ (ji4)
  · rw [if_pos c5] at H
    have c5b0 := eq_true c5
    have c5b1 : decide (0 ≤ (ji4)) = true := decide_eq_true c5
    clear c5
    obtain ⟨ji6, hji6⟩ : ∃ j_ : Int, (shr .i64 t255 (ji4)) = j_ := ⟨_, rfl⟩
    replace H : (some (Go.bits .and .i64 (ji6) 1)) = some r := by first | (rw [hji6] at H; exact H) | (simp only [hji6] at H ⊢; exact H)
    (try rw [hji6] at A3)
    have hji6_ : (t255 / 2 ^ min (ji4).toNat 64) = ji6 := hji6
    have hji6z : (ji4) ≤ 64 → (t255 / 2 ^ (ji4).toNat) = ji6 := shr_small hji6
    obtain rfl := Option.some.inj H
    go_enter Tryz.func65, Tryz.ntmps65
    go_wp2_with (first | ((with_reducible refine gate_callee (f := 84) rfl ?_); refine goesL_ (some 8) rfl rfl Tryz.func84 (by kernel_rfl) rfl #[.slice A0 l0.length c0, .int .i64 (wrap64 (Int.tdiv a1 8))] rfl (by (try simp only [List.map_toArray, List.map_cons, List.map_nil]); first | done | rfl | (simp only [List.length_drop, List.length_take]; rfl)) ?_; (with_reducible refine (spec_digit.calls _ _ l0 (wrap64 (Int.tdiv a1 8)) t255 _ ?side1 ?side2 A3.out).mono ?_); (case side1 => repeat (first | exact HR0.out | (with_reducible refine Kd.C_alloc ?_ _) | (with_reducible refine Kd.C_drewN ?_ _) | (with_reducible refine Kd.C_drew ?_))); (case side2 => exact HC0.out); rintro e w' ⟨rfl, ⟨nd, rfl⟩⟩; refine ⟨_, rfl, ?_⟩))
    go_ret
    exact ⟨by first | rfl | (simp; done) | (simp only [← hji4, ← hji6] <;> (first | rfl | simp)) | (simp [*]; done), by repeat (first | exact Drawn0.refl _ | apply Drawn0.step)⟩
  · rw [if_neg c5] at H
    exact absurd H (by simp)
def spec_Int_Length.l0 : Nat → Int → Bool → List Int → Option (Int)
  | 0, _, _, _ => none
  | k + 1, x3, x257000, x257001 => if x3 > 0 then ((spec_bit.f x257001 (wrap64 (x3 - 1))).bind fun t257 => (if t257 = 1 then (some x3) else (spec_Int_Length.l0 k (wrap64 (x3 - 1)) x257000 x257001))) else (some 0)
def spec_Int_Length.f (k : Nat) (a0_0 : Bool) (l0_1 : List Int) : Option (Int) := spec_Int_Length.l0 k (wrap64 (8 * (l0_1.length : Int))) a0_0 l0_1
theorem spec_Int_Length.mono_l : ∀ k, (∀ y0 y1 y2, LeO (spec_Int_Length.l0 k y0 y1 y2) (spec_Int_Length.l0 (k + 1) y0 y1 y2))
  | 0 => fun _ _ _ r h => by simp [spec_Int_Length.l0] at h
  | k + 1 => by
    have ih0 := spec_Int_Length.mono_l k
    · intro y0 y1 y2
      unfold spec_Int_Length.l0
      repeat' first
      | (with_reducible exact ih0 _ _ _)
      | (with_reducible exact LeO.refl _)
      | (with_reducible exact LeO.none _)
      | (with_reducible refine LeO.ite ?_ ?_)
      | (with_reducible refine LeO.bind ?_ (fun _ => ?_))
      | exact ih0 _ _ _
      | exact LeO.none _
      | refine LeO.ite ?_ ?_
      | refine LeO.bind ?_ (fun _ => ?_)
theorem spec_Int_Length.mono : ∀ a0 a1 k, LeO (spec_Int_Length.f k a0 a1) (spec_Int_Length.f (k + 1) a0 a1) := by
  intro a0 a1 k
  have ih0 := spec_Int_Length.mono_l k
  unfold spec_Int_Length.f
  repeat' first
      | (with_reducible exact ih0 _ _ _)
      | (with_reducible exact LeO.refl _)
      | (with_reducible exact LeO.none _)
      | (with_reducible refine LeO.ite ?_ ?_)
      | (with_reducible refine LeO.bind ?_ (fun _ => ?_))
      | exact ih0 _ _ _
      | exact LeO.none _
      | refine LeO.ite ?_ ?_
      | refine LeO.bind ?_ (fun _ => ?_)
set_option maxHeartbeats 8000000 in
set_option maxRecDepth 100000 in
theorem spec_Int_Length.calls (k : Nat) (a0_0 : Bool) (A0_1 : Option Addr) (c0_1 : Nat) (l0_1 : List Int) (r : Int) (w : World) (hr0_1 : Kd.C (Kd.int .u8) w A0_1 l0_1.length l0_1) (hc0_1 : l0_1.length ≤ c0_1) (h : spec_Int_Length.f k a0_0 l0_1 = some r) :
    Calls Tryz.prog 62 #[.agg #[.bool a0_0, .slice A0_1 l0_1.length c0_1]] w fun e w' => e = .returned (.int .i64 r) ∧ Below w.heap.size w w' := by
  have hu31 := Tryz.underlying31
  have HR0_1 := As.mk hr0_1
  have HC0_1 := As.mk hc0_1
  clear hr0_1 hc0_1
  have HB := As.mk (Below.refl w.heap.size w)
  have H : (spec_Int_Length.l0 k (wrap64 (8 * (l0_1.length : Int))) a0_0 l0_1) = some r := h
  clear h
  have H' := As.mk H
  clear H
  go_enter Tryz.func62, Tryz.ntmps62
  go_wp2_with (first | ((with_reducible refine gate_dst (N := 1) rfl ?_); refine box_event ?hg (N := 1) ?hd (cs := #[.bool a0_0, .slice A0_1 l0_1.length c0_1]) (t := 31) ?hr ?_; (case hd => rfl); (case hg => rfl); (case hr => first | (go_simp; done) | (go_simp; rfl)); intro gb256 hg w2 hbox hb; have n0_ := As.mk (bsp (by repeat (first | (with_reducible first | exact HB.out | apply bal | apply pwn | apply bdw) | exact HB.out)) hb); have n1_ := As.mk (hbox); have n2_ := As.mk ((by rw [hg]; exact (bsz (by repeat (first | (with_reducible first | exact HB.out | apply bal | apply pwn | apply bdw) | exact HB.out))) : w.heap.size ≤ gb256)); have n3_ := As.mk ((by rw [hg]; exact (bsz (by repeat (first | (with_reducible first | exact HB.out | apply bal | apply pwn | apply bdw) | exact HB.out))) : w.heap.size ≤ gb256)); clear HB; have HB := n0_; have BK256 := n1_; have GW256 := n2_; have GE256 := n3_; clear n0_ n1_ n2_ n3_; clear hb hbox hg; have hcz3_0 : w2.cell? ⟨gb256, 0, none⟩ = some (.bool a0_0) := (kcl BK256.out 0).trans rfl; have hcz3_1 : w2.cell? ⟨gb256, 1, none⟩ = some (.slice A0_1 l0_1.length c0_1) := (kcl BK256.out 1).trans rfl; have hfz3_0 := kfz BK256.out 0; have hfz3_1 := kfz BK256.out 1))
  go_loopg [3] k (fun kq v3 w' => ∃ (x3_1 : Int), v3 = .int .i64 x3_1 ∧ As (spec_Int_Length.l0 kq x3_1 a0_0 l0_1 = some r) ∧ As (kq ≤ k) ∧ As (w'.heap[gb256]? = some (.cells #[.bool a0_0, (.slice A0_1 l0_1.length c0_1)] 31 (0, 0))) ∧ As (Below w.heap.size w w'))
  case atStart => exact ⟨(wrap64 (8 * (l0_1.length : Int))), (by first | rfl | (simp; done) | (simp [*]; done)), H', ⟨Nat.le_refl _⟩, ⟨by (with_reducible repeat (first | refine kdn ?_ _ | refine kdr ?_ | refine kal ?_ _)); exact BK256.out⟩, ⟨by repeat (first | (with_reducible first | exact HB.out | apply bal | apply pwn | apply bdw | refine bst ?_ GE256.out) | exact HB.out)⟩⟩
  case round =>
    clear H'
    try clear p2
    try clear hcz3_0
    try clear hcz3_1
    try clear hfz3_0
    try clear hfz3_1
    obtain ⟨x3_1, rfl, HA, HK1, BK256, HB⟩ := hrel
    cases gk with
    | zero => exact absurd HA.out (by simp [spec_Int_Length.l0])
    | succ k1 =>
      have H := HA.out
      clear HA
      simp only [spec_Int_Length.l0] at H
      by_cases c4 : x3_1 > 0
      · rw [if_pos c4] at H
        have c4b0 : decide (0 < x3_1) = true := decide_eq_true c4
        clear c4
        replace H := Option.bind_eq_some_iff.mp H
        obtain ⟨t257, A50, H⟩ := H
        replace H : (if t257 = 1 then (some x3_1) else (spec_Int_Length.l0 k1 (wrap64 (x3_1 - 1)) a0_0 l0_1)) = some r := H
        have A5 := As.mk A50
        clear A50
        by_cases c6 : t257 = 1
        · rw [if_pos c6] at H
          have c6b0 : (t257 == 1) = true := beq_iff_eq.mpr c6
          have c6b1 : (t257 != 1) = false := bne_eq_false_iff_eq.mpr c6
          clear c6
          obtain rfl := Option.some.inj H
          have hcz7_0 : wr.cell? ⟨gb256, 0, none⟩ = some (.bool a0_0) := (kcl BK256.out 0).trans rfl
          have hcz7_1 : wr.cell? ⟨gb256, 1, none⟩ = some (.slice A0_1 l0_1.length c0_1) := (kcl BK256.out 1).trans rfl
          have hfz7_0 := kfz BK256.out 0
          have hfz7_1 := kfz BK256.out 1
          go_wp2_with (first | ((with_reducible refine gate_callee (f := 65) rfl ?_); refine goesL_ (some 16) rfl rfl Tryz.func65 (by kernel_rfl) rfl #[.slice A0_1 l0_1.length c0_1, .int .i64 (wrap64 (x3_1 - 1))] rfl (by (try simp only [List.map_toArray, List.map_cons, List.map_nil]); first | done | rfl | (simp only [List.length_drop, List.length_take]; rfl)) ?_; (with_reducible refine (spec_bit.calls _ _ l0_1 (wrap64 (x3_1 - 1)) t257 _ ?side1 ?side2 A5.out).mono ?_); (case side1 => repeat (first | exact (Kd.C_below HR0_1.out HB.out) | (with_reducible refine Kd.C_alloc ?_ _) | (with_reducible refine Kd.C_drewN ?_ _) | (with_reducible refine Kd.C_drew ?_))); (case side2 => exact HC0_1.out); rintro e w' ⟨rfl, ⟨nd, rfl⟩⟩; refine ⟨_, rfl, ?_⟩))
          go_ret
          exact ⟨by first | rfl | (simp [errW_none, errW_some] <;> rfl) | (simp [*, errW_none, errW_some] <;> rfl), by repeat (first | (with_reducible first | exact HB.out | apply bal | apply pwn | apply bdw | refine bst ?_ GE256.out) | exact HB.out)⟩
        · rw [if_neg c6] at H
          have c6b0 : (t257 == 1) = false := beq_eq_false_iff_ne.mpr c6
          have c6b1 : (t257 != 1) = true := bne_iff_ne.mpr c6
          have H' := As.mk H
          clear H
          have hcz8_0 : wr.cell? ⟨gb256, 0, none⟩ = some (.bool a0_0) := (kcl BK256.out 0).trans rfl
          have hcz8_1 : wr.cell? ⟨gb256, 1, none⟩ = some (.slice A0_1 l0_1.length c0_1) := (kcl BK256.out 1).trans rfl
          have hfz8_0 := kfz BK256.out 0
          have hfz8_1 := kfz BK256.out 1
          go_wp2_with (first | ((with_reducible refine gate_callee (f := 65) rfl ?_); refine goesL_ (some 16) rfl rfl Tryz.func65 (by kernel_rfl) rfl #[.slice A0_1 l0_1.length c0_1, .int .i64 (wrap64 (x3_1 - 1))] rfl (by (try simp only [List.map_toArray, List.map_cons, List.map_nil]); first | done | rfl | (simp only [List.length_drop, List.length_take]; rfl)) ?_; (with_reducible refine (spec_bit.calls _ _ l0_1 (wrap64 (x3_1 - 1)) t257 _ ?side1 ?side2 A5.out).mono ?_); (case side1 => repeat (first | exact (Kd.C_below HR0_1.out HB.out) | (with_reducible refine Kd.C_alloc ?_ _) | (with_reducible refine Kd.C_drewN ?_ _) | (with_reducible refine Kd.C_drew ?_))); (case side2 => exact HC0_1.out); rintro e w' ⟨rfl, ⟨nd, rfl⟩⟩; refine ⟨_, rfl, ?_⟩))
          go_roundg k1
          case measure => have := HK1.out; omega
          case rel => exact ⟨(wrap64 (x3_1 - 1)), (by first | rfl | (simp; done) | (simp [*]; done)), H', ⟨by have := HK1.out; omega⟩, ⟨by (with_reducible repeat (first | refine kdn ?_ _ | refine kdr ?_ | refine kal ?_ _)); exact BK256.out⟩, ⟨by repeat (first | (with_reducible first | exact HB.out | apply bal | apply pwn | apply bdw | refine bst ?_ GE256.out) | exact HB.out)⟩⟩
      · rw [if_neg c4] at H
        have c4b0 : decide (0 < x3_1) = false := decide_eq_false c4
        clear c4
        obtain rfl := Option.some.inj H
        go_wp2
        go_ret
        exact ⟨by first | rfl | (simp [errW_none, errW_some] <;> rfl) | (simp [*, errW_none, errW_some] <;> rfl), by repeat (first | (with_reducible first | exact HB.out | apply bal | apply pwn | apply bdw | refine bst ?_ GE256.out) | exact HB.out)⟩
mutual
def spec_split.l0 : Nat → List Int → List Int → List Int → List Int → Int → Option (List Int × List Int)
  | 0, _, _, _, _, _ => none
  | k + 1, x0, x1, x6, x7, x8 => if x8 ≥ 0 then ((spec_sum.f k x7 x7).bind fun t267 => ((spec_bit.f x0 x8).bind fun t270 => (if t270 = 1 then ((spec_sum.f k t267 (([1] : List Int))).bind fun t274 => (spec_split.j1 k x0 x1 x6 t274 x8)) else (spec_split.j1 k x0 x1 x6 t267 x8)))) else ((spec_cut.f k x6).bind fun t264 => (some (t264, x7)))
def spec_split.j1 : Nat → List Int → List Int → List Int → List Int → Int → Option (List Int × List Int)
  | 0, _, _, _, _, _ => none
  | k + 1, x0, x1, x6, x7, x8 => (spec_order.f k x7 x1).bind fun t277 => (if t277 ≥ 0 then ((spec_less.f k x7 x1).bind fun t278 => (if 0 ≤ (wrap64 ((wrap64 ((x0.length : Int) - 1)) - (wrap64 (Int.tdiv x8 8)))) then (if (wrap64 ((wrap64 ((x0.length : Int) - 1)) - (wrap64 (Int.tdiv x8 8)))) < (x6.length : Int) then (if 0 ≤ (IntKind.u64.wrap (Int.tmod x8 8)) then (spec_split.l0 k x0 x1 (x6.set ((wrap64 ((wrap64 ((x0.length : Int) - 1)) - (wrap64 (Int.tdiv x8 8)))) : Int).toNat (Go.bits .or .u8 (rd x6 (wrap64 ((wrap64 ((x0.length : Int) - 1)) - (wrap64 (Int.tdiv x8 8))))) (shl .u8 1 (IntKind.u64.wrap (Int.tmod x8 8))))) t278 (wrap64 (x8 - 1))) else (none)) else (none)) else (none))) else (spec_split.l0 k x0 x1 x6 x7 (wrap64 (x8 - 1))))
end
def spec_split.f (k : Nat) (l0 : List Int) (l1 : List Int) : Option (List Int × List Int) := if 0 ≤ (l0.length : Int) then (if ((l0.length : Int) : Int).toNat ≤ 281474976710656 then (spec_split.l0 k l0 l1 (List.replicate ((l0.length : Int) : Int).toNat 0) (([] : List Int)) (wrap64 ((wrap64 (8 * (l0.length : Int))) - 1))) else (none)) else (none)
theorem spec_split.mono_l : ∀ k, (∀ y0 y1 y2 y3 y4, LeO (spec_split.l0 k y0 y1 y2 y3 y4) (spec_split.l0 (k + 1) y0 y1 y2 y3 y4)) ∧ (∀ y0 y1 y2 y3 y4, LeO (spec_split.j1 k y0 y1 y2 y3 y4) (spec_split.j1 (k + 1) y0 y1 y2 y3 y4))
  | 0 => ⟨fun _ _ _ _ _ r h => by simp [spec_split.l0] at h, fun _ _ _ _ _ r h => by simp [spec_split.j1] at h⟩
  | k + 1 => by
    obtain ⟨ih0, ih1⟩ := spec_split.mono_l k
    refine ⟨?_, ?_⟩
    · intro y0 y1 y2 y3 y4
      unfold spec_split.l0
      repeat' first
      | (with_reducible exact ih0 _ _ _ _ _)
      | (with_reducible exact ih1 _ _ _ _ _)
      | (with_reducible exact spec_cut.mono _ _)
      | (with_reducible exact spec_less.mono _ _ _)
      | (with_reducible exact spec_order.mono _ _ _)
      | (with_reducible exact spec_sum.mono _ _ _)
      | (with_reducible exact LeO.refl _)
      | (with_reducible exact LeO.none _)
      | (with_reducible refine LeO.ite ?_ ?_)
      | (with_reducible refine LeO.bind ?_ (fun _ => ?_))
      | exact ih0 _ _ _ _ _
      | exact ih1 _ _ _ _ _
      | exact spec_cut.mono _ _
      | exact spec_less.mono _ _ _
      | exact spec_order.mono _ _ _
      | exact spec_sum.mono _ _ _
      | exact LeO.none _
      | refine LeO.ite ?_ ?_
      | refine LeO.bind ?_ (fun _ => ?_)
    · intro y0 y1 y2 y3 y4
      unfold spec_split.j1
      repeat' first
      | (with_reducible exact ih0 _ _ _ _ _)
      | (with_reducible exact ih1 _ _ _ _ _)
      | (with_reducible exact spec_cut.mono _ _)
      | (with_reducible exact spec_less.mono _ _ _)
      | (with_reducible exact spec_order.mono _ _ _)
      | (with_reducible exact spec_sum.mono _ _ _)
      | (with_reducible exact LeO.refl _)
      | (with_reducible exact LeO.none _)
      | (with_reducible refine LeO.ite ?_ ?_)
      | (with_reducible refine LeO.bind ?_ (fun _ => ?_))
      | exact ih0 _ _ _ _ _
      | exact ih1 _ _ _ _ _
      | exact spec_cut.mono _ _
      | exact spec_less.mono _ _ _
      | exact spec_order.mono _ _ _
      | exact spec_sum.mono _ _ _
      | exact LeO.none _
      | refine LeO.ite ?_ ?_
      | refine LeO.bind ?_ (fun _ => ?_)
theorem spec_split.mono : ∀ a0 a1 k, LeO (spec_split.f k a0 a1) (spec_split.f (k + 1) a0 a1) := by
  intro a0 a1 k
  obtain ⟨ih0, ih1⟩ := spec_split.mono_l k
  unfold spec_split.f
  repeat' first
      | (with_reducible exact ih0 _ _ _ _ _)
      | (with_reducible exact ih1 _ _ _ _ _)
      | (with_reducible exact spec_cut.mono _ _)
      | (with_reducible exact spec_less.mono _ _ _)
      | (with_reducible exact spec_order.mono _ _ _)
      | (with_reducible exact spec_sum.mono _ _ _)
      | (with_reducible exact LeO.refl _)
      | (with_reducible exact LeO.none _)
      | (with_reducible refine LeO.ite ?_ ?_)
      | (with_reducible refine LeO.bind ?_ (fun _ => ?_))
      | exact ih0 _ _ _ _ _
      | exact ih1 _ _ _ _ _
      | exact spec_cut.mono _ _
      | exact spec_less.mono _ _ _
      | exact spec_order.mono _ _ _
      | exact spec_sum.mono _ _ _
      | exact LeO.none _
      | refine LeO.ite ?_ ?_
      | refine LeO.bind ?_ (fun _ => ?_)
set_option maxHeartbeats 8000000 in
set_option maxRecDepth 100000 in
theorem spec_split.calls (k : Nat) (A0 : Option Addr) (c0 : Nat) (l0 : List Int) (A1 : Option Addr) (c1 : Nat) (l1 : List Int) (r1 : List Int) (r2 : List Int) (w : World) (hr0 : Kd.C (Kd.int .u8) w A0 l0.length l0) (hc0 : l0.length ≤ c0) (hr1 : Kd.C (Kd.int .u8) w A1 l1.length l1) (hc1 : l1.length ≤ c1) (h : spec_split.f k l0 l1 = some (r1, r2)) :
    Calls Tryz.prog 104 #[.slice A0 l0.length c0, .slice A1 l1.length c1] w fun e w' => ∃ v0_ v1_ : Value, e = .returned (.tuple #[v0_, v1_]) ∧ Kd.R (Kd.int .u8) 5 w' w.heap.size (fun k_ => some k_ ≠ (v1_ : Value).ownBlock) v0_ r1 ∧ Kd.R (Kd.int .u8) 5 w' w.heap.size (fun k_ => some k_ ≠ (v0_ : Value).ownBlock) v1_ r2 ∧ Below w.heap.size w w' := by
  have HR0 := As.mk hr0
  have HC0 := As.mk hc0
  clear hr0 hc0
  have HR1 := As.mk hr1
  have HC1 := As.mk hc1
  clear hr1 hc1
  have HB := As.mk (Below.refl w.heap.size w)
  have H : (if 0 ≤ (l0.length : Int) then (if ((l0.length : Int) : Int).toNat ≤ 281474976710656 then (spec_split.l0 k l0 l1 (List.replicate ((l0.length : Int) : Int).toNat 0) (([] : List Int)) (wrap64 ((wrap64 (8 * (l0.length : Int))) - 1))) else (none)) else (none)) = some (r1, r2) := h
  clear h
  by_cases c3 : 0 ≤ (l0.length : Int)
  · rw [if_pos c3] at H
    have c3b0 := eq_true c3
    have c3b1 : decide (0 ≤ (l0.length : Int)) = true := decide_eq_true c3
    clear c3
    by_cases c4 : ((l0.length : Int) : Int).toNat ≤ 281474976710656
    · rw [if_pos c4] at H
      have c4b0 := eq_true c4
      have c4b1 : decide (((l0.length : Int) : Int).toNat ≤ 281474976710656) = true := decide_eq_true c4
      clear c4
      obtain ⟨y258, hy258⟩ : ∃ y_ : List Int, y_ = (List.replicate ((l0.length : Int) : Int).toNat 0) := ⟨_, rfl⟩
      replace H : (spec_split.l0 k l0 l1 y258 (([] : List Int)) (wrap64 ((wrap64 (8 * (l0.length : Int))) - 1))) = some (r1, r2) := by first | (rw [hy258]; with_reducible exact H) | (have H2_ := (Option.bind_some _ _).symm.trans H; rw [hy258]; with_reducible exact H2_) | (have H2_ := (Option.bind_some _ _).symm.trans H; with_reducible exact H2_) | with_reducible exact H | (rw [hy258]; exact H) | exact H
      have Ny258 := As.mk hy258
      clear hy258
      obtain ⟨y261, hy261⟩ : ∃ y_ : List Int, y_ = (([] : List Int)) := ⟨_, rfl⟩
      replace H : (spec_split.l0 k l0 l1 y258 y261 (wrap64 ((wrap64 (8 * (l0.length : Int))) - 1))) = some (r1, r2) := by first | (rw [hy261]; with_reducible exact H) | (have H2_ := (Option.bind_some _ _).symm.trans H; rw [hy261]; with_reducible exact H2_) | (have H2_ := (Option.bind_some _ _).symm.trans H; with_reducible exact H2_) | with_reducible exact H | (rw [hy261]; exact H) | exact H
      have Ny261 := As.mk hy261
      clear hy261
      have H' := As.mk H
      clear H
      go_enter Tryz.func104, Tryz.ntmps104
      go_wp2_with (first | ((with_reducible refine gate_dst (N := 11) rfl ?_); refine Kd.R_make (Kd.int .u8) _ 5 rfl (N := 11) rfl 23 _ _ rfl (l0.length : Int) rfl rfl Tryz.underlying23 (.int .u8 0) 1 info5 rfl (by decide) (by omega) 0 (ok := fun _ => True) (okp := fun _ => True) rfl (fun _ hk => hk) trivial (of_decide_eq_true (by first | (with_reducible assumption) | assumption)) (Nat.le_trans (Nat.mul_le_mul_right _ (of_decide_eq_true (by first | (with_reducible assumption) | assumption) : (l0.length : Int).toNat ≤ 281474976710656)) (by omega)) (Below.refl _ _) (Nat.le_refl _) ?_; intro v259 w5 ho6 hb hg_ hnew_; clear hg_ hnew_; (first | rw [← Ny258.out] at ho6 | (simp only [Int.reduceToNat] at ho6; rw [← Ny258.out] at ho6)); have n0_ := As.mk (Kd.R_lower ho6 (bsz (by repeat (first | (with_reducible first | exact HB.out | apply bal | apply pwn | apply bdw) | exact HB.out)))); have n1_ := As.mk (bsp (by repeat (first | (with_reducible first | exact HB.out | apply bal | apply pwn | apply bdw) | exact HB.out)) hb); clear HB; have HO260 := n0_; have HB := n1_; clear n0_ n1_; clear hb ho6) | ((with_reducible refine gate_dst (N := 12) rfl ?_); refine Kd.R_lit (Kd.int .u8) _ 5 ?hg (N := 12) ?hd (xs := ([] : List Int)) (inner := []) (ok := fun _ => True) (okp := fun _ => True) ?hr ?hp (fun _ hk => hk) trivial (Below.refl _ _) (Nat.le_refl _) (by simp) ?_; (case hd => rfl); (case hg => rfl); (case hr => first | (go_simp; done) | (go_simp; rfl)); (case hp => exact (Reps.none _ _)); intro v262 w7 ho8 hb hg_ hnew_; clear hg_ hnew_; (first | rw [← Ny261.out] at ho8 | (simp only [Int.reduceToNat] at ho8; rw [← Ny261.out] at ho8)); have n0_ := As.mk (Kd.R_elder' (by (with_reducible repeat (first | apply Kd.R_alloc | apply Kd.R_drewN | apply Kd.R_drew)); exact HO260.out) (Kd.R_base ho8) hb); have n1_ := As.mk (Kd.R_lower (Kd.R_new' ho8 (Kd.R_lt (by (with_reducible repeat (first | apply Kd.R_alloc | apply Kd.R_drewN | apply Kd.R_drew)); exact HO260.out))) (bsz (by repeat (first | (with_reducible first | exact HB.out | apply bal | apply pwn | apply bdw) | exact HB.out)))); have n2_ := As.mk (bsp (by repeat (first | (with_reducible first | exact HB.out | apply bal | apply pwn | apply bdw) | exact HB.out)) hb); clear HO260; clear HB; have HO260 := n0_; have HO263 := n1_; have HB := n2_; clear n0_ n1_ n2_; clear hb ho8))
      go_loopg [7, 8] k (fun kq v7 v8 w' => ∃ (x6_1 : List Int) (x7_1 : List Int) (x8_1 : Int), v8 = .int .i64 x8_1 ∧ As (spec_split.l0 kq l0 l1 x6_1 x7_1 x8_1 = some (r1, r2)) ∧ As (kq ≤ k) ∧ As (Kd.R (Kd.int .u8) 5 w' w.heap.size (fun k_ => some k_ ≠ (v7 : Value).ownBlock) v259 x6_1) ∧ As (Kd.R (Kd.int .u8) 5 w' w.heap.size (fun k_ => some k_ ≠ (v259 : Value).ownBlock) v7 x7_1) ∧ As (Below w.heap.size w w'))
      case atStart => exact ⟨(y258), (y261), (wrap64 ((wrap64 (8 * (l0.length : Int))) - 1)), (by first | rfl | (simp; done) | (simp [*]; done)), H', ⟨Nat.le_refl _⟩, ⟨by (with_reducible repeat (first | apply Kd.R_alloc | apply Kd.R_drewN | apply Kd.R_drew)); exact Kd.R_mono HO260.out (fun _ hk => hk.2)⟩, ⟨by (with_reducible repeat (first | apply Kd.R_alloc | apply Kd.R_drewN | apply Kd.R_drew)); exact Kd.R_mono HO263.out (fun _ hk => hk.2)⟩, ⟨by repeat (first | (with_reducible first | exact HB.out | apply bal | apply pwn | apply bdw) | exact HB.out)⟩⟩
      case round =>
        clear H'
        try clear c1
        try clear p2
        try clear c3
        try clear c3b0
        try clear c3b1
        try clear c4
        try clear c4b0
        try clear c4b1
        try clear p6
        obtain ⟨x6_1, x7_1, x8_1, rfl, HA, HK1, HO_6, HO_7, HB⟩ := hrel
        cases gk with
        | zero => exact absurd HA.out (by simp [spec_split.l0])
        | succ k1 =>
          have H := HA.out
          clear HA
          simp only [spec_split.l0] at H
          by_cases c9 : x8_1 ≥ 0
          · rw [if_pos c9] at H
            have c9b0 : decide (0 ≤ x8_1) = true := decide_eq_true c9
            clear c9
            replace H := Option.bind_eq_some_iff.mp H
            obtain ⟨t267, A100, H⟩ := H
            replace H : ((spec_bit.f l0 x8_1).bind fun t270 => (if t270 = 1 then ((spec_sum.f k1 t267 (([1] : List Int))).bind fun t274 => (spec_split.j1 k1 l0 l1 x6_1 t274 x8_1)) else (spec_split.j1 k1 l0 l1 x6_1 t267 x8_1))) = some (r1, r2) := H
            have A10 := As.mk A100
            clear A100
            replace H := Option.bind_eq_some_iff.mp H
            obtain ⟨t270, A110, H⟩ := H
            replace H : (if t270 = 1 then ((spec_sum.f k1 t267 (([1] : List Int))).bind fun t274 => (spec_split.j1 k1 l0 l1 x6_1 t274 x8_1)) else (spec_split.j1 k1 l0 l1 x6_1 t267 x8_1)) = some (r1, r2) := H
            have A11 := As.mk A110
            clear A110
            have HC12 := As.mk H
            clear H
            obtain ⟨Ao13, co13, eo13⟩ := Kd.R_slice HO_7.out
            subst eo13
            go_upto_if 27 with (first | ((with_reducible refine gate_callee (f := 60) rfl ?_); refine goesL_ (some 23) rfl rfl Tryz.func60 (by kernel_rfl) rfl #[.slice Ao13 x7_1.length co13, .slice Ao13 x7_1.length co13] rfl (by (try simp only [List.map_toArray, List.map_cons, List.map_nil]); first | done | rfl | (simp only [List.length_drop, List.length_take]; rfl)) ?_; (with_reducible refine (spec_sum.calls k1 _ _ x7_1 _ _ x7_1 t267 _ ?side1 ?side2 ?side3 ?side4 A10.out).mono ?_); (case side1 => repeat (first | exact (Kd.R_reads' HO_7.out).2.2 | (with_reducible refine Kd.C_alloc ?_ _) | (with_reducible refine Kd.C_drewN ?_ _) | (with_reducible refine Kd.C_drew ?_))); (case side2 => exact (Kd.R_reads' HO_7.out).2.1); (case side3 => repeat (first | exact (Kd.R_reads' HO_7.out).2.2 | (with_reducible refine Kd.C_alloc ?_ _) | (with_reducible refine Kd.C_drewN ?_ _) | (with_reducible refine Kd.C_drew ?_))); (case side4 => exact (Kd.R_reads' HO_7.out).2.1); rintro e w14 ⟨v268, rfl, ho0, hb⟩; refine ⟨_, rfl, ?_⟩; have n0_ := As.mk (Kd.R_elder' (by (with_reducible repeat (first | apply Kd.R_alloc | apply Kd.R_drewN | apply Kd.R_drew)); exact HO_6.out) (Kd.R_base ho0) hb); have n1_ := As.mk (Kd.R_elder' (by (with_reducible repeat (first | apply Kd.R_alloc | apply Kd.R_drewN | apply Kd.R_drew)); exact HO_7.out) (Kd.R_base ho0) hb); have n2_ := As.mk (Kd.R_lower (Kd.R_new' (Kd.R_new' ho0 (Kd.R_lt (by (with_reducible repeat (first | apply Kd.R_alloc | apply Kd.R_drewN | apply Kd.R_drew)); exact HO_6.out))) (Kd.R_lt (by (with_reducible repeat (first | apply Kd.R_alloc | apply Kd.R_drewN | apply Kd.R_drew)); exact HO_7.out))) (bsz (by repeat (first | (with_reducible first | exact HB.out | apply bal | apply pwn | apply bdw) | exact HB.out)))); have n3_ := As.mk (bsp (by repeat (first | (with_reducible first | exact HB.out | apply bal | apply pwn | apply bdw) | exact HB.out)) hb); clear HO_6; clear HO_7; clear HB; have HO_6 := n0_; have HO_7 := n1_; have HO269 := n2_; have HB := n3_; clear n0_ n1_ n2_ n3_; (try clear hb); (try clear hb2); (try clear hk); (try clear hi); (try clear ho0)) | ((with_reducible refine gate_callee (f := 65) rfl ?_); refine goesL_ (some 26) rfl rfl Tryz.func65 (by kernel_rfl) rfl #[.slice A0 l0.length c0, .int .i64 x8_1] rfl (by (try simp only [List.map_toArray, List.map_cons, List.map_nil]); first | done | rfl | (simp only [List.length_drop, List.length_take]; rfl)) ?_; (with_reducible refine (spec_bit.calls _ _ l0 x8_1 t270 _ ?side1 ?side2 A11.out).mono ?_); (case side1 => repeat (first | exact (Kd.C_below HR0.out HB.out) | (with_reducible refine Kd.C_alloc ?_ _) | (with_reducible refine Kd.C_drewN ?_ _) | (with_reducible refine Kd.C_drew ?_))); (case side2 => exact HC0.out); rintro e w' ⟨rfl, ⟨nd, rfl⟩⟩; refine ⟨_, rfl, ?_⟩))
            (try simp only [Act.put, List.setIfInBounds_toArray, List.set_cons_zero, List.set_cons_succ])
            go_cut [7] (fun v7 wc => ∃ (kq : Nat) (x7_11 : List Int), As (spec_split.j1 kq l0 l1 x6_1 x7_11 x8_1 = some (r1, r2)) ∧ As (kq ≤ k1) ∧ As (Kd.R (Kd.int .u8) 5 wc w.heap.size (fun k_ => some k_ ≠ (v7 : Value).ownBlock) v259 x6_1) ∧ As (Kd.R (Kd.int .u8) 5 wc w.heap.size (fun k_ => some k_ ≠ (v259 : Value).ownBlock) v7 x7_11) ∧ As (Below w.heap.size w wc))
            case first =>
              have H := HC12.out
              clear HC12
              by_cases c15 : t270 = 1
              · rw [if_pos c15] at H
                have c15b0 : (t270 == 1) = true := beq_iff_eq.mpr c15
                have c15b1 : (t270 != 1) = false := bne_eq_false_iff_eq.mpr c15
                clear c15
                (first | rw [c15b0] | (simp only [i64_w, i32_w]; rw [c15b0]) | skip)
                obtain ⟨y271, hy271⟩ : ∃ y_ : List Int, y_ = (([1] : List Int)) := ⟨_, rfl⟩
                replace H : ((spec_sum.f k1 t267 y271).bind fun t274 => (spec_split.j1 k1 l0 l1 x6_1 t274 x8_1)) = some (r1, r2) := by first | (rw [hy271]; with_reducible exact H) | (have H2_ := (Option.bind_some _ _).symm.trans H; rw [hy271]; with_reducible exact H2_) | (have H2_ := (Option.bind_some _ _).symm.trans H; with_reducible exact H2_) | with_reducible exact H | (rw [hy271]; exact H) | exact H
                have Ny271 := As.mk hy271
                clear hy271
                replace H := Option.bind_eq_some_iff.mp H
                obtain ⟨t274, A160, H⟩ := H
                replace H : (spec_split.j1 k1 l0 l1 x6_1 t274 x8_1) = some (r1, r2) := H
                have A16 := As.mk A160
                clear A160
                have H' := As.mk H
                clear H
                go_wp2_with (first | ((with_reducible refine gate_dst (N := 29) rfl ?_); refine Kd.R_lit (Kd.int .u8) _ 5 ?hg (N := 29) ?hd (xs := ([1] : List Int)) (inner := [.int .u8 1]) (ok := fun _ => True) (okp := fun _ => True) ?hr ?hp (fun _ hk => hk) trivial (Below.refl _ _) (Nat.le_refl _) (by simp) ?_; (case hd => rfl); (case hg => rfl); (case hr => first | (go_simp; done) | (go_simp; rfl)); (case hp => exact (Reps.one (show Kd.M (Kd.int .u8) _ _ _ 1 [.int .u8 1] from rfl) (Reps.none _ _))); intro v272 w17 ho18 hb hg_ hnew_; clear hg_ hnew_; (first | rw [← Ny271.out] at ho18 | (simp only [Int.reduceToNat] at ho18; rw [← Ny271.out] at ho18)); have n0_ := As.mk (Kd.R_elder' (by (with_reducible repeat (first | apply Kd.R_alloc | apply Kd.R_drewN | apply Kd.R_drew)); exact HO_6.out) (Kd.R_base ho18) hb); have n1_ := As.mk (Kd.R_elder' (by (with_reducible repeat (first | apply Kd.R_alloc | apply Kd.R_drewN | apply Kd.R_drew)); exact HO_7.out) (Kd.R_base ho18) hb); have n2_ := As.mk (Kd.R_elder' (by (with_reducible repeat (first | apply Kd.R_alloc | apply Kd.R_drewN | apply Kd.R_drew)); exact HO269.out) (Kd.R_base ho18) hb); have n3_ := As.mk (Kd.R_lower (Kd.R_new' (Kd.R_new' (Kd.R_new' ho18 (Kd.R_lt (by (with_reducible repeat (first | apply Kd.R_alloc | apply Kd.R_drewN | apply Kd.R_drew)); exact HO_6.out))) (Kd.R_lt (by (with_reducible repeat (first | apply Kd.R_alloc | apply Kd.R_drewN | apply Kd.R_drew)); exact HO_7.out))) (Kd.R_lt (by (with_reducible repeat (first | apply Kd.R_alloc | apply Kd.R_drewN | apply Kd.R_drew)); exact HO269.out))) (bsz (by repeat (first | (with_reducible first | exact HB.out | apply bal | apply pwn | apply bdw) | exact HB.out)))); have n4_ := As.mk (bsp (by repeat (first | (with_reducible first | exact HB.out | apply bal | apply pwn | apply bdw) | exact HB.out)) hb); clear HO_6; clear HO_7; clear HO269; clear HB; have HO_6 := n0_; have HO_7 := n1_; have HO269 := n2_; have HO273 := n3_; have HB := n4_; clear n0_ n1_ n2_ n3_ n4_; clear hb ho18; obtain ⟨Ao19, co19, eo19⟩ := Kd.R_slice HO269.out; subst eo19; obtain ⟨Ao20, co20, eo20⟩ := Kd.R_slice HO273.out; subst eo20) | ((with_reducible refine gate_callee (f := 60) rfl ?_); refine goesL_ (some 30) rfl rfl Tryz.func60 (by kernel_rfl) rfl #[.slice Ao19 t267.length co19, .slice Ao20 y271.length co20] rfl (by (try simp only [List.map_toArray, List.map_cons, List.map_nil]); first | done | rfl | (simp only [List.length_drop, List.length_take]; rfl)) ?_; (with_reducible refine (spec_sum.calls k1 _ _ t267 _ _ y271 t274 _ ?side1 ?side2 ?side3 ?side4 A16.out).mono ?_); (case side1 => repeat (first | exact (Kd.R_reads' HO269.out).2.2 | (with_reducible refine Kd.C_alloc ?_ _) | (with_reducible refine Kd.C_drewN ?_ _) | (with_reducible refine Kd.C_drew ?_))); (case side2 => exact (Kd.R_reads' HO269.out).2.1); (case side3 => repeat (first | exact (Kd.R_reads' HO273.out).2.2 | (with_reducible refine Kd.C_alloc ?_ _) | (with_reducible refine Kd.C_drewN ?_ _) | (with_reducible refine Kd.C_drew ?_))); (case side4 => exact (Kd.R_reads' HO273.out).2.1); rintro e w21 ⟨v275, rfl, ho0, hb⟩; refine ⟨_, rfl, ?_⟩; have n0_ := As.mk (Kd.R_elder' (by (with_reducible repeat (first | apply Kd.R_alloc | apply Kd.R_drewN | apply Kd.R_drew)); exact HO_6.out) (Kd.R_base ho0) hb); have n1_ := As.mk (Kd.R_elder' (by (with_reducible repeat (first | apply Kd.R_alloc | apply Kd.R_drewN | apply Kd.R_drew)); exact HO_7.out) (Kd.R_base ho0) hb); have n2_ := As.mk (Kd.R_elder' (by (with_reducible repeat (first | apply Kd.R_alloc | apply Kd.R_drewN | apply Kd.R_drew)); exact HO269.out) (Kd.R_base ho0) hb); have n3_ := As.mk (Kd.R_elder' (by (with_reducible repeat (first | apply Kd.R_alloc | apply Kd.R_drewN | apply Kd.R_drew)); exact HO273.out) (Kd.R_base ho0) hb); have n4_ := As.mk (Kd.R_lower (Kd.R_new' (Kd.R_new' (Kd.R_new' (Kd.R_new' ho0 (Kd.R_lt (by (with_reducible repeat (first | apply Kd.R_alloc | apply Kd.R_drewN | apply Kd.R_drew)); exact HO_6.out))) (Kd.R_lt (by (with_reducible repeat (first | apply Kd.R_alloc | apply Kd.R_drewN | apply Kd.R_drew)); exact HO_7.out))) (Kd.R_lt (by (with_reducible repeat (first | apply Kd.R_alloc | apply Kd.R_drewN | apply Kd.R_drew)); exact HO269.out))) (Kd.R_lt (by (with_reducible repeat (first | apply Kd.R_alloc | apply Kd.R_drewN | apply Kd.R_drew)); exact HO273.out))) (bsz (by repeat (first | (with_reducible first | exact HB.out | apply bal | apply pwn | apply bdw) | exact HB.out)))); have n5_ := As.mk (bsp (by repeat (first | (with_reducible first | exact HB.out | apply bal | apply pwn | apply bdw) | exact HB.out)) hb); clear HO_6; clear HO_7; clear HO269; clear HO273; clear HB; have HO_6 := n0_; have HO_7 := n1_; have HO269 := n2_; have HO273 := n3_; have HO276 := n4_; have HB := n5_; clear n0_ n1_ n2_ n3_ n4_ n5_; (try clear hb); (try clear hb2); (try clear hk); (try clear hi); (try clear ho0)))
                go_meet
                case rel => exact ⟨_, (t274), H', ⟨by have := HK1.out; first | omega | exact Nat.le_refl _⟩, ⟨by (with_reducible repeat (first | apply Kd.R_alloc | apply Kd.R_drewN | apply Kd.R_drew)); exact Kd.R_mono HO_6.out (fun _ hk => hk.2)⟩, ⟨by (with_reducible repeat (first | apply Kd.R_alloc | apply Kd.R_drewN | apply Kd.R_drew)); exact Kd.R_mono HO276.out (fun _ hk => hk.1.1.1.2)⟩, ⟨by repeat (first | (with_reducible first | exact HB.out | apply bal | apply pwn | apply bdw) | exact HB.out)⟩⟩
              · rw [if_neg c15] at H
                have c15b0 : (t270 == 1) = false := beq_eq_false_iff_ne.mpr c15
                have c15b1 : (t270 != 1) = true := bne_iff_ne.mpr c15
                (first | rw [c15b0] | (simp only [i64_w, i32_w]; rw [c15b0]) | skip)
                have H' := As.mk H
                clear H
                go_wp2
                go_meet
                case rel => exact ⟨_, (t267), H', ⟨by have := HK1.out; first | omega | exact Nat.le_refl _⟩, ⟨by (with_reducible repeat (first | apply Kd.R_alloc | apply Kd.R_drewN | apply Kd.R_drew)); exact Kd.R_mono HO_6.out (fun _ hk => hk.2)⟩, ⟨by (with_reducible repeat (first | apply Kd.R_alloc | apply Kd.R_drewN | apply Kd.R_drew)); exact Kd.R_mono HO269.out (fun _ hk => hk.1.2)⟩, ⟨by repeat (first | (with_reducible first | exact HB.out | apply bal | apply pwn | apply bdw) | exact HB.out)⟩⟩
            case rest =>
              clear HC12
              try clear c1
              try clear p2
              try clear c3
              try clear c3b0
              try clear c3b1
              try clear c4
              try clear c4b0
              try clear c4b1
              try clear c6
              try clear p6
              try clear c9
              try clear c9b0
              try clear c10
              try clear c15
              try clear c15b0
              try clear c15b1
              try clear p2
              try clear p6
              obtain ⟨kq, x7_11, HA, HJ11, HO_6, HO_7, HB⟩ := hcut
              cases kq with
              | zero => exact absurd HA.out (by simp [spec_split.j1])
              | succ kj11 =>
                have H := HA.out
                clear HA
                simp only [spec_split.j1] at H
                replace H := Option.bind_eq_some_iff.mp H
                obtain ⟨t277, A220, H⟩ := H
                replace H : (if t277 ≥ 0 then ((spec_less.f kj11 x7_11 l1).bind fun t278 => (if 0 ≤ (wrap64 ((wrap64 ((l0.length : Int) - 1)) - (wrap64 (Int.tdiv x8_1 8)))) then (if (wrap64 ((wrap64 ((l0.length : Int) - 1)) - (wrap64 (Int.tdiv x8_1 8)))) < (x6_1.length : Int) then (if 0 ≤ (IntKind.u64.wrap (Int.tmod x8_1 8)) then (spec_split.l0 kj11 l0 l1 (x6_1.set ((wrap64 ((wrap64 ((l0.length : Int) - 1)) - (wrap64 (Int.tdiv x8_1 8)))) : Int).toNat (Go.bits .or .u8 (rd x6_1 (wrap64 ((wrap64 ((l0.length : Int) - 1)) - (wrap64 (Int.tdiv x8_1 8))))) (shl .u8 1 (IntKind.u64.wrap (Int.tmod x8_1 8))))) t278 (wrap64 (x8_1 - 1))) else (none)) else (none)) else (none))) else (spec_split.l0 kj11 l0 l1 x6_1 x7_11 (wrap64 (x8_1 - 1)))) = some (r1, r2) := H
                have A22 := As.mk A220
                clear A220
                by_cases c23 : t277 ≥ 0
                · rw [if_pos c23] at H
                  have c23b0 : decide (0 ≤ t277) = true := decide_eq_true c23
                  clear c23
                  replace H := Option.bind_eq_some_iff.mp H
                  obtain ⟨t278, A240, H⟩ := H
                  replace H : (if 0 ≤ (wrap64 ((wrap64 ((l0.length : Int) - 1)) - (wrap64 (Int.tdiv x8_1 8)))) then (if (wrap64 ((wrap64 ((l0.length : Int) - 1)) - (wrap64 (Int.tdiv x8_1 8)))) < (x6_1.length : Int) then (if 0 ≤ (IntKind.u64.wrap (Int.tmod x8_1 8)) then (spec_split.l0 kj11 l0 l1 (x6_1.set ((wrap64 ((wrap64 ((l0.length : Int) - 1)) - (wrap64 (Int.tdiv x8_1 8)))) : Int).toNat (Go.bits .or .u8 (rd x6_1 (wrap64 ((wrap64 ((l0.length : Int) - 1)) - (wrap64 (Int.tdiv x8_1 8))))) (shl .u8 1 (IntKind.u64.wrap (Int.tmod x8_1 8))))) t278 (wrap64 (x8_1 - 1))) else (none)) else (none)) else (none)) = some (r1, r2) := H
                  have A24 := As.mk A240
                  clear A240
                  obtain ⟨ji25, hji25⟩ : ∃ j_ : Int, (wrap64 ((wrap64 ((l0.length : Int) - 1)) - (wrap64 (Int.tdiv x8_1 8)))) = j_ := ⟨_, rfl⟩
                  replace H : (if 0 ≤ (ji25) then (if (ji25) < (x6_1.length : Int) then (if 0 ≤ (IntKind.u64.wrap (Int.tmod x8_1 8)) then (spec_split.l0 kj11 l0 l1 (x6_1.set ((ji25) : Int).toNat (Go.bits .or .u8 (rd x6_1 (ji25)) (shl .u8 1 (IntKind.u64.wrap (Int.tmod x8_1 8))))) t278 (wrap64 (x8_1 - 1))) else (none)) else (none)) else (none)) = some (r1, r2) := by first | (rw [hji25] at H; exact H) | (simp only [hji25] at H ⊢; exact H)
                  (try rw [hji25] at A22)
                  (try rw [hji25] at A24)
                  have hji25w : (IntKind.i64.wrap ((wrap64 ((l0.length : Int) - 1)) - (wrap64 (Int.tdiv x8_1 8)))) = ji25 := (i64_w _).trans hji25
                  by_cases c26 : 0 ≤ (ji25)
                  · rw [if_pos c26] at H
                    have c26b0 : decide (0 ≤ (ji25)) = true := decide_eq_true c26
                    clear c26
                    by_cases c27 : (ji25) < (x6_1.length : Int)
                    · rw [if_pos c27] at H
                      have c27b0 : decide ((ji25) < (x6_1.length : Int)) = true := decide_eq_true c27
                      clear c27
                      obtain ⟨ji28, hji28⟩ : ∃ j_ : Int, (IntKind.u64.wrap (Int.tmod x8_1 8)) = j_ := ⟨_, rfl⟩
                      replace H : (if 0 ≤ (ji28) then (spec_split.l0 kj11 l0 l1 (x6_1.set ((ji25) : Int).toNat (Go.bits .or .u8 (rd x6_1 (ji25)) (shl .u8 1 (ji28)))) t278 (wrap64 (x8_1 - 1))) else (none)) = some (r1, r2) := by first | (rw [hji28] at H; exact H) | (simp only [hji28] at H ⊢; exact H)
                      (try rw [hji28] at A22)
                      (try rw [hji28] at A24)
                      by_cases c29 : 0 ≤ (ji28)
                      · rw [if_pos c29] at H
                        have c29b0 := eq_true c29
                        have c29b1 : decide (0 ≤ (ji28)) = true := decide_eq_true c29
                        clear c29
                        obtain ⟨ji30, hji30⟩ : ∃ j_ : Int, (shl .u8 1 (ji28)) = j_ := ⟨_, rfl⟩
                        replace H : (spec_split.l0 kj11 l0 l1 (x6_1.set ((ji25) : Int).toNat (Go.bits .or .u8 (rd x6_1 (ji25)) (ji30))) t278 (wrap64 (x8_1 - 1))) = some (r1, r2) := by first | (rw [hji30] at H; exact H) | (simp only [hji30] at H ⊢; exact H)
                        (try rw [hji30] at A22)
                        (try rw [hji30] at A24)
                        have hji30_ : (IntKind.u8.wrap (1 * 2 ^ min (ji28).toNat 8)) = ji30 := hji30
                        have hji30z : (ji28) ≤ 8 → (IntKind.u8.wrap (1 * 2 ^ (ji28).toNat)) = ji30 := shl_small hji30
                        have hji30u : (IntKind.u8.wrap (2 ^ min (ji28).toNat 8)) = ji30 := by have h_ := hji30_; rw [Int.one_mul] at h_; exact h_
                        have hji30v : (ji28) ≤ 8 → (IntKind.u8.wrap (2 ^ (ji28).toNat)) = ji30 := fun hle_ => by have h_ := hji30z hle_; rw [Int.one_mul] at h_; exact h_
                        obtain ⟨y282, hy282⟩ : ∃ y_ : List Int, y_ = (x6_1.set ((ji25) : Int).toNat (Go.bits .or .u8 (rd x6_1 (ji25)) (ji30))) := ⟨_, rfl⟩
                        replace H : (spec_split.l0 kj11 l0 l1 y282 t278 (wrap64 (x8_1 - 1))) = some (r1, r2) := by first | (rw [hy282]; with_reducible exact H) | (have H2_ := (Option.bind_some _ _).symm.trans H; rw [hy282]; with_reducible exact H2_) | (have H2_ := (Option.bind_some _ _).symm.trans H; with_reducible exact H2_) | with_reducible exact H | (rw [hy282]; exact H) | exact H
                        have Ny282 := As.mk hy282
                        clear hy282
                        have H' := As.mk H
                        clear H
                        obtain ⟨Ao32, co32, eo32⟩ := Kd.R_slice HO_7.out
                        subst eo32
                        go_wp2_with (first | ((with_reducible refine gate_callee (f := 52) rfl ?_); refine goesL_ (some 33) rfl rfl Tryz.func52 (by kernel_rfl) rfl #[.slice Ao32 x7_11.length co32, .slice A1 l1.length c1] rfl (by (try simp only [List.map_toArray, List.map_cons, List.map_nil]); first | done | rfl | (simp only [List.length_drop, List.length_take]; rfl)) ?_; (with_reducible refine (spec_order.calls kj11 _ _ x7_11 _ _ l1 t277 _ ?side1 ?side2 ?side3 ?side4 A22.out).mono ?_); (case side1 => repeat (first | exact (Kd.R_reads' HO_7.out).2.2 | (with_reducible refine Kd.C_alloc ?_ _) | (with_reducible refine Kd.C_drewN ?_ _) | (with_reducible refine Kd.C_drew ?_))); (case side2 => exact (Kd.R_reads' HO_7.out).2.1); (case side3 => repeat (first | exact (Kd.C_below HR1.out HB.out) | (with_reducible refine Kd.C_alloc ?_ _) | (with_reducible refine Kd.C_drewN ?_ _) | (with_reducible refine Kd.C_drew ?_))); (case side4 => exact HC1.out); rintro e w' ⟨rfl, ⟨nd, rfl⟩⟩; refine ⟨_, rfl, ?_⟩; (try (rw [drewN_self wc]; generalize hq_ : World.drewN wc _ = wc; have n0_ : As (Kd.R (Kd.int .u8) 5 wc w.heap.size (fun k_ => some k_ ≠ (.slice Ao32 x7_11.length co32 : Value).ownBlock) v259 x6_1) := ⟨by rw [← hq_]; exact (by (with_reducible repeat (first | apply Kd.R_alloc | apply Kd.R_drewN | apply Kd.R_drew)); exact HO_6.out)⟩; have n1_ : As (Kd.R (Kd.int .u8) 5 wc w.heap.size (fun k_ => some k_ ≠ (v259 : Value).ownBlock) (.slice Ao32 x7_11.length co32) x7_11) := ⟨by rw [← hq_]; exact (by (with_reducible repeat (first | apply Kd.R_alloc | apply Kd.R_drewN | apply Kd.R_drew)); exact HO_7.out)⟩; have n2_ : As (Below w.heap.size w wc) := ⟨by rw [← hq_]; exact (by repeat (first | (with_reducible first | exact HB.out | apply bal | apply pwn | apply bdw) | exact HB.out))⟩; clear HO_6 HO_7 HB hq_; have HO_6 := n0_; have HO_7 := n1_; have HB := n2_; clear n0_ n1_ n2_))) | ((with_reducible refine gate_callee (f := 61) rfl ?_); refine goesL_ (some 37) rfl rfl Tryz.func61 (by kernel_rfl) rfl #[.slice Ao32 x7_11.length co32, .slice A1 l1.length c1] rfl (by (try simp only [List.map_toArray, List.map_cons, List.map_nil]); first | done | rfl | (simp only [List.length_drop, List.length_take]; rfl)) ?_; (with_reducible refine (spec_less.calls kj11 _ _ x7_11 _ _ l1 t278 _ ?side1 ?side2 ?side3 ?side4 A24.out).mono ?_); (case side1 => repeat (first | exact (Kd.R_reads' HO_7.out).2.2 | (with_reducible refine Kd.C_alloc ?_ _) | (with_reducible refine Kd.C_drewN ?_ _) | (with_reducible refine Kd.C_drew ?_))); (case side2 => exact (Kd.R_reads' HO_7.out).2.1); (case side3 => repeat (first | exact (Kd.C_below HR1.out HB.out) | (with_reducible refine Kd.C_alloc ?_ _) | (with_reducible refine Kd.C_drewN ?_ _) | (with_reducible refine Kd.C_drew ?_))); (case side4 => exact HC1.out); rintro e w33 ⟨v279, rfl, ho0, hb⟩; refine ⟨_, rfl, ?_⟩; have n0_ := As.mk (Kd.R_elder' (by (with_reducible repeat (first | apply Kd.R_alloc | apply Kd.R_drewN | apply Kd.R_drew)); exact HO_6.out) (Kd.R_base ho0) hb); have n1_ := As.mk (Kd.R_elder' (by (with_reducible repeat (first | apply Kd.R_alloc | apply Kd.R_drewN | apply Kd.R_drew)); exact HO_7.out) (Kd.R_base ho0) hb); have n2_ := As.mk (Kd.R_lower (Kd.R_new' (Kd.R_new' ho0 (Kd.R_lt (by (with_reducible repeat (first | apply Kd.R_alloc | apply Kd.R_drewN | apply Kd.R_drew)); exact HO_6.out))) (Kd.R_lt (by (with_reducible repeat (first | apply Kd.R_alloc | apply Kd.R_drewN | apply Kd.R_drew)); exact HO_7.out))) (bsz (by repeat (first | (with_reducible first | exact HB.out | apply bal | apply pwn | apply bdw) | exact HB.out)))); have n3_ := As.mk (bsp (by repeat (first | (with_reducible first | exact HB.out | apply bal | apply pwn | apply bdw) | exact HB.out)) hb); clear HO_6; clear HO_7; clear HB; have HO_6 := n0_; have HO_7 := n1_; have HO280 := n2_; have HB := n3_; clear n0_ n1_ n2_ n3_; (try clear hb); (try clear hb2); (try clear hk); (try clear hi); (try clear ho0); obtain ⟨Ao34, co34, eo34⟩ := Kd.R_slice HO_6.out; subst eo34; have p281 : 0 ≤ ((ji25) : Int) := of_decide_eq_true (by first | (with_reducible assumption) | assumption); have q281 : (ji25) < (x6_1.length : Int) := of_decide_eq_true (by first | (with_reducible assumption) | assumption); obtain ⟨ad281, e281, hx281_0⟩ := Kd.at_int (Kd.R_reads' HO_6.out).2.2 (ji25) p281 q281; cases e281; replace p281 := eq_true p281; replace q281 := eq_true q281; have p31 : 0 ≤ ((ji25) : Int) := of_decide_eq_true (by first | (with_reducible assumption) | assumption); have q31 : ((ji25) : Int) < ((x6_1.length : Int) : Int) := of_decide_eq_true (by first | (with_reducible assumption) | assumption); obtain ⟨go31, co31, eo31, gb31, gl31, cl31, HG31⟩ := Kd.R_form HO_6.out (by omega); (first | cases eo31 | (injection eo31 with ea_ en_ ec_; (first | subst ea_ | (injection ea_ with ea_; subst ea_)); subst ec_; clear en_)); have GB31 := As.mk gb31; have GG31 := As.mk HG31; clear gb31 gl31 HG31; (first | simp only [add_plain] at hx281_0 | skip); obtain ⟨hx31_0, hf31_0⟩ := Kd.R_celln 0 HO_6.out ((ji25) : Int) p31 q31; replace p31 := eq_true p31; replace q31 := eq_true q31; obtain ⟨hy35_, hz35_⟩ := Kd.R_celln 0 HO_6.out ((ji25) : Int) (of_decide_eq_true (by first | (with_reducible assumption) | assumption)) (of_decide_eq_true (by first | (with_reducible assumption) | assumption)); have HP35 := Kd.R_putg HO_6.out ((ji25) : Int) (Go.bits .or .u8 (rd x6_1 (ji25)) (ji30))) | ((with_reducible refine gate_store (t := 5) (p := 52) rfl ?_); refine store_event (t := 5) (p := 52) (v := ?vo_w36) (w1 := (w33.setCell ⟨go31, ((ji25) : Int).toNat, none⟩ (.int .u8 (Go.bits .or .u8 (rd x6_1 (ji25)) (ji30))))) ?hg ?ho ?hn ?hr ?_; (case ho => rfl); (case hg => rfl); (case hn => rfl); (case hr => first | (go_simp; done) | (go_simp; rfl)); intro w36 hw; have hg : w33.grownBy w36 (some go31) := (by rw [hw]; exact HP35.2); have hp_ : Kd.R (Kd.int .u8) 5 w36 w.heap.size (fun k_ => some k_ ≠ (.slice Ao32 x7_11.length co32 : Value).ownBlock ∧ some k_ ≠ (v279 : Value).ownBlock) (.slice (some ⟨go31, 0, none⟩) x6_1.length co34) y282 := (by rw [hw, Ny282.out]; exact HP35.1); clear HP35; have n0_ := As.mk (hp_); have n1_ := As.mk (Kd.R_after (v := (.slice (some ⟨go31, 0, none⟩) x6_1.length co34)) (v1 := (.slice (some ⟨go31, 0, none⟩) x6_1.length co34)) (ok := (fun k_ => some k_ ≠ (v279 : Value).ownBlock)) (by (with_reducible repeat (first | apply Kd.R_alloc | apply Kd.R_drewN | apply Kd.R_drew)); exact Kd.R_mono HO_7.out (fun _ hk => ⟨hk.2, hk.1⟩)) hg (.inl rfl)); have n2_ := As.mk (Kd.R_after (v := (.slice (some ⟨go31, 0, none⟩) x6_1.length co34)) (v1 := (.slice (some ⟨go31, 0, none⟩) x6_1.length co34)) (ok := (fun k_ => some k_ ≠ (.slice Ao32 x7_11.length co32 : Value).ownBlock)) (by (with_reducible repeat (first | apply Kd.R_alloc | apply Kd.R_drewN | apply Kd.R_drew)); exact Kd.R_mono HO280.out (fun _ hk => ⟨hk.2, hk.1.2⟩)) hg (.inl rfl)); have n3_ := As.mk ((by rw [hw]; exact bst (HB.out) GB31.out : Below w.heap.size w w36)); clear HO_6; clear HO_7; clear HO280; clear HB; have HO_6 := n0_; have HO_7 := n1_; have HO280 := n2_; have HB := n3_; clear n0_ n1_ n2_ n3_; clear hg hw hp_))
                        go_roundg kj11
                        case measure => have := HK1.out; have := HJ11.out; omega
                        case rel => exact ⟨(y282), (t278), (wrap64 (x8_1 - 1)), (by first | rfl | (simp; done) | (simp [*]; done)), H', ⟨by have := HK1.out; have := HJ11.out; omega⟩, ⟨by (with_reducible repeat (first | apply Kd.R_alloc | apply Kd.R_drewN | apply Kd.R_drew)); exact Kd.R_mono HO_6.out (fun _ hk => hk.2)⟩, ⟨by (with_reducible repeat (first | apply Kd.R_alloc | apply Kd.R_drewN | apply Kd.R_drew)); exact Kd.R_mono HO280.out (fun _ hk => hk.2)⟩, ⟨by repeat (first | (with_reducible first | exact HB.out | apply bal | apply pwn | apply bdw) | exact HB.out)⟩⟩
                      · rw [if_neg c29] at H
                        exact absurd H (by simp)
                    · rw [if_neg c27] at H
                      exact absurd H (by simp)
                  · rw [if_neg c26] at H
                    exact absurd H (by simp)
                · rw [if_neg c23] at H
                  have c23b0 : decide (0 ≤ t277) = false := decide_eq_false c23
                  clear c23
                  have H' := As.mk H
                  clear H
                  obtain ⟨Ao37, co37, eo37⟩ := Kd.R_slice HO_7.out
                  subst eo37
                  go_wp2_with (first | ((with_reducible refine gate_callee (f := 52) rfl ?_); refine goesL_ (some 33) rfl rfl Tryz.func52 (by kernel_rfl) rfl #[.slice Ao37 x7_11.length co37, .slice A1 l1.length c1] rfl (by (try simp only [List.map_toArray, List.map_cons, List.map_nil]); first | done | rfl | (simp only [List.length_drop, List.length_take]; rfl)) ?_; (with_reducible refine (spec_order.calls kj11 _ _ x7_11 _ _ l1 t277 _ ?side1 ?side2 ?side3 ?side4 A22.out).mono ?_); (case side1 => repeat (first | exact (Kd.R_reads' HO_7.out).2.2 | (with_reducible refine Kd.C_alloc ?_ _) | (with_reducible refine Kd.C_drewN ?_ _) | (with_reducible refine Kd.C_drew ?_))); (case side2 => exact (Kd.R_reads' HO_7.out).2.1); (case side3 => repeat (first | exact (Kd.C_below HR1.out HB.out) | (with_reducible refine Kd.C_alloc ?_ _) | (with_reducible refine Kd.C_drewN ?_ _) | (with_reducible refine Kd.C_drew ?_))); (case side4 => exact HC1.out); rintro e w' ⟨rfl, ⟨nd, rfl⟩⟩; refine ⟨_, rfl, ?_⟩))
                  go_roundg kj11
                  case measure => have := HK1.out; have := HJ11.out; omega
                  case rel => exact ⟨(x6_1), (x7_11), (wrap64 (x8_1 - 1)), (by first | rfl | (simp; done) | (simp [*]; done)), H', ⟨by have := HK1.out; have := HJ11.out; omega⟩, ⟨by (with_reducible repeat (first | apply Kd.R_alloc | apply Kd.R_drewN | apply Kd.R_drew)); exact HO_6.out⟩, ⟨by (with_reducible repeat (first | apply Kd.R_alloc | apply Kd.R_drewN | apply Kd.R_drew)); exact HO_7.out⟩, ⟨by repeat (first | (with_reducible first | exact HB.out | apply bal | apply pwn | apply bdw) | exact HB.out)⟩⟩
          · rw [if_neg c9] at H
            have c9b0 : decide (0 ≤ x8_1) = false := decide_eq_false c9
            clear c9
            replace H := Option.bind_eq_some_iff.mp H
            obtain ⟨t264, A380, H⟩ := H
            replace H : (some (t264, x7_1)) = some (r1, r2) := H
            have A38 := As.mk A380
            clear A380
            simp only [Option.some.injEq, Prod.mk.injEq] at H
            obtain ⟨rfl, rfl⟩ := H
            obtain ⟨Ao39, co39, eo39⟩ := Kd.R_slice HO_6.out
            subst eo39
            go_wp2_with (first | ((with_reducible refine gate_callee (f := 15) rfl ?_); refine goesL_ (some 54) rfl rfl Tryz.func15 (by kernel_rfl) rfl #[.slice Ao39 x6_1.length co39] rfl (by (try simp only [List.map_toArray, List.map_cons, List.map_nil]); first | done | rfl | (simp only [List.length_drop, List.length_take]; rfl)) ?_; (with_reducible refine (spec_cut.calls k1 _ _ x6_1 t264 _ ?side1 ?side2 A38.out).mono ?_); (case side1 => repeat (first | exact (Kd.R_reads' HO_6.out).2.2 | (with_reducible refine Kd.C_alloc ?_ _) | (with_reducible refine Kd.C_drewN ?_ _) | (with_reducible refine Kd.C_drew ?_))); (case side2 => exact (Kd.R_reads' HO_6.out).2.1); rintro e w40 ⟨v265, rfl, ho0, hb⟩; refine ⟨_, rfl, ?_⟩; have n0_ := As.mk (Kd.R_elder' (by (with_reducible repeat (first | apply Kd.R_alloc | apply Kd.R_drewN | apply Kd.R_drew)); exact HO_6.out) (Kd.R_base ho0) hb); have n1_ := As.mk (Kd.R_elder' (by (with_reducible repeat (first | apply Kd.R_alloc | apply Kd.R_drewN | apply Kd.R_drew)); exact HO_7.out) (Kd.R_base ho0) hb); have n2_ := As.mk (Kd.R_lower (Kd.R_new' (Kd.R_new' ho0 (Kd.R_lt (by (with_reducible repeat (first | apply Kd.R_alloc | apply Kd.R_drewN | apply Kd.R_drew)); exact HO_6.out))) (Kd.R_lt (by (with_reducible repeat (first | apply Kd.R_alloc | apply Kd.R_drewN | apply Kd.R_drew)); exact HO_7.out))) (bsz (by repeat (first | (with_reducible first | exact HB.out | apply bal | apply pwn | apply bdw) | exact HB.out)))); have n3_ := As.mk (bsp (by repeat (first | (with_reducible first | exact HB.out | apply bal | apply pwn | apply bdw) | exact HB.out)) hb); clear HO_6; clear HO_7; clear HB; have HO_6 := n0_; have HO_7 := n1_; have HO266 := n2_; have HB := n3_; clear n0_ n1_ n2_ n3_; (try clear hb); (try clear hb2); (try clear hk); (try clear hi); (try clear ho0)))
            go_ret2
            exact ⟨_, _, by first | rfl | (simp [errW_none, errW_some] <;> rfl) | (simp [*, errW_none, errW_some] <;> rfl), by (with_reducible repeat (first | apply Kd.R_alloc | apply Kd.R_drewN | apply Kd.R_drew)); exact Kd.R_mono HO266.out (fun _ hk => hk.2), by (with_reducible repeat (first | apply Kd.R_alloc | apply Kd.R_drewN | apply Kd.R_drew)); exact Kd.R_mono HO_7.out (fun _ hk => hk.2), by repeat (first | (with_reducible first | exact HB.out | apply bal | apply pwn | apply bdw) | exact HB.out)⟩
    · rw [if_neg c4] at H
      exact absurd H (by simp)
  · rw [if_neg c3] at H
    exact absurd H (by simp)
end Go.Proofs.YtldejfallphhbaaGreatDoor.PNearest
namespace Go.Proofs.YtldejfallphhbaaGreatDoor.PNearest
open Go.RowKit Go.Proofs.YtldejfallphhbaaGreatDoorW.PrintWords Go.Proofs.YtldejfallphhbaaGreatDoorW.PrintLast Go.Proofs.YtldejfallphhbaaGreatDoorW.PrintMore
attribute [local go_sem] max2_int min2_int max_two min_two max_three min_three max_four min_four
set_option linter.unusedVariables false
set_option linter.unusedSimpArgs false
def spec_Int_Floor.f (k : Nat) (a0_0 : Bool) (l0_1 : List Int) (a1_0 : Bool) (l1_1 : List Int) : Option (Bool × List Int × Bool × List Int) := (spec_split.f k l0_1 l1_1).bind fun bt287 => (if (a0_0 == a1_0) = true then ((spec_Of.f k false bt287.1).bind fun bt293 => ((spec_Of.f k a1_0 bt287.2).bind fun bt297 => (some (bt293.1, bt293.2, bt297.1, bt297.2)))) else (if (bt287.2.length : Int) = 0 then ((spec_Of.f k true bt287.1).bind fun bt301 => (some (bt301.1, bt301.2, false, ([] : List Int)))) else ((spec_sum.f k bt287.1 (([1] : List Int))).bind fun t308 => ((spec_Of.f k true t308).bind fun bt311 => ((spec_less.f k l1_1 bt287.2).bind fun t315 => ((spec_Of.f k a1_0 t315).bind fun bt318 => (some (bt311.1, bt311.2, bt318.1, bt318.2))))))))
theorem spec_Int_Floor.mono : ∀ a0 a1 a2 a3 k, LeO (spec_Int_Floor.f k a0 a1 a2 a3) (spec_Int_Floor.f (k + 1) a0 a1 a2 a3) := by
  intro a0 a1 a2 a3 k
  unfold spec_Int_Floor.f
  repeat' first
      | (with_reducible exact spec_Of.mono _ _ _)
      | (with_reducible exact spec_less.mono _ _ _)
      | (with_reducible exact spec_split.mono _ _ _)
      | (with_reducible exact spec_sum.mono _ _ _)
      | (with_reducible exact LeO.refl _)
      | (with_reducible exact LeO.none _)
      | (with_reducible refine LeO.ite ?_ ?_)
      | (with_reducible refine LeO.bind ?_ (fun _ => ?_))
      | exact spec_Of.mono _ _ _
      | exact spec_less.mono _ _ _
      | exact spec_split.mono _ _ _
      | exact spec_sum.mono _ _ _
      | exact LeO.none _
      | refine LeO.ite ?_ ?_
      | refine LeO.bind ?_ (fun _ => ?_)
def spec_Int_Floor.T3 : Bool × List (List Nat × List Nat) := (true, [([], []), ([0], [0]), ([], []), ([2], [2]), ([], []), ([3, 4, 1], [3, 4]), ([1, 5, 0, 1], [1]), ([5, 6, 0, 1, 2, 3, 4, 5, 6], [5])])
def spec_Int_Floor.B3 : List Nat := [0, 1, 0, 4, 0, 31, 63, 127]
theorem spec_Int_Floor.tab3 : rtab .any (opsOf Tryz.f85 3) = spec_Int_Floor.T3 := by kernel_rfl
theorem spec_Int_Floor.bits3 : waitsOk spec_Int_Floor.T3.2 spec_Int_Floor.B3 = true := by kernel_rfl
def spec_Int_Floor.T6 : Bool × List (List Nat × List Nat) := (true, [([], []), ([], []), ([0, 1], [0, 1]), ([2, 2], [2]), ([], []), ([4], [4]), ([], []), ([6], [6]), ([], []), ([7, 8, 3], [7, 8]), ([5, 9, 9], [5, 9]), ([3, 10, 0, 1, 2, 3], [3]), ([10, 11, 0, 1, 2, 3, 4, 5, 6, 7, 8, 9, 10, 11], [10])])
def spec_Int_Floor.B6 : List Nat := [0, 0, 3, 7, 0, 16, 0, 64, 0, 463, 1023, 2047, 4095]
theorem spec_Int_Floor.tab6 : rtab .any (opsOf Tryz.f85 6) = spec_Int_Floor.T6 := by kernel_rfl
theorem spec_Int_Floor.bits6 : waitsOk spec_Int_Floor.T6.2 spec_Int_Floor.B6 = true := by kernel_rfl
set_option maxHeartbeats 8000000 in
set_option maxRecDepth 100000 in
theorem spec_Int_Floor.calls (k : Nat) (a0_0 : Bool) (A0_1 : Option Addr) (c0_1 : Nat) (l0_1 : List Int) (a1_0 : Bool) (A1_1 : Option Addr) (c1_1 : Nat) (l1_1 : List Int) (r1 : Bool) (r2 : List Int) (r3 : Bool) (r4 : List Int) (w : World) (hr0_1 : Kd.C (Kd.int .u8) w A0_1 l0_1.length l0_1) (hc0_1 : l0_1.length ≤ c0_1) (hr1_1 : Kd.C (Kd.int .u8) w A1_1 l1_1.length l1_1) (hc1_1 : l1_1.length ≤ c1_1) (h : spec_Int_Floor.f k a0_0 l0_1 a1_0 l1_1 = some (r1, r2, r3, r4)) :
    Calls Tryz.prog 85 #[.agg #[.bool a0_0, .slice A0_1 l0_1.length c0_1], .agg #[.bool a1_0, .slice A1_1 l1_1.length c1_1]] w fun e w' => ∃ v1_ v3_ : Value, e = .returned (.tuple #[.agg #[.bool r1, v1_], .agg #[.bool r3, v3_]]) ∧ Kd.R (Kd.int .u8) 5 w' w.heap.size (fun k_ => some k_ ≠ (v3_ : Value).ownBlock) v1_ r2 ∧ Kd.R (Kd.int .u8) 5 w' w.heap.size (fun k_ => some k_ ≠ (v1_ : Value).ownBlock) v3_ r4 ∧ Below w.heap.size w w' := by
  have hu31 := Tryz.underlying31
  have HR0_1 := As.mk hr0_1
  have HC0_1 := As.mk hc0_1
  clear hr0_1 hc0_1
  have HR1_1 := As.mk hr1_1
  have HC1_1 := As.mk hc1_1
  clear hr1_1 hc1_1
  have HB := As.mk (Below.refl w.heap.size w)
  have H : ((spec_split.f k l0_1 l1_1).bind fun bt287 => (if (a0_0 == a1_0) = true then ((spec_Of.f k false bt287.1).bind fun bt293 => ((spec_Of.f k a1_0 bt287.2).bind fun bt297 => (some (bt293.1, bt293.2, bt297.1, bt297.2)))) else (if (bt287.2.length : Int) = 0 then ((spec_Of.f k true bt287.1).bind fun bt301 => (some (bt301.1, bt301.2, false, ([] : List Int)))) else ((spec_sum.f k bt287.1 (([1] : List Int))).bind fun t308 => ((spec_Of.f k true t308).bind fun bt311 => ((spec_less.f k l1_1 bt287.2).bind fun t315 => ((spec_Of.f k a1_0 t315).bind fun bt318 => (some (bt311.1, bt311.2, bt318.1, bt318.2))))))))) = some (r1, r2, r3, r4) := h
  clear h
  replace H := Option.bind_eq_some_iff.mp H
  obtain ⟨⟨t287, t288⟩, A30, H⟩ := H
  replace H : (if (a0_0 == a1_0) = true then ((spec_Of.f k false t287).bind fun bt293 => ((spec_Of.f k a1_0 t288).bind fun bt297 => (some (bt293.1, bt293.2, bt297.1, bt297.2)))) else (if (t288.length : Int) = 0 then ((spec_Of.f k true t287).bind fun bt301 => (some (bt301.1, bt301.2, false, ([] : List Int)))) else ((spec_sum.f k t287 (([1] : List Int))).bind fun t308 => ((spec_Of.f k true t308).bind fun bt311 => ((spec_less.f k l1_1 t288).bind fun t315 => ((spec_Of.f k a1_0 t315).bind fun bt318 => (some (bt311.1, bt311.2, bt318.1, bt318.2)))))))) = some (r1, r2, r3, r4) := H
  have A3 := As.mk A30
  clear A30
  by_cases c4 : (a0_0 == a1_0) = true
  · rw [if_pos c4] at H
    have c4b0 : (a0_0 == a1_0) = true := c4
    (try (have c4b1 : decide (a0_0 = a1_0) = true := by simpa using c4))
    (try (have c4b2 : (a0_0 == a1_0) = true := by simpa using c4))
    clear c4
    replace H := Option.bind_eq_some_iff.mp H
    obtain ⟨⟨t293, t294⟩, A50, H⟩ := H
    replace H : ((spec_Of.f k a1_0 t288).bind fun bt297 => (some (t293, t294, bt297.1, bt297.2))) = some (r1, r2, r3, r4) := H
    have A5 := As.mk A50
    clear A50
    replace H := Option.bind_eq_some_iff.mp H
    obtain ⟨⟨t297, t298⟩, A60, H⟩ := H
    replace H : (some (t293, t294, t297, t298)) = some (r1, r2, r3, r4) := H
    have A6 := As.mk A60
    clear A60
    simp only [Option.some.injEq, Prod.mk.injEq] at H
    obtain ⟨rfl, rfl, rfl, rfl⟩ := H
    go_enter Tryz.func85, Tryz.ntmps85
    try go_wp2_with (first | ((with_reducible refine gate_dst (N := 2) rfl ?_); refine box_event ?hg (N := 2) ?hd (cs := #[.bool a0_0, .slice A0_1 l0_1.length c0_1]) (t := 31) ?hr ?_; (case hd => rfl); (case hg => rfl); (case hr => first | (go_simp; done) | (go_simp; rfl)); intro gb283 hg w7 hbox hb; have n0_ := As.mk (bsp (by repeat (first | (with_reducible first | exact HB.out | apply bal | apply pwn | apply bdw) | exact HB.out)) hb); have n1_ := As.mk (hbox); have n2_ := As.mk ((by rw [hg]; exact (bsz (by repeat (first | (with_reducible first | exact HB.out | apply bal | apply pwn | apply bdw) | exact HB.out))) : w.heap.size ≤ gb283)); have n3_ := As.mk ((by rw [hg]; exact (bsz (by repeat (first | (with_reducible first | exact HB.out | apply bal | apply pwn | apply bdw) | exact HB.out))) : w.heap.size ≤ gb283)); clear HB; have HB := n0_; have BK283 := n1_; have GW283 := n2_; have GE283 := n3_; clear n0_ n1_ n2_ n3_; clear hb hbox hg) | ((with_reducible refine gate_dst (N := 3) rfl ?_); refine box_event ?hg (N := 3) ?hd (cs := #[.bool a1_0, .slice A1_1 l1_1.length c1_1]) (t := 31) ?hr ?_; (case hd => rfl); (case hg => rfl); (case hr => first | (go_simp; done) | (go_simp; rfl)); intro gb284 hg w8 hbox hb; have n0_ := As.mk (kbw (g := gb283) (o := .cells #[.bool a0_0, .slice A0_1 l0_1.length c0_1] 31 (0, 0)) (by (with_reducible repeat (first | refine kdn ?_ _ | refine kdr ?_ | refine kal ?_ _)); exact BK283.out) hb); have n1_ := As.mk (bsp (by repeat (first | (with_reducible first | exact HB.out | apply bal | apply pwn | apply bdw | refine bst ?_ GE283.out) | exact HB.out)) hb); have n2_ := As.mk (hbox); have n3_ := As.mk ((by rw [hg]; exact (bsz (by repeat (first | (with_reducible first | exact HB.out | apply bal | apply pwn | apply bdw | refine bst ?_ GE283.out) | exact HB.out))) : w.heap.size ≤ gb284)); have n4_ := As.mk ((by rw [hg]; exact (bsz (by repeat (first | (with_reducible first | exact HB.out | apply bal | apply pwn | apply bdw | refine bst ?_ GE283.out) | exact HB.out))) : w.heap.size ≤ gb284)); have n5_ := As.mk ((by rw [hg]; exact Nat.ne_of_lt (blk_lt (g := gb283) (o := .cells #[.bool a0_0, .slice A0_1 l0_1.length c0_1] 31 (0, 0)) (by (with_reducible repeat (first | refine kdn ?_ _ | refine kdr ?_ | refine kal ?_ _)); exact BK283.out)) : gb283 ≠ gb284)); have n6_ := As.mk ((by rw [hg]; exact Nat.ne_of_gt (blk_lt (g := gb283) (o := .cells #[.bool a0_0, .slice A0_1 l0_1.length c0_1] 31 (0, 0)) (by (with_reducible repeat (first | refine kdn ?_ _ | refine kdr ?_ | refine kal ?_ _)); exact BK283.out)) : gb284 ≠ gb283)); clear BK283; clear HB; have BK283 := n0_; have HB := n1_; have BK284 := n2_; have GW284 := n3_; have GE284 := n4_; have NB283_284 := n5_; have NB284_283 := n6_; clear n0_ n1_ n2_ n3_ n4_ n5_ n6_; clear hb hbox hg) | ((with_reducible refine gate_dst (N := 4) rfl ?_); refine box_event ?hg (N := 4) ?hd (cs := #[.bool false, .slice none 0 0]) (t := 31) ?hr ?_; (case hd => rfl); (case hg => rfl); (case hr => first | (go_simp; done) | (go_simp; rfl)); intro gb285 hg w9 hbox hb; have n0_ := As.mk (kbw (g := gb283) (o := .cells #[.bool a0_0, .slice A0_1 l0_1.length c0_1] 31 (0, 0)) (by (with_reducible repeat (first | refine kdn ?_ _ | refine kdr ?_ | refine kal ?_ _)); exact BK283.out) hb); have n1_ := As.mk (kbw (g := gb284) (o := .cells #[.bool a1_0, .slice A1_1 l1_1.length c1_1] 31 (0, 0)) (by (with_reducible repeat (first | refine kdn ?_ _ | refine kdr ?_ | refine kal ?_ _)); exact BK284.out) hb); have n2_ := As.mk (bsp (by repeat (first | (with_reducible first | exact HB.out | apply bal | apply pwn | apply bdw | refine bst ?_ GE283.out | refine bst ?_ GE284.out) | exact HB.out)) hb); have n3_ := As.mk (hbox); have n4_ := As.mk ((by rw [hg]; exact (bsz (by repeat (first | (with_reducible first | exact HB.out | apply bal | apply pwn | apply bdw | refine bst ?_ GE283.out | refine bst ?_ GE284.out) | exact HB.out))) : w.heap.size ≤ gb285)); have n5_ := As.mk ((by rw [hg]; exact (bsz (by repeat (first | (with_reducible first | exact HB.out | apply bal | apply pwn | apply bdw | refine bst ?_ GE283.out | refine bst ?_ GE284.out) | exact HB.out))) : w.heap.size ≤ gb285)); have n6_ := As.mk ((by rw [hg]; exact Nat.ne_of_lt (blk_lt (g := gb283) (o := .cells #[.bool a0_0, .slice A0_1 l0_1.length c0_1] 31 (0, 0)) (by (with_reducible repeat (first | refine kdn ?_ _ | refine kdr ?_ | refine kal ?_ _)); exact BK283.out)) : gb283 ≠ gb285)); have n7_ := As.mk ((by rw [hg]; exact Nat.ne_of_gt (blk_lt (g := gb283) (o := .cells #[.bool a0_0, .slice A0_1 l0_1.length c0_1] 31 (0, 0)) (by (with_reducible repeat (first | refine kdn ?_ _ | refine kdr ?_ | refine kal ?_ _)); exact BK283.out)) : gb285 ≠ gb283)); have n8_ := As.mk ((by rw [hg]; exact Nat.ne_of_lt (blk_lt (g := gb284) (o := .cells #[.bool a1_0, .slice A1_1 l1_1.length c1_1] 31 (0, 0)) (by (with_reducible repeat (first | refine kdn ?_ _ | refine kdr ?_ | refine kal ?_ _)); exact BK284.out)) : gb284 ≠ gb285)); have n9_ := As.mk ((by rw [hg]; exact Nat.ne_of_gt (blk_lt (g := gb284) (o := .cells #[.bool a1_0, .slice A1_1 l1_1.length c1_1] 31 (0, 0)) (by (with_reducible repeat (first | refine kdn ?_ _ | refine kdr ?_ | refine kal ?_ _)); exact BK284.out)) : gb285 ≠ gb284)); clear BK283; clear BK284; clear HB; have BK283 := n0_; have BK284 := n1_; have HB := n2_; have BK285 := n3_; have GW285 := n4_; have GE285 := n5_; have NB283_285 := n6_; have NB285_283 := n7_; have NB284_285 := n8_; have NB285_284 := n9_; clear n0_ n1_ n2_ n3_ n4_ n5_ n6_ n7_ n8_ n9_; clear hb hbox hg) | ((with_reducible refine gate_dst (N := 5) rfl ?_); refine box_event ?hg (N := 5) ?hd (cs := #[.bool false, .slice none 0 0]) (t := 31) ?hr ?_; (case hd => rfl); (case hg => rfl); (case hr => first | (go_simp; done) | (go_simp; rfl)); intro gb286 hg w10 hbox hb; have n0_ := As.mk (kbw (g := gb283) (o := .cells #[.bool a0_0, .slice A0_1 l0_1.length c0_1] 31 (0, 0)) (by (with_reducible repeat (first | refine kdn ?_ _ | refine kdr ?_ | refine kal ?_ _)); exact BK283.out) hb); have n1_ := As.mk (kbw (g := gb284) (o := .cells #[.bool a1_0, .slice A1_1 l1_1.length c1_1] 31 (0, 0)) (by (with_reducible repeat (first | refine kdn ?_ _ | refine kdr ?_ | refine kal ?_ _)); exact BK284.out) hb); have n2_ := As.mk (kbw (g := gb285) (o := .cells #[.bool false, .slice none 0 0] 31 (0, 0)) (by (with_reducible repeat (first | refine kdn ?_ _ | refine kdr ?_ | refine kal ?_ _)); exact BK285.out) hb); have n3_ := As.mk (bsp (by repeat (first | (with_reducible first | exact HB.out | apply bal | apply pwn | apply bdw | refine bst ?_ GE283.out | refine bst ?_ GE284.out | refine bst ?_ GE285.out) | exact HB.out)) hb); have n4_ := As.mk (hbox); have n5_ := As.mk ((by rw [hg]; exact (bsz (by repeat (first | (with_reducible first | exact HB.out | apply bal | apply pwn | apply bdw | refine bst ?_ GE283.out | refine bst ?_ GE284.out | refine bst ?_ GE285.out) | exact HB.out))) : w.heap.size ≤ gb286)); have n6_ := As.mk ((by rw [hg]; exact (bsz (by repeat (first | (with_reducible first | exact HB.out | apply bal | apply pwn | apply bdw | refine bst ?_ GE283.out | refine bst ?_ GE284.out | refine bst ?_ GE285.out) | exact HB.out))) : w.heap.size ≤ gb286)); have n7_ := As.mk ((by rw [hg]; exact Nat.ne_of_lt (blk_lt (g := gb283) (o := .cells #[.bool a0_0, .slice A0_1 l0_1.length c0_1] 31 (0, 0)) (by (with_reducible repeat (first | refine kdn ?_ _ | refine kdr ?_ | refine kal ?_ _)); exact BK283.out)) : gb283 ≠ gb286)); have n8_ := As.mk ((by rw [hg]; exact Nat.ne_of_gt (blk_lt (g := gb283) (o := .cells #[.bool a0_0, .slice A0_1 l0_1.length c0_1] 31 (0, 0)) (by (with_reducible repeat (first | refine kdn ?_ _ | refine kdr ?_ | refine kal ?_ _)); exact BK283.out)) : gb286 ≠ gb283)); have n9_ := As.mk ((by rw [hg]; exact Nat.ne_of_lt (blk_lt (g := gb284) (o := .cells #[.bool a1_0, .slice A1_1 l1_1.length c1_1] 31 (0, 0)) (by (with_reducible repeat (first | refine kdn ?_ _ | refine kdr ?_ | refine kal ?_ _)); exact BK284.out)) : gb284 ≠ gb286)); have n10_ := As.mk ((by rw [hg]; exact Nat.ne_of_gt (blk_lt (g := gb284) (o := .cells #[.bool a1_0, .slice A1_1 l1_1.length c1_1] 31 (0, 0)) (by (with_reducible repeat (first | refine kdn ?_ _ | refine kdr ?_ | refine kal ?_ _)); exact BK284.out)) : gb286 ≠ gb284)); have n11_ := As.mk ((by rw [hg]; exact Nat.ne_of_lt (blk_lt (g := gb285) (o := .cells #[.bool false, .slice none 0 0] 31 (0, 0)) (by (with_reducible repeat (first | refine kdn ?_ _ | refine kdr ?_ | refine kal ?_ _)); exact BK285.out)) : gb285 ≠ gb286)); have n12_ := As.mk ((by rw [hg]; exact Nat.ne_of_gt (blk_lt (g := gb285) (o := .cells #[.bool false, .slice none 0 0] 31 (0, 0)) (by (with_reducible repeat (first | refine kdn ?_ _ | refine kdr ?_ | refine kal ?_ _)); exact BK285.out)) : gb286 ≠ gb285)); clear BK283; clear BK284; clear BK285; clear HB; have BK283 := n0_; have BK284 := n1_; have BK285 := n2_; have HB := n3_; have BK286 := n4_; have GW286 := n5_; have GE286 := n6_; have NB283_286 := n7_; have NB286_283 := n8_; have NB284_286 := n9_; have NB286_284 := n10_; have NB285_286 := n11_; have NB286_285 := n12_; clear n0_ n1_ n2_ n3_ n4_ n5_ n6_ n7_ n8_ n9_ n10_ n11_ n12_; clear hb hbox hg; have hnb11 := NB283_284.out; have hnc11 := NB284_283.out; have hnb12 := NB283_285.out; have hnc12 := NB285_283.out; have hnb13 := NB283_286.out; have hnc13 := NB286_283.out; have hcz14_0 : w10.cell? ⟨gb283, 0, none⟩ = some (.bool a0_0) := (kcl BK283.out 0).trans rfl; have hcz14_1 : w10.cell? ⟨gb283, 1, none⟩ = some (.slice A0_1 l0_1.length c0_1) := (kcl BK283.out 1).trans rfl; have hfz14_0 := kfz BK283.out 0; have hfz14_1 := kfz BK283.out 1; have hnb15 := NB284_285.out; have hnc15 := NB285_284.out; have hnb16 := NB284_286.out; have hnc16 := NB286_284.out; have hcz17_0 : w10.cell? ⟨gb284, 0, none⟩ = some (.bool a1_0) := (kcl BK284.out 0).trans rfl; have hcz17_1 : w10.cell? ⟨gb284, 1, none⟩ = some (.slice A1_1 l1_1.length c1_1) := (kcl BK284.out 1).trans rfl; have hfz17_0 := kfz BK284.out 0; have hfz17_1 := kfz BK284.out 1) | ((with_reducible refine gate_callee (f := 104) rfl ?_); refine goesL_ (some 13) rfl rfl Tryz.func104 (by kernel_rfl) rfl #[.slice A0_1 l0_1.length c0_1, .slice A1_1 l1_1.length c1_1] rfl (by (try simp only [List.map_toArray, List.map_cons, List.map_nil]); first | done | rfl | (simp only [List.length_drop, List.length_take]; rfl)) ?_; (with_reducible refine (spec_split.calls k _ _ l0_1 _ _ l1_1 t287 t288 _ ?side1 ?side2 ?side3 ?side4 A3.out).mono ?_); (case side1 => repeat (first | exact (Kd.C_below HR0_1.out HB.out) | (with_reducible refine Kd.C_alloc ?_ _) | (with_reducible refine Kd.C_drewN ?_ _) | (with_reducible refine Kd.C_drew ?_))); (case side2 => exact HC0_1.out); (case side3 => repeat (first | exact (Kd.C_below HR1_1.out HB.out) | (with_reducible refine Kd.C_alloc ?_ _) | (with_reducible refine Kd.C_drewN ?_ _) | (with_reducible refine Kd.C_drew ?_))); (case side4 => exact HC1_1.out); rintro e w18 ⟨v289, v291, rfl, ho0, ho1, hb⟩; refine ⟨_, rfl, ?_⟩; have n0_ := As.mk (Kd.R_lower ho0 (bsz (by repeat (first | (with_reducible first | exact HB.out | apply bal | apply pwn | apply bdw | refine bst ?_ GE283.out | refine bst ?_ GE284.out | refine bst ?_ GE285.out | refine bst ?_ GE286.out) | exact HB.out)))); have n1_ := As.mk (Kd.R_lower ho1 (bsz (by repeat (first | (with_reducible first | exact HB.out | apply bal | apply pwn | apply bdw | refine bst ?_ GE283.out | refine bst ?_ GE284.out | refine bst ?_ GE285.out | refine bst ?_ GE286.out) | exact HB.out)))); have n2_ := As.mk (kbw (g := gb283) (o := .cells #[.bool a0_0, .slice A0_1 l0_1.length c0_1] 31 (0, 0)) (by (with_reducible repeat (first | refine kdn ?_ _ | refine kdr ?_ | refine kal ?_ _)); exact BK283.out) hb); have n3_ := As.mk (kbw (g := gb284) (o := .cells #[.bool a1_0, .slice A1_1 l1_1.length c1_1] 31 (0, 0)) (by (with_reducible repeat (first | refine kdn ?_ _ | refine kdr ?_ | refine kal ?_ _)); exact BK284.out) hb); have n4_ := As.mk (kbw (g := gb285) (o := .cells #[.bool false, .slice none 0 0] 31 (0, 0)) (by (with_reducible repeat (first | refine kdn ?_ _ | refine kdr ?_ | refine kal ?_ _)); exact BK285.out) hb); have n5_ := As.mk (kbw (g := gb286) (o := .cells #[.bool false, .slice none 0 0] 31 (0, 0)) (by (with_reducible repeat (first | refine kdn ?_ _ | refine kdr ?_ | refine kal ?_ _)); exact BK286.out) hb); have n6_ := As.mk (bsp (by repeat (first | (with_reducible first | exact HB.out | apply bal | apply pwn | apply bdw | refine bst ?_ GE283.out | refine bst ?_ GE284.out | refine bst ?_ GE285.out | refine bst ?_ GE286.out) | exact HB.out)) hb); clear BK283; clear BK284; clear BK285; clear BK286; clear HB; have HO290 := n0_; have HO292 := n1_; have BK283 := n2_; have BK284 := n3_; have BK285 := n4_; have BK286 := n5_; have HB := n6_; clear n0_ n1_ n2_ n3_ n4_ n5_ n6_; (try clear hb); (try clear hb2); (try clear hk); (try clear hi); (try clear ho0); (try clear ho1); have hcz19_0 : w18.cell? ⟨gb283, 0, none⟩ = some (.bool a0_0) := (kcl BK283.out 0).trans rfl; have hcz19_1 : w18.cell? ⟨gb283, 1, none⟩ = some (.slice A0_1 l0_1.length c0_1) := (kcl BK283.out 1).trans rfl; have hfz19_0 := kfz BK283.out 0; have hfz19_1 := kfz BK283.out 1; have hcz20_0 : w18.cell? ⟨gb284, 0, none⟩ = some (.bool a1_0) := (kcl BK284.out 0).trans rfl; have hcz20_1 : w18.cell? ⟨gb284, 1, none⟩ = some (.slice A1_1 l1_1.length c1_1) := (kcl BK284.out 1).trans rfl; have hfz20_0 := kfz BK284.out 0; have hfz20_1 := kfz BK284.out 1))
    have n0_ := As.mk (Kd.R_drew HO290.out)
    have n1_ := As.mk (Kd.R_drew HO292.out)
    have n2_ := As.mk (kdr BK283.out)
    have n3_ := As.mk (kdr BK284.out)
    have n4_ := As.mk (kdr BK285.out)
    have n5_ := As.mk (kdr BK286.out)
    have n6_ := As.mk (bdw HB.out)
    clear HO290
    clear HO292
    clear BK283
    clear BK284
    clear BK285
    clear BK286
    clear HB
    have HO290 := n0_
    have HO292 := n1_
    have BK283 := n2_
    have BK284 := n3_
    have BK285 := n4_
    have BK286 := n5_
    have HB := n6_
    clear n0_ n1_ n2_ n3_ n4_ n5_ n6_
    obtain ⟨Ao22, co22, eo22⟩ := Kd.R_slice HO290.out
    (first | subst eo22 | (injection eo22 with f1_ f2_ f3_; have f4_ := f1_.symm; have f5_ := f3_.symm; clear f1_ f2_ f3_; subst f4_; subst f5_))
    refine start_ (n := 8) (S := fun w' => w'.cell? ⟨gb284, 0, none⟩ = some (.bool a1_0) ∧ w'.cell? ⟨gb284, 1, none⟩ = some (.slice A1_1 l1_1.length c1_1)) (ds := []) #[false, false, false, false, false, false, false, false] (by kernel_rfl) rfl rfl ⟨(kcl BK284.out 0).trans rfl, (kcl BK284.out 1).trans rfl⟩ (fun hHeld => ?_); refine with_tabW spec_Int_Floor.tab3 spec_Int_Floor.bits3 (fun HT_ HW_ => ?_)
    generalize w18.drew = w21 at HO290 HO292 BK283 BK284 BK285 BK286 HB hHeld ⊢
    refine pure_ (i := 0) (N := some 21) (v := ?_) (a' := ?_) #[true, false, false, false, false, false, false, false] rfl rfl (any_of HT_.out (by kernel_rfl)) (fun _ _ _ h => h) (Or.inl ⟨by rfl, ?_⟩) ?_ ?_
    rotate_left
    · intro w'
      go_simp
      with_reducible rfl
    rotate_left
    · simp only [Act.put, List.setIfInBounds_toArray, List.set_cons_zero, List.set_cons_succ, i64_w, i32_w]
      rfl
    refine pure_ (i := 2) (N := some 23) (v := ?_) (a' := ?_) #[true, false, true, false, false, false, false, false] rfl rfl (any_of HT_.out (by kernel_rfl)) (fun _ _ _ h => h) (Or.inl ⟨by rfl, ?_⟩) ?_ ?_
    rotate_left
    · intro w'
      go_simp
      with_reducible rfl
    rotate_left
    · simp only [Act.put, List.setIfInBounds_toArray, List.set_cons_zero, List.set_cons_succ, i64_w, i32_w]
      rfl
    refine pure_ (i := 4) (N := some 25) (v := ?_) (a' := ?_) #[true, false, true, false, true, false, false, false] rfl rfl (any_of HT_.out (by kernel_rfl)) (fun _ _ _ h => h) (Or.inl ⟨by rfl, ?_⟩) ?_ ?_
    rotate_left
    · intro w'
      go_simp
      with_reducible rfl
    rotate_left
    · simp only [Act.put, List.setIfInBounds_toArray, List.set_cons_zero, List.set_cons_succ, i64_w, i32_w]
      rfl
    refine take_ (i := 3) (N := some 24) (v := ?_) (a' := ?_) #[true, false, true, true, true, false, false, false] rfl rfl (take_ofW HT_.out HW_.out (by kernel_rfl)) (fun _ _ _ h => h) (Or.inl ⟨by rfl, ?_⟩) hHeld ?_ ?_
    rotate_left
    · rintro w' ⟨s0, s1⟩
      go_simp
      with_reducible rfl
    rotate_left
    · simp only [Act.put, List.setIfInBounds_toArray, List.set_cons_zero, List.set_cons_succ, i64_w, i32_w]
      rfl
    refine one_ (i := 1) (N := some 22) #[true, true, true, true, true, false, false, false] rfl rfl (one_of HT_.out (by kernel_rfl)) (by decide) (fun K hK => ?_)
    refine goes_ Tryz.func6 (by kernel_rfl) rfl #[.bool false, .slice Ao22 t287.length co22] (by rfl) rfl rfl (by (try simp only [List.map_toArray, List.map_cons, List.map_nil]); first | done | rfl | (simp only [List.length_drop, List.length_take]; rfl)) ?_
    with_reducible refine (spec_Of.calls k false _ _ t287 t293 t294 _ ?side1 ?side2 A5.out).mono ?_
    (case side1 => repeat (first | exact (Kd.R_reads' HO290.out).2.2 | (with_reducible refine Kd.C_alloc ?_ _) | (with_reducible refine Kd.C_drewN ?_ _) | (with_reducible refine Kd.C_drew ?_)))
    (case side2 => exact (Kd.R_reads' HO290.out).2.1)
    rintro e w23 ⟨v295, rfl, ho0, hb⟩
    refine ⟨_, rfl, ?_⟩
    have n0_ := As.mk (Kd.R_elder' (by (with_reducible repeat (first | apply Kd.R_alloc | apply Kd.R_drewN | apply Kd.R_drew)); exact HO290.out) (Kd.R_base ho0) hb)
    have n1_ := As.mk (Kd.R_elder' (by (with_reducible repeat (first | apply Kd.R_alloc | apply Kd.R_drewN | apply Kd.R_drew)); exact HO292.out) (Kd.R_base ho0) hb)
    have n2_ := As.mk (Kd.R_lower (Kd.R_new' (Kd.R_new' ho0 (Kd.R_lt (by (with_reducible repeat (first | apply Kd.R_alloc | apply Kd.R_drewN | apply Kd.R_drew)); exact HO290.out))) (Kd.R_lt (by (with_reducible repeat (first | apply Kd.R_alloc | apply Kd.R_drewN | apply Kd.R_drew)); exact HO292.out))) (bsz (by repeat (first | (with_reducible first | exact HB.out | apply bal | apply pwn | apply bdw | refine bst ?_ GE283.out | refine bst ?_ GE284.out | refine bst ?_ GE285.out | refine bst ?_ GE286.out) | exact HB.out))))
    have n3_ := As.mk (kbw (g := gb283) (o := .cells #[.bool a0_0, .slice A0_1 l0_1.length c0_1] 31 (0, 0)) (by (with_reducible repeat (first | refine kdn ?_ _ | refine kdr ?_ | refine kal ?_ _)); exact BK283.out) hb)
    have n4_ := As.mk (kbw (g := gb284) (o := .cells #[.bool a1_0, .slice A1_1 l1_1.length c1_1] 31 (0, 0)) (by (with_reducible repeat (first | refine kdn ?_ _ | refine kdr ?_ | refine kal ?_ _)); exact BK284.out) hb)
    have n5_ := As.mk (kbw (g := gb285) (o := .cells #[.bool false, .slice none 0 0] 31 (0, 0)) (by (with_reducible repeat (first | refine kdn ?_ _ | refine kdr ?_ | refine kal ?_ _)); exact BK285.out) hb)
    have n6_ := As.mk (kbw (g := gb286) (o := .cells #[.bool false, .slice none 0 0] 31 (0, 0)) (by (with_reducible repeat (first | refine kdn ?_ _ | refine kdr ?_ | refine kal ?_ _)); exact BK286.out) hb)
    have n7_ := As.mk (bsp (by repeat (first | (with_reducible first | exact HB.out | apply bal | apply pwn | apply bdw | refine bst ?_ GE283.out | refine bst ?_ GE284.out | refine bst ?_ GE285.out | refine bst ?_ GE286.out) | exact HB.out)) hb)
    clear HO290
    clear HO292
    clear BK283
    clear BK284
    clear BK285
    clear BK286
    clear HB
    have HO290 := n0_
    have HO292 := n1_
    have HO296 := n2_
    have BK283 := n3_
    have BK284 := n4_
    have BK285 := n5_
    have BK286 := n6_
    have HB := n7_
    clear n0_ n1_ n2_ n3_ n4_ n5_ n6_ n7_
    (try clear hb)
    (try clear hb2)
    (try clear hk)
    (try clear hi)
    (try clear ho0)
    obtain ⟨Ao24, co24, eo24⟩ := Kd.R_slice HO292.out
    (first | subst eo24 | (injection eo24 with f1_ f2_ f3_; have f4_ := f1_.symm; have f5_ := f3_.symm; clear f1_ f2_ f3_; subst f4_; subst f5_))
    refine hK.out _ _ ⟨(kcl BK284.out 0).trans rfl, (kcl BK284.out 1).trans rfl⟩ (fun hHeld => ?_)
    clear hK K
    refine norm_ (a' := ?_) ?_ ?_
    rotate_left
    · show Act.put _ (some 22) _ = _
      simp only [Act.put, List.setIfInBounds_toArray, List.set_cons_zero, List.set_cons_succ, i64_w, i32_w]
      rfl
    refine one_ (i := 5) (N := some 26) #[true, true, true, true, true, true, false, false] rfl rfl (one_of HT_.out (by kernel_rfl)) (by decide) (fun K hK => ?_)
    refine goes_ Tryz.func6 (by kernel_rfl) rfl #[.bool a1_0, .slice Ao24 t288.length co24] (by rfl) rfl rfl (by (try simp only [List.map_toArray, List.map_cons, List.map_nil]); first | done | rfl | (simp only [List.length_drop, List.length_take]; rfl)) ?_
    with_reducible refine (spec_Of.calls k a1_0 _ _ t288 t297 t298 _ ?side1 ?side2 A6.out).mono ?_
    (case side1 => repeat (first | exact (Kd.R_reads' HO292.out).2.2 | (with_reducible refine Kd.C_alloc ?_ _) | (with_reducible refine Kd.C_drewN ?_ _) | (with_reducible refine Kd.C_drew ?_)))
    (case side2 => exact (Kd.R_reads' HO292.out).2.1)
    rintro e w25 ⟨v299, rfl, ho0, hb⟩
    refine ⟨_, rfl, ?_⟩
    have n0_ := As.mk (Kd.R_elder' (by (with_reducible repeat (first | apply Kd.R_alloc | apply Kd.R_drewN | apply Kd.R_drew)); exact HO290.out) (Kd.R_base ho0) hb)
    have n1_ := As.mk (Kd.R_elder' (by (with_reducible repeat (first | apply Kd.R_alloc | apply Kd.R_drewN | apply Kd.R_drew)); exact HO292.out) (Kd.R_base ho0) hb)
    have n2_ := As.mk (Kd.R_elder' (by (with_reducible repeat (first | apply Kd.R_alloc | apply Kd.R_drewN | apply Kd.R_drew)); exact HO296.out) (Kd.R_base ho0) hb)
    have n3_ := As.mk (Kd.R_lower (Kd.R_new' (Kd.R_new' (Kd.R_new' ho0 (Kd.R_lt (by (with_reducible repeat (first | apply Kd.R_alloc | apply Kd.R_drewN | apply Kd.R_drew)); exact HO290.out))) (Kd.R_lt (by (with_reducible repeat (first | apply Kd.R_alloc | apply Kd.R_drewN | apply Kd.R_drew)); exact HO292.out))) (Kd.R_lt (by (with_reducible repeat (first | apply Kd.R_alloc | apply Kd.R_drewN | apply Kd.R_drew)); exact HO296.out))) (bsz (by repeat (first | (with_reducible first | exact HB.out | apply bal | apply pwn | apply bdw | refine bst ?_ GE283.out | refine bst ?_ GE284.out | refine bst ?_ GE285.out | refine bst ?_ GE286.out) | exact HB.out))))
    have n4_ := As.mk (kbw (g := gb283) (o := .cells #[.bool a0_0, .slice A0_1 l0_1.length c0_1] 31 (0, 0)) (by (with_reducible repeat (first | refine kdn ?_ _ | refine kdr ?_ | refine kal ?_ _)); exact BK283.out) hb)
    have n5_ := As.mk (kbw (g := gb284) (o := .cells #[.bool a1_0, .slice A1_1 l1_1.length c1_1] 31 (0, 0)) (by (with_reducible repeat (first | refine kdn ?_ _ | refine kdr ?_ | refine kal ?_ _)); exact BK284.out) hb)
    have n6_ := As.mk (kbw (g := gb285) (o := .cells #[.bool false, .slice none 0 0] 31 (0, 0)) (by (with_reducible repeat (first | refine kdn ?_ _ | refine kdr ?_ | refine kal ?_ _)); exact BK285.out) hb)
    have n7_ := As.mk (kbw (g := gb286) (o := .cells #[.bool false, .slice none 0 0] 31 (0, 0)) (by (with_reducible repeat (first | refine kdn ?_ _ | refine kdr ?_ | refine kal ?_ _)); exact BK286.out) hb)
    have n8_ := As.mk (bsp (by repeat (first | (with_reducible first | exact HB.out | apply bal | apply pwn | apply bdw | refine bst ?_ GE283.out | refine bst ?_ GE284.out | refine bst ?_ GE285.out | refine bst ?_ GE286.out) | exact HB.out)) hb)
    clear HO290
    clear HO292
    clear HO296
    clear BK283
    clear BK284
    clear BK285
    clear BK286
    clear HB
    have HO290 := n0_
    have HO292 := n1_
    have HO296 := n2_
    have HO300 := n3_
    have BK283 := n4_
    have BK284 := n5_
    have BK285 := n6_
    have BK286 := n7_
    have HB := n8_
    clear n0_ n1_ n2_ n3_ n4_ n5_ n6_ n7_ n8_
    (try clear hb)
    (try clear hb2)
    (try clear hk)
    (try clear hi)
    (try clear ho0)
    obtain ⟨Ao27, co27, eo27⟩ := Kd.R_slice HO296.out
    (first | subst eo27 | (injection eo27 with f1_ f2_ f3_; have f4_ := f1_.symm; have f5_ := f3_.symm; clear f1_ f2_ f3_; subst f4_; subst f5_))
    obtain ⟨Ao30, co30, eo30⟩ := Kd.R_slice HO300.out
    (first | subst eo30 | (injection eo30 with f1_ f2_ f3_; have f4_ := f1_.symm; have f5_ := f3_.symm; clear f1_ f2_ f3_; subst f4_; subst f5_))
    refine hK.out _ _ ⟨(kcl BK284.out 0).trans rfl, (kcl BK284.out 1).trans rfl⟩ (fun hHeld => ?_)
    clear hK K
    refine norm_ (a' := ?_) ?_ ?_
    rotate_left
    · show Act.put _ (some 26) _ = _
      simp only [Act.put, List.setIfInBounds_toArray, List.set_cons_zero, List.set_cons_succ, i64_w, i32_w]
      rfl
    refine one_ (i := 6) (N := none) #[true, true, true, true, true, true, true, false] rfl rfl (one_of HT_.out (by kernel_rfl)) (by decide) (fun K hK => ?_)
    have hs26 : w25.cell? ⟨gb285, 0, none⟩ = some (.bool false) := (kcl BK285.out 0).trans rfl
    have hfs26 := kfz BK285.out 0
    have hns26_0 := NB283_285.out
    have hns26_1 := NB284_285.out
    have hns26_3 := NB286_285.out
    have hms26_0 := NB285_283.out
    have hms26_1 := NB285_284.out
    have hms26_3 := NB285_286.out
    have hs28 : w25.cell? ⟨gb285, 1, none⟩ = some (.slice none 0 0) := (kcl BK285.out 1).trans rfl
    have hfs28 := kfz BK285.out 1
    have hns28_0 := NB283_285.out
    have hns28_1 := NB284_285.out
    have hns28_3 := NB286_285.out
    have hms28_0 := NB285_283.out
    have hms28_1 := NB285_284.out
    have hms28_3 := NB285_286.out
    refine skip_ (w1 := ?_) (by rfl) rfl ?_ ?_
    rotate_left
    · go_simp
      rfl
    refine hK.out _ _ ⟨((cell_far (p := ⟨gb285, _, none⟩) NB284_285.out _).trans (((cell_far (p := ⟨gb285, _, none⟩) NB284_285.out _).trans (hHeld.1)))), ((cell_far (p := ⟨gb285, _, none⟩) NB284_285.out _).trans (((cell_far (p := ⟨gb285, _, none⟩) NB284_285.out _).trans (hHeld.2))))⟩ (fun hHeld => ?_)
    clear hK K
    refine one_ (i := 7) (N := none) #[true, true, true, true, true, true, true, true] rfl rfl (one_of HT_.out (by kernel_rfl)) (by decide) (fun K hK => ?_)
    have hs29 : w25.cell? ⟨gb286, 0, none⟩ = some (.bool false) := (kcl BK286.out 0).trans rfl
    have hfs29 := kfz BK286.out 0
    have hns29_0 := NB283_286.out
    have hns29_1 := NB284_286.out
    have hns29_2 := NB285_286.out
    have hms29_0 := NB286_283.out
    have hms29_1 := NB286_284.out
    have hms29_2 := NB286_285.out
    have hs31 : w25.cell? ⟨gb286, 1, none⟩ = some (.slice none 0 0) := (kcl BK286.out 1).trans rfl
    have hfs31 := kfz BK286.out 1
    have hns31_0 := NB283_286.out
    have hns31_1 := NB284_286.out
    have hns31_2 := NB285_286.out
    have hms31_0 := NB286_283.out
    have hms31_1 := NB286_284.out
    have hms31_2 := NB286_285.out
    refine skip_ (w1 := ?_) (by rfl) rfl ?_ ?_
    rotate_left
    · go_simp
      rfl
    refine hK.out _ _ ⟨((cell_far (p := ⟨gb286, _, none⟩) NB284_286.out _).trans (((cell_far (p := ⟨gb286, _, none⟩) NB284_286.out _).trans (hHeld.1)))), ((cell_far (p := ⟨gb286, _, none⟩) NB284_286.out _).trans (((cell_far (p := ⟨gb286, _, none⟩) NB284_286.out _).trans (hHeld.2))))⟩ (fun hHeld => ?_)
    clear hK K
    refine done_ (done_of HT_.out (by kernel_rfl)) ?_
    try go_wp2
    refine bodyPost_ret (results_cc rfl _ _ gb285 gb286 31 31 #[.bool t293, .slice Ao27 t294.length co27] #[.bool t297, .slice Ao30 t298.length co30] (0, 0) (0, 0) _ _ rfl (by (with_reducible repeat (first | refine kdn ?_ _ | refine kdr ?_ | refine kal ?_ _)); refine blk_far ?_ NB285_286.out _; (with_reducible repeat (first | refine kdn ?_ _ | refine kdr ?_ | refine kal ?_ _)); refine blk_far ?_ NB285_286.out _; (with_reducible repeat (first | refine kdn ?_ _ | refine kdr ?_ | refine kal ?_ _)); refine blk_put (cs := #[.bool t293, .slice none 0 0]) ?_ 1 _ rfl; (with_reducible repeat (first | refine kdn ?_ _ | refine kdr ?_ | refine kal ?_ _)); refine blk_put (cs := #[.bool false, .slice none 0 0]) ?_ 0 _ rfl; (with_reducible repeat (first | refine kdn ?_ _ | refine kdr ?_ | refine kal ?_ _)); exact BK285.out) Tryz.underlying31 rfl (by kernel_rfl) rfl (by (with_reducible repeat (first | refine kdn ?_ _ | refine kdr ?_ | refine kal ?_ _)); refine blk_put (cs := #[.bool t297, .slice none 0 0]) ?_ 1 _ rfl; (with_reducible repeat (first | refine kdn ?_ _ | refine kdr ?_ | refine kal ?_ _)); refine blk_put (cs := #[.bool false, .slice none 0 0]) ?_ 0 _ rfl; (with_reducible repeat (first | refine kdn ?_ _ | refine kdr ?_ | refine kal ?_ _)); refine blk_far ?_ NB286_285.out _; (with_reducible repeat (first | refine kdn ?_ _ | refine kdr ?_ | refine kal ?_ _)); refine blk_far ?_ NB286_285.out _; (with_reducible repeat (first | refine kdn ?_ _ | refine kdr ?_ | refine kal ?_ _)); exact BK286.out) Tryz.underlying31 rfl (by kernel_rfl)) rfl ?_
    exact ⟨_, _, by first | rfl | (simp [errW_none, errW_some] <;> rfl) | (simp [*, errW_none, errW_some] <;> rfl), by (with_reducible repeat (first | apply Kd.R_alloc | apply Kd.R_drewN | apply Kd.R_drew)); exact Kd.R_mono (Kd.R_far (p := ⟨gb286, 1, none⟩) (Kd.R_far (p := ⟨gb286, 0, none⟩) (Kd.R_far (p := ⟨gb285, 1, none⟩) (Kd.R_far (p := ⟨gb285, 0, none⟩) (Kd.R_types (Kd.R_types HO296.out BK285.out (by decide)) BK286.out (by decide)) (fun _ hk => hk.1.2) (.bool t293)) (fun _ hk => hk.1.2) (.slice Ao27 t294.length co27)) (fun _ hk => hk.2) (.bool t297)) (fun _ hk => hk.2) (.slice Ao30 t298.length co30)) (fun _ hk => hk.1.1.2), by (with_reducible repeat (first | apply Kd.R_alloc | apply Kd.R_drewN | apply Kd.R_drew)); exact Kd.R_mono (Kd.R_far (p := ⟨gb286, 1, none⟩) (Kd.R_far (p := ⟨gb286, 0, none⟩) (Kd.R_far (p := ⟨gb285, 1, none⟩) (Kd.R_far (p := ⟨gb285, 0, none⟩) (Kd.R_types (Kd.R_types HO300.out BK285.out (by decide)) BK286.out (by decide)) (fun _ hk => hk.1.2) (.bool t293)) (fun _ hk => hk.1.2) (.slice Ao27 t294.length co27)) (fun _ hk => hk.2) (.bool t297)) (fun _ hk => hk.2) (.slice Ao30 t298.length co30)) (fun _ hk => hk.1.1.2), by repeat (first | (with_reducible first | exact HB.out | apply bal | apply pwn | apply bdw | refine bst ?_ GE283.out | refine bst ?_ GE284.out | refine bst ?_ GE285.out | refine bst ?_ GE286.out) | exact HB.out)⟩
  · rw [if_neg c4] at H
    have c4b0 : (a0_0 == a1_0) = false := by simpa using c4
    (try (have c4b1 : decide (a0_0 = a1_0) = false := by simpa using c4))
    (try (have c4b2 : (a0_0 == a1_0) = false := by simpa using c4))
    (try (have c4b3 : ¬ (a0_0 = a1_0) := by simpa using c4))
    clear c4
    by_cases c32 : (t288.length : Int) = 0
    · rw [if_pos c32] at H
      have c32b0 : ((t288.length : Int) == 0) = true := beq_iff_eq.mpr c32
      have c32b1 : ((t288.length : Int) != 0) = false := bne_eq_false_iff_eq.mpr c32
      clear c32
      replace H := Option.bind_eq_some_iff.mp H
      obtain ⟨⟨t301, t302⟩, A330, H⟩ := H
      replace H : (some (t301, t302, false, ([] : List Int))) = some (r1, r2, r3, r4) := H
      have A33 := As.mk A330
      clear A330
      simp only [Option.some.injEq, Prod.mk.injEq] at H
      obtain ⟨rfl, rfl, rfl, rfl⟩ := H
      go_enter Tryz.func85, Tryz.ntmps85
      go_wp2_with (first | ((with_reducible refine gate_dst (N := 2) rfl ?_); refine box_event ?hg (N := 2) ?hd (cs := #[.bool a0_0, .slice A0_1 l0_1.length c0_1]) (t := 31) ?hr ?_; (case hd => rfl); (case hg => rfl); (case hr => first | (go_simp; done) | (go_simp; rfl)); intro gb283 hg w34 hbox hb; have n0_ := As.mk (bsp (by repeat (first | (with_reducible first | exact HB.out | apply bal | apply pwn | apply bdw) | exact HB.out)) hb); have n1_ := As.mk (hbox); have n2_ := As.mk ((by rw [hg]; exact (bsz (by repeat (first | (with_reducible first | exact HB.out | apply bal | apply pwn | apply bdw) | exact HB.out))) : w.heap.size ≤ gb283)); have n3_ := As.mk ((by rw [hg]; exact (bsz (by repeat (first | (with_reducible first | exact HB.out | apply bal | apply pwn | apply bdw) | exact HB.out))) : w.heap.size ≤ gb283)); clear HB; have HB := n0_; have BK283 := n1_; have GW283 := n2_; have GE283 := n3_; clear n0_ n1_ n2_ n3_; clear hb hbox hg) | ((with_reducible refine gate_dst (N := 3) rfl ?_); refine box_event ?hg (N := 3) ?hd (cs := #[.bool a1_0, .slice A1_1 l1_1.length c1_1]) (t := 31) ?hr ?_; (case hd => rfl); (case hg => rfl); (case hr => first | (go_simp; done) | (go_simp; rfl)); intro gb284 hg w35 hbox hb; have n0_ := As.mk (kbw (g := gb283) (o := .cells #[.bool a0_0, .slice A0_1 l0_1.length c0_1] 31 (0, 0)) (by (with_reducible repeat (first | refine kdn ?_ _ | refine kdr ?_ | refine kal ?_ _)); exact BK283.out) hb); have n1_ := As.mk (bsp (by repeat (first | (with_reducible first | exact HB.out | apply bal | apply pwn | apply bdw | refine bst ?_ GE283.out) | exact HB.out)) hb); have n2_ := As.mk (hbox); have n3_ := As.mk ((by rw [hg]; exact (bsz (by repeat (first | (with_reducible first | exact HB.out | apply bal | apply pwn | apply bdw | refine bst ?_ GE283.out) | exact HB.out))) : w.heap.size ≤ gb284)); have n4_ := As.mk ((by rw [hg]; exact (bsz (by repeat (first | (with_reducible first | exact HB.out | apply bal | apply pwn | apply bdw | refine bst ?_ GE283.out) | exact HB.out))) : w.heap.size ≤ gb284)); have n5_ := As.mk ((by rw [hg]; exact Nat.ne_of_lt (blk_lt (g := gb283) (o := .cells #[.bool a0_0, .slice A0_1 l0_1.length c0_1] 31 (0, 0)) (by (with_reducible repeat (first | refine kdn ?_ _ | refine kdr ?_ | refine kal ?_ _)); exact BK283.out)) : gb283 ≠ gb284)); have n6_ := As.mk ((by rw [hg]; exact Nat.ne_of_gt (blk_lt (g := gb283) (o := .cells #[.bool a0_0, .slice A0_1 l0_1.length c0_1] 31 (0, 0)) (by (with_reducible repeat (first | refine kdn ?_ _ | refine kdr ?_ | refine kal ?_ _)); exact BK283.out)) : gb284 ≠ gb283)); clear BK283; clear HB; have BK283 := n0_; have HB := n1_; have BK284 := n2_; have GW284 := n3_; have GE284 := n4_; have NB283_284 := n5_; have NB284_283 := n6_; clear n0_ n1_ n2_ n3_ n4_ n5_ n6_; clear hb hbox hg) | ((with_reducible refine gate_dst (N := 4) rfl ?_); refine box_event ?hg (N := 4) ?hd (cs := #[.bool false, .slice none 0 0]) (t := 31) ?hr ?_; (case hd => rfl); (case hg => rfl); (case hr => first | (go_simp; done) | (go_simp; rfl)); intro gb285 hg w36 hbox hb; have n0_ := As.mk (kbw (g := gb283) (o := .cells #[.bool a0_0, .slice A0_1 l0_1.length c0_1] 31 (0, 0)) (by (with_reducible repeat (first | refine kdn ?_ _ | refine kdr ?_ | refine kal ?_ _)); exact BK283.out) hb); have n1_ := As.mk (kbw (g := gb284) (o := .cells #[.bool a1_0, .slice A1_1 l1_1.length c1_1] 31 (0, 0)) (by (with_reducible repeat (first | refine kdn ?_ _ | refine kdr ?_ | refine kal ?_ _)); exact BK284.out) hb); have n2_ := As.mk (bsp (by repeat (first | (with_reducible first | exact HB.out | apply bal | apply pwn | apply bdw | refine bst ?_ GE283.out | refine bst ?_ GE284.out) | exact HB.out)) hb); have n3_ := As.mk (hbox); have n4_ := As.mk ((by rw [hg]; exact (bsz (by repeat (first | (with_reducible first | exact HB.out | apply bal | apply pwn | apply bdw | refine bst ?_ GE283.out | refine bst ?_ GE284.out) | exact HB.out))) : w.heap.size ≤ gb285)); have n5_ := As.mk ((by rw [hg]; exact (bsz (by repeat (first | (with_reducible first | exact HB.out | apply bal | apply pwn | apply bdw | refine bst ?_ GE283.out | refine bst ?_ GE284.out) | exact HB.out))) : w.heap.size ≤ gb285)); have n6_ := As.mk ((by rw [hg]; exact Nat.ne_of_lt (blk_lt (g := gb283) (o := .cells #[.bool a0_0, .slice A0_1 l0_1.length c0_1] 31 (0, 0)) (by (with_reducible repeat (first | refine kdn ?_ _ | refine kdr ?_ | refine kal ?_ _)); exact BK283.out)) : gb283 ≠ gb285)); have n7_ := As.mk ((by rw [hg]; exact Nat.ne_of_gt (blk_lt (g := gb283) (o := .cells #[.bool a0_0, .slice A0_1 l0_1.length c0_1] 31 (0, 0)) (by (with_reducible repeat (first | refine kdn ?_ _ | refine kdr ?_ | refine kal ?_ _)); exact BK283.out)) : gb285 ≠ gb283)); have n8_ := As.mk ((by rw [hg]; exact Nat.ne_of_lt (blk_lt (g := gb284) (o := .cells #[.bool a1_0, .slice A1_1 l1_1.length c1_1] 31 (0, 0)) (by (with_reducible repeat (first | refine kdn ?_ _ | refine kdr ?_ | refine kal ?_ _)); exact BK284.out)) : gb284 ≠ gb285)); have n9_ := As.mk ((by rw [hg]; exact Nat.ne_of_gt (blk_lt (g := gb284) (o := .cells #[.bool a1_0, .slice A1_1 l1_1.length c1_1] 31 (0, 0)) (by (with_reducible repeat (first | refine kdn ?_ _ | refine kdr ?_ | refine kal ?_ _)); exact BK284.out)) : gb285 ≠ gb284)); clear BK283; clear BK284; clear HB; have BK283 := n0_; have BK284 := n1_; have HB := n2_; have BK285 := n3_; have GW285 := n4_; have GE285 := n5_; have NB283_285 := n6_; have NB285_283 := n7_; have NB284_285 := n8_; have NB285_284 := n9_; clear n0_ n1_ n2_ n3_ n4_ n5_ n6_ n7_ n8_ n9_; clear hb hbox hg) | ((with_reducible refine gate_dst (N := 5) rfl ?_); refine box_event ?hg (N := 5) ?hd (cs := #[.bool false, .slice none 0 0]) (t := 31) ?hr ?_; (case hd => rfl); (case hg => rfl); (case hr => first | (go_simp; done) | (go_simp; rfl)); intro gb286 hg w37 hbox hb; have n0_ := As.mk (kbw (g := gb283) (o := .cells #[.bool a0_0, .slice A0_1 l0_1.length c0_1] 31 (0, 0)) (by (with_reducible repeat (first | refine kdn ?_ _ | refine kdr ?_ | refine kal ?_ _)); exact BK283.out) hb); have n1_ := As.mk (kbw (g := gb284) (o := .cells #[.bool a1_0, .slice A1_1 l1_1.length c1_1] 31 (0, 0)) (by (with_reducible repeat (first | refine kdn ?_ _ | refine kdr ?_ | refine kal ?_ _)); exact BK284.out) hb); have n2_ := As.mk (kbw (g := gb285) (o := .cells #[.bool false, .slice none 0 0] 31 (0, 0)) (by (with_reducible repeat (first | refine kdn ?_ _ | refine kdr ?_ | refine kal ?_ _)); exact BK285.out) hb); have n3_ := As.mk (bsp (by repeat (first | (with_reducible first | exact HB.out | apply bal | apply pwn | apply bdw | refine bst ?_ GE283.out | refine bst ?_ GE284.out | refine bst ?_ GE285.out) | exact HB.out)) hb); have n4_ := As.mk (hbox); have n5_ := As.mk ((by rw [hg]; exact (bsz (by repeat (first | (with_reducible first | exact HB.out | apply bal | apply pwn | apply bdw | refine bst ?_ GE283.out | refine bst ?_ GE284.out | refine bst ?_ GE285.out) | exact HB.out))) : w.heap.size ≤ gb286)); have n6_ := As.mk ((by rw [hg]; exact (bsz (by repeat (first | (with_reducible first | exact HB.out | apply bal | apply pwn | apply bdw | refine bst ?_ GE283.out | refine bst ?_ GE284.out | refine bst ?_ GE285.out) | exact HB.out))) : w.heap.size ≤ gb286)); have n7_ := As.mk ((by rw [hg]; exact Nat.ne_of_lt (blk_lt (g := gb283) (o := .cells #[.bool a0_0, .slice A0_1 l0_1.length c0_1] 31 (0, 0)) (by (with_reducible repeat (first | refine kdn ?_ _ | refine kdr ?_ | refine kal ?_ _)); exact BK283.out)) : gb283 ≠ gb286)); have n8_ := As.mk ((by rw [hg]; exact Nat.ne_of_gt (blk_lt (g := gb283) (o := .cells #[.bool a0_0, .slice A0_1 l0_1.length c0_1] 31 (0, 0)) (by (with_reducible repeat (first | refine kdn ?_ _ | refine kdr ?_ | refine kal ?_ _)); exact BK283.out)) : gb286 ≠ gb283)); have n9_ := As.mk ((by rw [hg]; exact Nat.ne_of_lt (blk_lt (g := gb284) (o := .cells #[.bool a1_0, .slice A1_1 l1_1.length c1_1] 31 (0, 0)) (by (with_reducible repeat (first | refine kdn ?_ _ | refine kdr ?_ | refine kal ?_ _)); exact BK284.out)) : gb284 ≠ gb286)); have n10_ := As.mk ((by rw [hg]; exact Nat.ne_of_gt (blk_lt (g := gb284) (o := .cells #[.bool a1_0, .slice A1_1 l1_1.length c1_1] 31 (0, 0)) (by (with_reducible repeat (first | refine kdn ?_ _ | refine kdr ?_ | refine kal ?_ _)); exact BK284.out)) : gb286 ≠ gb284)); have n11_ := As.mk ((by rw [hg]; exact Nat.ne_of_lt (blk_lt (g := gb285) (o := .cells #[.bool false, .slice none 0 0] 31 (0, 0)) (by (with_reducible repeat (first | refine kdn ?_ _ | refine kdr ?_ | refine kal ?_ _)); exact BK285.out)) : gb285 ≠ gb286)); have n12_ := As.mk ((by rw [hg]; exact Nat.ne_of_gt (blk_lt (g := gb285) (o := .cells #[.bool false, .slice none 0 0] 31 (0, 0)) (by (with_reducible repeat (first | refine kdn ?_ _ | refine kdr ?_ | refine kal ?_ _)); exact BK285.out)) : gb286 ≠ gb285)); clear BK283; clear BK284; clear BK285; clear HB; have BK283 := n0_; have BK284 := n1_; have BK285 := n2_; have HB := n3_; have BK286 := n4_; have GW286 := n5_; have GE286 := n6_; have NB283_286 := n7_; have NB286_283 := n8_; have NB284_286 := n9_; have NB286_284 := n10_; have NB285_286 := n11_; have NB286_285 := n12_; clear n0_ n1_ n2_ n3_ n4_ n5_ n6_ n7_ n8_ n9_ n10_ n11_ n12_; clear hb hbox hg; have hnb38 := NB283_284.out; have hnc38 := NB284_283.out; have hnb39 := NB283_285.out; have hnc39 := NB285_283.out; have hnb40 := NB283_286.out; have hnc40 := NB286_283.out; have hcz41_0 : w37.cell? ⟨gb283, 0, none⟩ = some (.bool a0_0) := (kcl BK283.out 0).trans rfl; have hcz41_1 : w37.cell? ⟨gb283, 1, none⟩ = some (.slice A0_1 l0_1.length c0_1) := (kcl BK283.out 1).trans rfl; have hfz41_0 := kfz BK283.out 0; have hfz41_1 := kfz BK283.out 1; have hnb42 := NB284_285.out; have hnc42 := NB285_284.out; have hnb43 := NB284_286.out; have hnc43 := NB286_284.out; have hcz44_0 : w37.cell? ⟨gb284, 0, none⟩ = some (.bool a1_0) := (kcl BK284.out 0).trans rfl; have hcz44_1 : w37.cell? ⟨gb284, 1, none⟩ = some (.slice A1_1 l1_1.length c1_1) := (kcl BK284.out 1).trans rfl; have hfz44_0 := kfz BK284.out 0; have hfz44_1 := kfz BK284.out 1) | ((with_reducible refine gate_callee (f := 104) rfl ?_); refine goesL_ (some 13) rfl rfl Tryz.func104 (by kernel_rfl) rfl #[.slice A0_1 l0_1.length c0_1, .slice A1_1 l1_1.length c1_1] rfl (by (try simp only [List.map_toArray, List.map_cons, List.map_nil]); first | done | rfl | (simp only [List.length_drop, List.length_take]; rfl)) ?_; (with_reducible refine (spec_split.calls k _ _ l0_1 _ _ l1_1 t287 t288 _ ?side1 ?side2 ?side3 ?side4 A3.out).mono ?_); (case side1 => repeat (first | exact (Kd.C_below HR0_1.out HB.out) | (with_reducible refine Kd.C_alloc ?_ _) | (with_reducible refine Kd.C_drewN ?_ _) | (with_reducible refine Kd.C_drew ?_))); (case side2 => exact HC0_1.out); (case side3 => repeat (first | exact (Kd.C_below HR1_1.out HB.out) | (with_reducible refine Kd.C_alloc ?_ _) | (with_reducible refine Kd.C_drewN ?_ _) | (with_reducible refine Kd.C_drew ?_))); (case side4 => exact HC1_1.out); rintro e w45 ⟨v289, v291, rfl, ho0, ho1, hb⟩; refine ⟨_, rfl, ?_⟩; have n0_ := As.mk (Kd.R_lower ho0 (bsz (by repeat (first | (with_reducible first | exact HB.out | apply bal | apply pwn | apply bdw | refine bst ?_ GE283.out | refine bst ?_ GE284.out | refine bst ?_ GE285.out | refine bst ?_ GE286.out) | exact HB.out)))); have n1_ := As.mk (Kd.R_lower ho1 (bsz (by repeat (first | (with_reducible first | exact HB.out | apply bal | apply pwn | apply bdw | refine bst ?_ GE283.out | refine bst ?_ GE284.out | refine bst ?_ GE285.out | refine bst ?_ GE286.out) | exact HB.out)))); have n2_ := As.mk (kbw (g := gb283) (o := .cells #[.bool a0_0, .slice A0_1 l0_1.length c0_1] 31 (0, 0)) (by (with_reducible repeat (first | refine kdn ?_ _ | refine kdr ?_ | refine kal ?_ _)); exact BK283.out) hb); have n3_ := As.mk (kbw (g := gb284) (o := .cells #[.bool a1_0, .slice A1_1 l1_1.length c1_1] 31 (0, 0)) (by (with_reducible repeat (first | refine kdn ?_ _ | refine kdr ?_ | refine kal ?_ _)); exact BK284.out) hb); have n4_ := As.mk (kbw (g := gb285) (o := .cells #[.bool false, .slice none 0 0] 31 (0, 0)) (by (with_reducible repeat (first | refine kdn ?_ _ | refine kdr ?_ | refine kal ?_ _)); exact BK285.out) hb); have n5_ := As.mk (kbw (g := gb286) (o := .cells #[.bool false, .slice none 0 0] 31 (0, 0)) (by (with_reducible repeat (first | refine kdn ?_ _ | refine kdr ?_ | refine kal ?_ _)); exact BK286.out) hb); have n6_ := As.mk (bsp (by repeat (first | (with_reducible first | exact HB.out | apply bal | apply pwn | apply bdw | refine bst ?_ GE283.out | refine bst ?_ GE284.out | refine bst ?_ GE285.out | refine bst ?_ GE286.out) | exact HB.out)) hb); clear BK283; clear BK284; clear BK285; clear BK286; clear HB; have HO290 := n0_; have HO292 := n1_; have BK283 := n2_; have BK284 := n3_; have BK285 := n4_; have BK286 := n5_; have HB := n6_; clear n0_ n1_ n2_ n3_ n4_ n5_ n6_; (try clear hb); (try clear hb2); (try clear hk); (try clear hi); (try clear ho0); (try clear ho1); have hcz46_0 : w45.cell? ⟨gb283, 0, none⟩ = some (.bool a0_0) := (kcl BK283.out 0).trans rfl; have hcz46_1 : w45.cell? ⟨gb283, 1, none⟩ = some (.slice A0_1 l0_1.length c0_1) := (kcl BK283.out 1).trans rfl; have hfz46_0 := kfz BK283.out 0; have hfz46_1 := kfz BK283.out 1; have hcz47_0 : w45.cell? ⟨gb284, 0, none⟩ = some (.bool a1_0) := (kcl BK284.out 0).trans rfl; have hcz47_1 : w45.cell? ⟨gb284, 1, none⟩ = some (.slice A1_1 l1_1.length c1_1) := (kcl BK284.out 1).trans rfl; have hfz47_0 := kfz BK284.out 0; have hfz47_1 := kfz BK284.out 1; obtain ⟨Ao48, co48, eo48⟩ := Kd.R_slice HO292.out; subst eo48; obtain ⟨Ao49, co49, eo49⟩ := Kd.R_slice HO290.out; subst eo49) | ((with_reducible refine gate_callee (f := 6) rfl ?_); refine goesL_ (some 31) rfl rfl Tryz.func6 (by kernel_rfl) rfl #[.bool true, .slice Ao49 t287.length co49] rfl (by (try simp only [List.map_toArray, List.map_cons, List.map_nil]); first | done | rfl | (simp only [List.length_drop, List.length_take]; rfl)) ?_; (with_reducible refine (spec_Of.calls k true _ _ t287 t301 t302 _ ?side1 ?side2 A33.out).mono ?_); (case side1 => repeat (first | exact (Kd.R_reads' HO290.out).2.2 | (with_reducible refine Kd.C_alloc ?_ _) | (with_reducible refine Kd.C_drewN ?_ _) | (with_reducible refine Kd.C_drew ?_))); (case side2 => exact (Kd.R_reads' HO290.out).2.1); rintro e w50 ⟨v303, rfl, ho0, hb⟩; refine ⟨_, rfl, ?_⟩; have n0_ := As.mk (Kd.R_elder' (by (with_reducible repeat (first | apply Kd.R_alloc | apply Kd.R_drewN | apply Kd.R_drew)); exact HO290.out) (Kd.R_base ho0) hb); have n1_ := As.mk (Kd.R_elder' (by (with_reducible repeat (first | apply Kd.R_alloc | apply Kd.R_drewN | apply Kd.R_drew)); exact HO292.out) (Kd.R_base ho0) hb); have n2_ := As.mk (Kd.R_lower (Kd.R_new' (Kd.R_new' ho0 (Kd.R_lt (by (with_reducible repeat (first | apply Kd.R_alloc | apply Kd.R_drewN | apply Kd.R_drew)); exact HO290.out))) (Kd.R_lt (by (with_reducible repeat (first | apply Kd.R_alloc | apply Kd.R_drewN | apply Kd.R_drew)); exact HO292.out))) (bsz (by repeat (first | (with_reducible first | exact HB.out | apply bal | apply pwn | apply bdw | refine bst ?_ GE283.out | refine bst ?_ GE284.out | refine bst ?_ GE285.out | refine bst ?_ GE286.out) | exact HB.out)))); have n3_ := As.mk (kbw (g := gb283) (o := .cells #[.bool a0_0, .slice A0_1 l0_1.length c0_1] 31 (0, 0)) (by (with_reducible repeat (first | refine kdn ?_ _ | refine kdr ?_ | refine kal ?_ _)); exact BK283.out) hb); have n4_ := As.mk (kbw (g := gb284) (o := .cells #[.bool a1_0, .slice A1_1 l1_1.length c1_1] 31 (0, 0)) (by (with_reducible repeat (first | refine kdn ?_ _ | refine kdr ?_ | refine kal ?_ _)); exact BK284.out) hb); have n5_ := As.mk (kbw (g := gb285) (o := .cells #[.bool false, .slice none 0 0] 31 (0, 0)) (by (with_reducible repeat (first | refine kdn ?_ _ | refine kdr ?_ | refine kal ?_ _)); exact BK285.out) hb); have n6_ := As.mk (kbw (g := gb286) (o := .cells #[.bool false, .slice none 0 0] 31 (0, 0)) (by (with_reducible repeat (first | refine kdn ?_ _ | refine kdr ?_ | refine kal ?_ _)); exact BK286.out) hb); have n7_ := As.mk (bsp (by repeat (first | (with_reducible first | exact HB.out | apply bal | apply pwn | apply bdw | refine bst ?_ GE283.out | refine bst ?_ GE284.out | refine bst ?_ GE285.out | refine bst ?_ GE286.out) | exact HB.out)) hb); clear HO290; clear HO292; clear BK283; clear BK284; clear BK285; clear BK286; clear HB; have HO290 := n0_; have HO292 := n1_; have HO304 := n2_; have BK283 := n3_; have BK284 := n4_; have BK285 := n5_; have BK286 := n6_; have HB := n7_; clear n0_ n1_ n2_ n3_ n4_ n5_ n6_ n7_; (try clear hb); (try clear hb2); (try clear hk); (try clear hi); (try clear ho0); have hnb51 := NB285_286.out; have hnc51 := NB286_285.out; have hcz52_0 : w50.cell? ⟨gb285, 0, none⟩ = some (.bool false) := (kcl BK285.out 0).trans rfl; have hcz52_1 : w50.cell? ⟨gb285, 1, none⟩ = some (.slice none 0 0) := (kcl BK285.out 1).trans rfl; have hfz52_0 := kfz BK285.out 0; have hfz52_1 := kfz BK285.out 1; obtain ⟨Ao53, co53, eo53⟩ := Kd.R_slice HO304.out; subst eo53; have hcz54_0 : w50.cell? ⟨gb286, 0, none⟩ = some (.bool false) := (kcl BK286.out 0).trans rfl; have hcz54_1 : w50.cell? ⟨gb286, 1, none⟩ = some (.slice none 0 0) := (kcl BK286.out 1).trans rfl; have hfz54_0 := kfz BK286.out 0; have hfz54_1 := kfz BK286.out 1))
      refine bodyPost_ret (results_cc rfl _ _ gb285 gb286 31 31 #[.bool t301, .slice Ao53 t302.length co53] #[.bool false, .slice none 0 0] (0, 0) (0, 0) _ _ rfl (by (with_reducible repeat (first | refine kdn ?_ _ | refine kdr ?_ | refine kal ?_ _)); refine blk_far ?_ NB285_286.out _; (with_reducible repeat (first | refine kdn ?_ _ | refine kdr ?_ | refine kal ?_ _)); refine blk_far ?_ NB285_286.out _; (with_reducible repeat (first | refine kdn ?_ _ | refine kdr ?_ | refine kal ?_ _)); refine blk_put (cs := #[.bool t301, .slice none 0 0]) ?_ 1 _ rfl; (with_reducible repeat (first | refine kdn ?_ _ | refine kdr ?_ | refine kal ?_ _)); refine blk_put (cs := #[.bool false, .slice none 0 0]) ?_ 0 _ rfl; (with_reducible repeat (first | refine kdn ?_ _ | refine kdr ?_ | refine kal ?_ _)); exact BK285.out) Tryz.underlying31 rfl (by kernel_rfl) rfl (by (with_reducible repeat (first | refine kdn ?_ _ | refine kdr ?_ | refine kal ?_ _)); refine blk_put (cs := #[.bool false, .slice none 0 0]) ?_ 1 _ rfl; (with_reducible repeat (first | refine kdn ?_ _ | refine kdr ?_ | refine kal ?_ _)); refine blk_put (cs := #[.bool false, .slice none 0 0]) ?_ 0 _ rfl; (with_reducible repeat (first | refine kdn ?_ _ | refine kdr ?_ | refine kal ?_ _)); refine blk_far ?_ NB286_285.out _; (with_reducible repeat (first | refine kdn ?_ _ | refine kdr ?_ | refine kal ?_ _)); refine blk_far ?_ NB286_285.out _; (with_reducible repeat (first | refine kdn ?_ _ | refine kdr ?_ | refine kal ?_ _)); exact BK286.out) Tryz.underlying31 rfl (by kernel_rfl)) rfl ?_
      exact ⟨_, _, by first | rfl | (simp [errW_none, errW_some] <;> rfl) | (simp [*, errW_none, errW_some] <;> rfl), by (with_reducible repeat (first | apply Kd.R_alloc | apply Kd.R_drewN | apply Kd.R_drew)); exact Kd.R_mono (Kd.R_far (p := ⟨gb286, 1, none⟩) (Kd.R_far (p := ⟨gb286, 0, none⟩) (Kd.R_far (p := ⟨gb285, 1, none⟩) (Kd.R_far (p := ⟨gb285, 0, none⟩) (Kd.R_types (Kd.R_types HO304.out BK285.out (by decide)) BK286.out (by decide)) (fun _ hk => hk.1.2) (.bool t301)) (fun _ hk => hk.1.2) (.slice Ao53 t302.length co53)) (fun _ hk => hk.2) (.bool false)) (fun _ hk => hk.2) (.slice none 0 0)) (fun _ hk => (by simp [Value.ownBlock])), by first | exact Kd.R_nil _ _ _ _ _ | exact Kd.N_nil _ _ _ _ _ | exact Kd.V_nil _ _ _ _ _ | exact Kd.Q_nil _ _ _ _ _ | exact Kd.S_nil _ _ _ _ _, by repeat (first | (with_reducible first | exact HB.out | apply bal | apply pwn | apply bdw | refine bst ?_ GE283.out | refine bst ?_ GE284.out | refine bst ?_ GE285.out | refine bst ?_ GE286.out) | exact HB.out)⟩
    · rw [if_neg c32] at H
      have c32b0 : ((t288.length : Int) == 0) = false := beq_eq_false_iff_ne.mpr c32
      have c32b1 : ((t288.length : Int) != 0) = true := bne_iff_ne.mpr c32
      have c32b2 : ¬ (t288 = []) := fun h_ => c32 (by rw [h_]; rfl)
      obtain ⟨y305, hy305⟩ : ∃ y_ : List Int, y_ = (([1] : List Int)) := ⟨_, rfl⟩
      replace H : ((spec_sum.f k t287 y305).bind fun t308 => ((spec_Of.f k true t308).bind fun bt311 => ((spec_less.f k l1_1 t288).bind fun t315 => ((spec_Of.f k a1_0 t315).bind fun bt318 => (some (bt311.1, bt311.2, bt318.1, bt318.2)))))) = some (r1, r2, r3, r4) := by first | (rw [hy305]; with_reducible exact H) | (have H2_ := (Option.bind_some _ _).symm.trans H; rw [hy305]; with_reducible exact H2_) | (have H2_ := (Option.bind_some _ _).symm.trans H; with_reducible exact H2_) | with_reducible exact H | (rw [hy305]; exact H) | exact H
      have Ny305 := As.mk hy305
      clear hy305
      replace H := Option.bind_eq_some_iff.mp H
      obtain ⟨t308, A550, H⟩ := H
      replace H : ((spec_Of.f k true t308).bind fun bt311 => ((spec_less.f k l1_1 t288).bind fun t315 => ((spec_Of.f k a1_0 t315).bind fun bt318 => (some (bt311.1, bt311.2, bt318.1, bt318.2))))) = some (r1, r2, r3, r4) := H
      have A55 := As.mk A550
      clear A550
      replace H := Option.bind_eq_some_iff.mp H
      obtain ⟨⟨t311, t312⟩, A560, H⟩ := H
      replace H : ((spec_less.f k l1_1 t288).bind fun t315 => ((spec_Of.f k a1_0 t315).bind fun bt318 => (some (t311, t312, bt318.1, bt318.2)))) = some (r1, r2, r3, r4) := H
      have A56 := As.mk A560
      clear A560
      replace H := Option.bind_eq_some_iff.mp H
      obtain ⟨t315, A570, H⟩ := H
      replace H : ((spec_Of.f k a1_0 t315).bind fun bt318 => (some (t311, t312, bt318.1, bt318.2))) = some (r1, r2, r3, r4) := H
      have A57 := As.mk A570
      clear A570
      replace H := Option.bind_eq_some_iff.mp H
      obtain ⟨⟨t318, t319⟩, A580, H⟩ := H
      replace H : (some (t311, t312, t318, t319)) = some (r1, r2, r3, r4) := H
      have A58 := As.mk A580
      clear A580
      simp only [Option.some.injEq, Prod.mk.injEq] at H
      obtain ⟨rfl, rfl, rfl, rfl⟩ := H
      go_enter Tryz.func85, Tryz.ntmps85
      try go_wp2_with (first | ((with_reducible refine gate_dst (N := 2) rfl ?_); refine box_event ?hg (N := 2) ?hd (cs := #[.bool a0_0, .slice A0_1 l0_1.length c0_1]) (t := 31) ?hr ?_; (case hd => rfl); (case hg => rfl); (case hr => first | (go_simp; done) | (go_simp; rfl)); intro gb283 hg w59 hbox hb; have n0_ := As.mk (bsp (by repeat (first | (with_reducible first | exact HB.out | apply bal | apply pwn | apply bdw) | exact HB.out)) hb); have n1_ := As.mk (hbox); have n2_ := As.mk ((by rw [hg]; exact (bsz (by repeat (first | (with_reducible first | exact HB.out | apply bal | apply pwn | apply bdw) | exact HB.out))) : w.heap.size ≤ gb283)); have n3_ := As.mk ((by rw [hg]; exact (bsz (by repeat (first | (with_reducible first | exact HB.out | apply bal | apply pwn | apply bdw) | exact HB.out))) : w.heap.size ≤ gb283)); clear HB; have HB := n0_; have BK283 := n1_; have GW283 := n2_; have GE283 := n3_; clear n0_ n1_ n2_ n3_; clear hb hbox hg) | ((with_reducible refine gate_dst (N := 3) rfl ?_); refine box_event ?hg (N := 3) ?hd (cs := #[.bool a1_0, .slice A1_1 l1_1.length c1_1]) (t := 31) ?hr ?_; (case hd => rfl); (case hg => rfl); (case hr => first | (go_simp; done) | (go_simp; rfl)); intro gb284 hg w60 hbox hb; have n0_ := As.mk (kbw (g := gb283) (o := .cells #[.bool a0_0, .slice A0_1 l0_1.length c0_1] 31 (0, 0)) (by (with_reducible repeat (first | refine kdn ?_ _ | refine kdr ?_ | refine kal ?_ _)); exact BK283.out) hb); have n1_ := As.mk (bsp (by repeat (first | (with_reducible first | exact HB.out | apply bal | apply pwn | apply bdw | refine bst ?_ GE283.out) | exact HB.out)) hb); have n2_ := As.mk (hbox); have n3_ := As.mk ((by rw [hg]; exact (bsz (by repeat (first | (with_reducible first | exact HB.out | apply bal | apply pwn | apply bdw | refine bst ?_ GE283.out) | exact HB.out))) : w.heap.size ≤ gb284)); have n4_ := As.mk ((by rw [hg]; exact (bsz (by repeat (first | (with_reducible first | exact HB.out | apply bal | apply pwn | apply bdw | refine bst ?_ GE283.out) | exact HB.out))) : w.heap.size ≤ gb284)); have n5_ := As.mk ((by rw [hg]; exact Nat.ne_of_lt (blk_lt (g := gb283) (o := .cells #[.bool a0_0, .slice A0_1 l0_1.length c0_1] 31 (0, 0)) (by (with_reducible repeat (first | refine kdn ?_ _ | refine kdr ?_ | refine kal ?_ _)); exact BK283.out)) : gb283 ≠ gb284)); have n6_ := As.mk ((by rw [hg]; exact Nat.ne_of_gt (blk_lt (g := gb283) (o := .cells #[.bool a0_0, .slice A0_1 l0_1.length c0_1] 31 (0, 0)) (by (with_reducible repeat (first | refine kdn ?_ _ | refine kdr ?_ | refine kal ?_ _)); exact BK283.out)) : gb284 ≠ gb283)); clear BK283; clear HB; have BK283 := n0_; have HB := n1_; have BK284 := n2_; have GW284 := n3_; have GE284 := n4_; have NB283_284 := n5_; have NB284_283 := n6_; clear n0_ n1_ n2_ n3_ n4_ n5_ n6_; clear hb hbox hg) | ((with_reducible refine gate_dst (N := 4) rfl ?_); refine box_event ?hg (N := 4) ?hd (cs := #[.bool false, .slice none 0 0]) (t := 31) ?hr ?_; (case hd => rfl); (case hg => rfl); (case hr => first | (go_simp; done) | (go_simp; rfl)); intro gb285 hg w61 hbox hb; have n0_ := As.mk (kbw (g := gb283) (o := .cells #[.bool a0_0, .slice A0_1 l0_1.length c0_1] 31 (0, 0)) (by (with_reducible repeat (first | refine kdn ?_ _ | refine kdr ?_ | refine kal ?_ _)); exact BK283.out) hb); have n1_ := As.mk (kbw (g := gb284) (o := .cells #[.bool a1_0, .slice A1_1 l1_1.length c1_1] 31 (0, 0)) (by (with_reducible repeat (first | refine kdn ?_ _ | refine kdr ?_ | refine kal ?_ _)); exact BK284.out) hb); have n2_ := As.mk (bsp (by repeat (first | (with_reducible first | exact HB.out | apply bal | apply pwn | apply bdw | refine bst ?_ GE283.out | refine bst ?_ GE284.out) | exact HB.out)) hb); have n3_ := As.mk (hbox); have n4_ := As.mk ((by rw [hg]; exact (bsz (by repeat (first | (with_reducible first | exact HB.out | apply bal | apply pwn | apply bdw | refine bst ?_ GE283.out | refine bst ?_ GE284.out) | exact HB.out))) : w.heap.size ≤ gb285)); have n5_ := As.mk ((by rw [hg]; exact (bsz (by repeat (first | (with_reducible first | exact HB.out | apply bal | apply pwn | apply bdw | refine bst ?_ GE283.out | refine bst ?_ GE284.out) | exact HB.out))) : w.heap.size ≤ gb285)); have n6_ := As.mk ((by rw [hg]; exact Nat.ne_of_lt (blk_lt (g := gb283) (o := .cells #[.bool a0_0, .slice A0_1 l0_1.length c0_1] 31 (0, 0)) (by (with_reducible repeat (first | refine kdn ?_ _ | refine kdr ?_ | refine kal ?_ _)); exact BK283.out)) : gb283 ≠ gb285)); have n7_ := As.mk ((by rw [hg]; exact Nat.ne_of_gt (blk_lt (g := gb283) (o := .cells #[.bool a0_0, .slice A0_1 l0_1.length c0_1] 31 (0, 0)) (by (with_reducible repeat (first | refine kdn ?_ _ | refine kdr ?_ | refine kal ?_ _)); exact BK283.out)) : gb285 ≠ gb283)); have n8_ := As.mk ((by rw [hg]; exact Nat.ne_of_lt (blk_lt (g := gb284) (o := .cells #[.bool a1_0, .slice A1_1 l1_1.length c1_1] 31 (0, 0)) (by (with_reducible repeat (first | refine kdn ?_ _ | refine kdr ?_ | refine kal ?_ _)); exact BK284.out)) : gb284 ≠ gb285)); have n9_ := As.mk ((by rw [hg]; exact Nat.ne_of_gt (blk_lt (g := gb284) (o := .cells #[.bool a1_0, .slice A1_1 l1_1.length c1_1] 31 (0, 0)) (by (with_reducible repeat (first | refine kdn ?_ _ | refine kdr ?_ | refine kal ?_ _)); exact BK284.out)) : gb285 ≠ gb284)); clear BK283; clear BK284; clear HB; have BK283 := n0_; have BK284 := n1_; have HB := n2_; have BK285 := n3_; have GW285 := n4_; have GE285 := n5_; have NB283_285 := n6_; have NB285_283 := n7_; have NB284_285 := n8_; have NB285_284 := n9_; clear n0_ n1_ n2_ n3_ n4_ n5_ n6_ n7_ n8_ n9_; clear hb hbox hg) | ((with_reducible refine gate_dst (N := 5) rfl ?_); refine box_event ?hg (N := 5) ?hd (cs := #[.bool false, .slice none 0 0]) (t := 31) ?hr ?_; (case hd => rfl); (case hg => rfl); (case hr => first | (go_simp; done) | (go_simp; rfl)); intro gb286 hg w62 hbox hb; have n0_ := As.mk (kbw (g := gb283) (o := .cells #[.bool a0_0, .slice A0_1 l0_1.length c0_1] 31 (0, 0)) (by (with_reducible repeat (first | refine kdn ?_ _ | refine kdr ?_ | refine kal ?_ _)); exact BK283.out) hb); have n1_ := As.mk (kbw (g := gb284) (o := .cells #[.bool a1_0, .slice A1_1 l1_1.length c1_1] 31 (0, 0)) (by (with_reducible repeat (first | refine kdn ?_ _ | refine kdr ?_ | refine kal ?_ _)); exact BK284.out) hb); have n2_ := As.mk (kbw (g := gb285) (o := .cells #[.bool false, .slice none 0 0] 31 (0, 0)) (by (with_reducible repeat (first | refine kdn ?_ _ | refine kdr ?_ | refine kal ?_ _)); exact BK285.out) hb); have n3_ := As.mk (bsp (by repeat (first | (with_reducible first | exact HB.out | apply bal | apply pwn | apply bdw | refine bst ?_ GE283.out | refine bst ?_ GE284.out | refine bst ?_ GE285.out) | exact HB.out)) hb); have n4_ := As.mk (hbox); have n5_ := As.mk ((by rw [hg]; exact (bsz (by repeat (first | (with_reducible first | exact HB.out | apply bal | apply pwn | apply bdw | refine bst ?_ GE283.out | refine bst ?_ GE284.out | refine bst ?_ GE285.out) | exact HB.out))) : w.heap.size ≤ gb286)); have n6_ := As.mk ((by rw [hg]; exact (bsz (by repeat (first | (with_reducible first | exact HB.out | apply bal | apply pwn | apply bdw | refine bst ?_ GE283.out | refine bst ?_ GE284.out | refine bst ?_ GE285.out) | exact HB.out))) : w.heap.size ≤ gb286)); have n7_ := As.mk ((by rw [hg]; exact Nat.ne_of_lt (blk_lt (g := gb283) (o := .cells #[.bool a0_0, .slice A0_1 l0_1.length c0_1] 31 (0, 0)) (by (with_reducible repeat (first | refine kdn ?_ _ | refine kdr ?_ | refine kal ?_ _)); exact BK283.out)) : gb283 ≠ gb286)); have n8_ := As.mk ((by rw [hg]; exact Nat.ne_of_gt (blk_lt (g := gb283) (o := .cells #[.bool a0_0, .slice A0_1 l0_1.length c0_1] 31 (0, 0)) (by (with_reducible repeat (first | refine kdn ?_ _ | refine kdr ?_ | refine kal ?_ _)); exact BK283.out)) : gb286 ≠ gb283)); have n9_ := As.mk ((by rw [hg]; exact Nat.ne_of_lt (blk_lt (g := gb284) (o := .cells #[.bool a1_0, .slice A1_1 l1_1.length c1_1] 31 (0, 0)) (by (with_reducible repeat (first | refine kdn ?_ _ | refine kdr ?_ | refine kal ?_ _)); exact BK284.out)) : gb284 ≠ gb286)); have n10_ := As.mk ((by rw [hg]; exact Nat.ne_of_gt (blk_lt (g := gb284) (o := .cells #[.bool a1_0, .slice A1_1 l1_1.length c1_1] 31 (0, 0)) (by (with_reducible repeat (first | refine kdn ?_ _ | refine kdr ?_ | refine kal ?_ _)); exact BK284.out)) : gb286 ≠ gb284)); have n11_ := As.mk ((by rw [hg]; exact Nat.ne_of_lt (blk_lt (g := gb285) (o := .cells #[.bool false, .slice none 0 0] 31 (0, 0)) (by (with_reducible repeat (first | refine kdn ?_ _ | refine kdr ?_ | refine kal ?_ _)); exact BK285.out)) : gb285 ≠ gb286)); have n12_ := As.mk ((by rw [hg]; exact Nat.ne_of_gt (blk_lt (g := gb285) (o := .cells #[.bool false, .slice none 0 0] 31 (0, 0)) (by (with_reducible repeat (first | refine kdn ?_ _ | refine kdr ?_ | refine kal ?_ _)); exact BK285.out)) : gb286 ≠ gb285)); clear BK283; clear BK284; clear BK285; clear HB; have BK283 := n0_; have BK284 := n1_; have BK285 := n2_; have HB := n3_; have BK286 := n4_; have GW286 := n5_; have GE286 := n6_; have NB283_286 := n7_; have NB286_283 := n8_; have NB284_286 := n9_; have NB286_284 := n10_; have NB285_286 := n11_; have NB286_285 := n12_; clear n0_ n1_ n2_ n3_ n4_ n5_ n6_ n7_ n8_ n9_ n10_ n11_ n12_; clear hb hbox hg; have hnb63 := NB283_284.out; have hnc63 := NB284_283.out; have hnb64 := NB283_285.out; have hnc64 := NB285_283.out; have hnb65 := NB283_286.out; have hnc65 := NB286_283.out; have hcz66_0 : w62.cell? ⟨gb283, 0, none⟩ = some (.bool a0_0) := (kcl BK283.out 0).trans rfl; have hcz66_1 : w62.cell? ⟨gb283, 1, none⟩ = some (.slice A0_1 l0_1.length c0_1) := (kcl BK283.out 1).trans rfl; have hfz66_0 := kfz BK283.out 0; have hfz66_1 := kfz BK283.out 1; have hnb67 := NB284_285.out; have hnc67 := NB285_284.out; have hnb68 := NB284_286.out; have hnc68 := NB286_284.out; have hcz69_0 : w62.cell? ⟨gb284, 0, none⟩ = some (.bool a1_0) := (kcl BK284.out 0).trans rfl; have hcz69_1 : w62.cell? ⟨gb284, 1, none⟩ = some (.slice A1_1 l1_1.length c1_1) := (kcl BK284.out 1).trans rfl; have hfz69_0 := kfz BK284.out 0; have hfz69_1 := kfz BK284.out 1) | ((with_reducible refine gate_callee (f := 104) rfl ?_); refine goesL_ (some 13) rfl rfl Tryz.func104 (by kernel_rfl) rfl #[.slice A0_1 l0_1.length c0_1, .slice A1_1 l1_1.length c1_1] rfl (by (try simp only [List.map_toArray, List.map_cons, List.map_nil]); first | done | rfl | (simp only [List.length_drop, List.length_take]; rfl)) ?_; (with_reducible refine (spec_split.calls k _ _ l0_1 _ _ l1_1 t287 t288 _ ?side1 ?side2 ?side3 ?side4 A3.out).mono ?_); (case side1 => repeat (first | exact (Kd.C_below HR0_1.out HB.out) | (with_reducible refine Kd.C_alloc ?_ _) | (with_reducible refine Kd.C_drewN ?_ _) | (with_reducible refine Kd.C_drew ?_))); (case side2 => exact HC0_1.out); (case side3 => repeat (first | exact (Kd.C_below HR1_1.out HB.out) | (with_reducible refine Kd.C_alloc ?_ _) | (with_reducible refine Kd.C_drewN ?_ _) | (with_reducible refine Kd.C_drew ?_))); (case side4 => exact HC1_1.out); rintro e w70 ⟨v289, v291, rfl, ho0, ho1, hb⟩; refine ⟨_, rfl, ?_⟩; have n0_ := As.mk (Kd.R_lower ho0 (bsz (by repeat (first | (with_reducible first | exact HB.out | apply bal | apply pwn | apply bdw | refine bst ?_ GE283.out | refine bst ?_ GE284.out | refine bst ?_ GE285.out | refine bst ?_ GE286.out) | exact HB.out)))); have n1_ := As.mk (Kd.R_lower ho1 (bsz (by repeat (first | (with_reducible first | exact HB.out | apply bal | apply pwn | apply bdw | refine bst ?_ GE283.out | refine bst ?_ GE284.out | refine bst ?_ GE285.out | refine bst ?_ GE286.out) | exact HB.out)))); have n2_ := As.mk (kbw (g := gb283) (o := .cells #[.bool a0_0, .slice A0_1 l0_1.length c0_1] 31 (0, 0)) (by (with_reducible repeat (first | refine kdn ?_ _ | refine kdr ?_ | refine kal ?_ _)); exact BK283.out) hb); have n3_ := As.mk (kbw (g := gb284) (o := .cells #[.bool a1_0, .slice A1_1 l1_1.length c1_1] 31 (0, 0)) (by (with_reducible repeat (first | refine kdn ?_ _ | refine kdr ?_ | refine kal ?_ _)); exact BK284.out) hb); have n4_ := As.mk (kbw (g := gb285) (o := .cells #[.bool false, .slice none 0 0] 31 (0, 0)) (by (with_reducible repeat (first | refine kdn ?_ _ | refine kdr ?_ | refine kal ?_ _)); exact BK285.out) hb); have n5_ := As.mk (kbw (g := gb286) (o := .cells #[.bool false, .slice none 0 0] 31 (0, 0)) (by (with_reducible repeat (first | refine kdn ?_ _ | refine kdr ?_ | refine kal ?_ _)); exact BK286.out) hb); have n6_ := As.mk (bsp (by repeat (first | (with_reducible first | exact HB.out | apply bal | apply pwn | apply bdw | refine bst ?_ GE283.out | refine bst ?_ GE284.out | refine bst ?_ GE285.out | refine bst ?_ GE286.out) | exact HB.out)) hb); clear BK283; clear BK284; clear BK285; clear BK286; clear HB; have HO290 := n0_; have HO292 := n1_; have BK283 := n2_; have BK284 := n3_; have BK285 := n4_; have BK286 := n5_; have HB := n6_; clear n0_ n1_ n2_ n3_ n4_ n5_ n6_; (try clear hb); (try clear hb2); (try clear hk); (try clear hi); (try clear ho0); (try clear ho1); have hcz71_0 : w70.cell? ⟨gb283, 0, none⟩ = some (.bool a0_0) := (kcl BK283.out 0).trans rfl; have hcz71_1 : w70.cell? ⟨gb283, 1, none⟩ = some (.slice A0_1 l0_1.length c0_1) := (kcl BK283.out 1).trans rfl; have hfz71_0 := kfz BK283.out 0; have hfz71_1 := kfz BK283.out 1; have hcz72_0 : w70.cell? ⟨gb284, 0, none⟩ = some (.bool a1_0) := (kcl BK284.out 0).trans rfl; have hcz72_1 : w70.cell? ⟨gb284, 1, none⟩ = some (.slice A1_1 l1_1.length c1_1) := (kcl BK284.out 1).trans rfl; have hfz72_0 := kfz BK284.out 0; have hfz72_1 := kfz BK284.out 1; obtain ⟨Ao73, co73, eo73⟩ := Kd.R_slice HO292.out; subst eo73))
      have n0_ := As.mk (Kd.R_drew HO290.out)
      have n1_ := As.mk (Kd.R_drew HO292.out)
      have n2_ := As.mk (kdr BK283.out)
      have n3_ := As.mk (kdr BK284.out)
      have n4_ := As.mk (kdr BK285.out)
      have n5_ := As.mk (kdr BK286.out)
      have n6_ := As.mk (bdw HB.out)
      clear HO290
      clear HO292
      clear BK283
      clear BK284
      clear BK285
      clear BK286
      clear HB
      have HO290 := n0_
      have HO292 := n1_
      have BK283 := n2_
      have BK284 := n3_
      have BK285 := n4_
      have BK286 := n5_
      have HB := n6_
      clear n0_ n1_ n2_ n3_ n4_ n5_ n6_
      refine start_ (n := 13) (S := fun w' => w'.cell? ⟨gb284, 0, none⟩ = some (.bool a1_0) ∧ w'.cell? ⟨gb284, 1, none⟩ = some (.slice A1_1 l1_1.length c1_1)) (ds := []) #[false, false, false, false, false, false, false, false, false, false, false, false, false] (by kernel_rfl) rfl rfl ⟨(kcl BK284.out 0).trans rfl, (kcl BK284.out 1).trans rfl⟩ (fun hHeld => ?_); refine with_tabW spec_Int_Floor.tab6 spec_Int_Floor.bits6 (fun HT_ HW_ => ?_)
      generalize w70.drew = w74 at HO290 HO292 BK283 BK284 BK285 BK286 HB hHeld ⊢
      refine pure_ (i := 0) (N := some 33) (v := ?_) (a' := ?_) #[true, false, false, false, false, false, false, false, false, false, false, false, false] rfl rfl (any_of HT_.out (by kernel_rfl)) (fun _ _ _ h => h) (Or.inl ⟨by rfl, ?_⟩) ?_ ?_
      rotate_left
      · intro w'
        go_simp
        with_reducible rfl
      rotate_left
      · simp only [Act.put, List.setIfInBounds_toArray, List.set_cons_zero, List.set_cons_succ, i64_w, i32_w]
        rfl
      refine pure_ (i := 4) (N := some 37) (v := ?_) (a' := ?_) #[true, false, false, false, true, false, false, false, false, false, false, false, false] rfl rfl (any_of HT_.out (by kernel_rfl)) (fun _ _ _ h => h) (Or.inl ⟨by rfl, ?_⟩) ?_ ?_
      rotate_left
      · intro w'
        go_simp
        with_reducible rfl
      rotate_left
      · simp only [Act.put, List.setIfInBounds_toArray, List.set_cons_zero, List.set_cons_succ, i64_w, i32_w]
        rfl
      refine pure_ (i := 6) (N := some 39) (v := ?_) (a' := ?_) #[true, false, false, false, true, false, true, false, false, false, false, false, false] rfl rfl (any_of HT_.out (by kernel_rfl)) (fun _ _ _ h => h) (Or.inl ⟨by rfl, ?_⟩) ?_ ?_
      rotate_left
      · intro w'
        go_simp
        with_reducible rfl
      rotate_left
      · simp only [Act.put, List.setIfInBounds_toArray, List.set_cons_zero, List.set_cons_succ, i64_w, i32_w]
        rfl
      refine pure_ (i := 8) (N := some 41) (v := ?_) (a' := ?_) #[true, false, false, false, true, false, true, false, true, false, false, false, false] rfl rfl (any_of HT_.out (by kernel_rfl)) (fun _ _ _ h => h) (Or.inl ⟨by rfl, ?_⟩) ?_ ?_
      rotate_left
      · intro w'
        go_simp
        with_reducible rfl
      rotate_left
      · simp only [Act.put, List.setIfInBounds_toArray, List.set_cons_zero, List.set_cons_succ, i64_w, i32_w]
        rfl
      refine take_ (i := 5) (N := some 38) (v := ?_) (a' := ?_) #[true, false, false, false, true, true, true, false, true, false, false, false, false] rfl rfl (take_ofW HT_.out HW_.out (by kernel_rfl)) (fun _ _ _ h => h) (Or.inl ⟨by rfl, ?_⟩) hHeld ?_ ?_
      rotate_left
      · rintro w' ⟨s0, s1⟩
        go_simp
        with_reducible rfl
      rotate_left
      · simp only [Act.put, List.setIfInBounds_toArray, List.set_cons_zero, List.set_cons_succ, i64_w, i32_w]
        rfl
      refine take_ (i := 7) (N := some 40) (v := ?_) (a' := ?_) #[true, false, false, false, true, true, true, true, true, false, false, false, false] rfl rfl (take_ofW HT_.out HW_.out (by kernel_rfl)) (fun _ _ _ h => h) (Or.inl ⟨by rfl, ?_⟩) hHeld ?_ ?_
      rotate_left
      · rintro w' ⟨s0, s1⟩
        go_simp
        with_reducible rfl
      rotate_left
      · simp only [Act.put, List.setIfInBounds_toArray, List.set_cons_zero, List.set_cons_succ, i64_w, i32_w]
        rfl
      refine one_ (i := 1) (N := some 34) #[true, true, false, false, true, true, true, true, true, false, false, false, false] rfl rfl (one_of HT_.out (by kernel_rfl)) (by decide) (fun K hK => ?_)
      refine Kd.R_lit_step (Kd.int .u8) _ 5 ?hg (N := 34) ?hd (xs := ([1] : List Int)) (inner := [.int .u8 1]) (ok := fun _ => True) (okp := fun _ => True) ?hr ?hp (fun _ hk => hk) trivial (Below.refl _ _) (Nat.le_refl _) (by simp) ?_; (case hd => rfl); (case hg => rfl); (case hr => first | (go_simp; done) | (go_simp; rfl)); (case hp => exact (Reps.one (show Kd.M (Kd.int .u8) _ _ _ 1 [.int .u8 1] from rfl) (Reps.none _ _)))
      intro v306 w75 ho76 hb hg_ hnew_
      clear hg_ hnew_
      (first | rw [← Ny305.out] at ho76 | (simp only [Int.reduceToNat] at ho76; rw [← Ny305.out] at ho76))
      have n0_ := As.mk (Kd.R_elder' (by (with_reducible repeat (first | apply Kd.R_alloc | apply Kd.R_drewN | apply Kd.R_drew)); exact HO290.out) (Kd.R_base ho76) hb)
      have n1_ := As.mk (Kd.R_elder' (by (with_reducible repeat (first | apply Kd.R_alloc | apply Kd.R_drewN | apply Kd.R_drew)); exact HO292.out) (Kd.R_base ho76) hb)
      have n2_ := As.mk (Kd.R_lower (Kd.R_new' (Kd.R_new' ho76 (Kd.R_lt (by (with_reducible repeat (first | apply Kd.R_alloc | apply Kd.R_drewN | apply Kd.R_drew)); exact HO290.out))) (Kd.R_lt (by (with_reducible repeat (first | apply Kd.R_alloc | apply Kd.R_drewN | apply Kd.R_drew)); exact HO292.out))) (bsz (by repeat (first | (with_reducible first | exact HB.out | apply bal | apply pwn | apply bdw | refine bst ?_ GE283.out | refine bst ?_ GE284.out | refine bst ?_ GE285.out | refine bst ?_ GE286.out) | exact HB.out))))
      have n3_ := As.mk (kbw (g := gb283) (o := .cells #[.bool a0_0, .slice A0_1 l0_1.length c0_1] 31 (0, 0)) (by (with_reducible repeat (first | refine kdn ?_ _ | refine kdr ?_ | refine kal ?_ _)); exact BK283.out) hb)
      have n4_ := As.mk (kbw (g := gb284) (o := .cells #[.bool a1_0, .slice A1_1 l1_1.length c1_1] 31 (0, 0)) (by (with_reducible repeat (first | refine kdn ?_ _ | refine kdr ?_ | refine kal ?_ _)); exact BK284.out) hb)
      have n5_ := As.mk (kbw (g := gb285) (o := .cells #[.bool false, .slice none 0 0] 31 (0, 0)) (by (with_reducible repeat (first | refine kdn ?_ _ | refine kdr ?_ | refine kal ?_ _)); exact BK285.out) hb)
      have n6_ := As.mk (kbw (g := gb286) (o := .cells #[.bool false, .slice none 0 0] 31 (0, 0)) (by (with_reducible repeat (first | refine kdn ?_ _ | refine kdr ?_ | refine kal ?_ _)); exact BK286.out) hb)
      have n7_ := As.mk (bsp (by repeat (first | (with_reducible first | exact HB.out | apply bal | apply pwn | apply bdw | refine bst ?_ GE283.out | refine bst ?_ GE284.out | refine bst ?_ GE285.out | refine bst ?_ GE286.out) | exact HB.out)) hb)
      clear HO290
      clear HO292
      clear BK283
      clear BK284
      clear BK285
      clear BK286
      clear HB
      have HO290 := n0_
      have HO292 := n1_
      have HO307 := n2_
      have BK283 := n3_
      have BK284 := n4_
      have BK285 := n5_
      have BK286 := n6_
      have HB := n7_
      clear n0_ n1_ n2_ n3_ n4_ n5_ n6_ n7_
      clear hb ho76
      obtain ⟨Ao77, co77, eo77⟩ := Kd.R_slice HO290.out
      (first | subst eo77 | (injection eo77 with f1_ f2_ f3_; have f4_ := f1_.symm; have f5_ := f3_.symm; clear f1_ f2_ f3_; subst f4_; subst f5_))
      obtain ⟨Ao78, co78, eo78⟩ := Kd.R_slice HO307.out
      (first | subst eo78 | (injection eo78 with f1_ f2_ f3_; have f4_ := f1_.symm; have f5_ := f3_.symm; clear f1_ f2_ f3_; subst f4_; subst f5_))
      refine hK.out _ _ ⟨(kcl BK284.out 0).trans rfl, (kcl BK284.out 1).trans rfl⟩ (fun hHeld => ?_)
      clear hK K
      refine norm_ (a' := ?_) ?_ ?_
      rotate_left
      · show Act.put _ (some 34) _ = _
        simp only [Act.put, List.setIfInBounds_toArray, List.set_cons_zero, List.set_cons_succ, i64_w, i32_w]
        rfl
      refine one_ (i := 2) (N := some 35) #[true, true, true, false, true, true, true, true, true, false, false, false, false] rfl rfl (one_of HT_.out (by kernel_rfl)) (by decide) (fun K hK => ?_)
      refine goes_ Tryz.func60 (by kernel_rfl) rfl #[.slice Ao77 t287.length co77, .slice Ao78 y305.length co78] (by rfl) rfl rfl (by (try simp only [List.map_toArray, List.map_cons, List.map_nil]); first | done | rfl | (simp only [List.length_drop, List.length_take]; rfl)) ?_
      with_reducible refine (spec_sum.calls k _ _ t287 _ _ y305 t308 _ ?side1 ?side2 ?side3 ?side4 A55.out).mono ?_
      (case side1 => repeat (first | exact (Kd.R_reads' HO290.out).2.2 | (with_reducible refine Kd.C_alloc ?_ _) | (with_reducible refine Kd.C_drewN ?_ _) | (with_reducible refine Kd.C_drew ?_)))
      (case side2 => exact (Kd.R_reads' HO290.out).2.1)
      (case side3 => repeat (first | exact (Kd.R_reads' HO307.out).2.2 | (with_reducible refine Kd.C_alloc ?_ _) | (with_reducible refine Kd.C_drewN ?_ _) | (with_reducible refine Kd.C_drew ?_)))
      (case side4 => exact (Kd.R_reads' HO307.out).2.1)
      rintro e w79 ⟨v309, rfl, ho0, hb⟩
      refine ⟨_, rfl, ?_⟩
      have n0_ := As.mk (Kd.R_elder' (by (with_reducible repeat (first | apply Kd.R_alloc | apply Kd.R_drewN | apply Kd.R_drew)); exact HO290.out) (Kd.R_base ho0) hb)
      have n1_ := As.mk (Kd.R_elder' (by (with_reducible repeat (first | apply Kd.R_alloc | apply Kd.R_drewN | apply Kd.R_drew)); exact HO292.out) (Kd.R_base ho0) hb)
      have n2_ := As.mk (Kd.R_elder' (by (with_reducible repeat (first | apply Kd.R_alloc | apply Kd.R_drewN | apply Kd.R_drew)); exact HO307.out) (Kd.R_base ho0) hb)
      have n3_ := As.mk (Kd.R_lower (Kd.R_new' (Kd.R_new' (Kd.R_new' ho0 (Kd.R_lt (by (with_reducible repeat (first | apply Kd.R_alloc | apply Kd.R_drewN | apply Kd.R_drew)); exact HO290.out))) (Kd.R_lt (by (with_reducible repeat (first | apply Kd.R_alloc | apply Kd.R_drewN | apply Kd.R_drew)); exact HO292.out))) (Kd.R_lt (by (with_reducible repeat (first | apply Kd.R_alloc | apply Kd.R_drewN | apply Kd.R_drew)); exact HO307.out))) (bsz (by repeat (first | (with_reducible first | exact HB.out | apply bal | apply pwn | apply bdw | refine bst ?_ GE283.out | refine bst ?_ GE284.out | refine bst ?_ GE285.out | refine bst ?_ GE286.out) | exact HB.out))))
      have n4_ := As.mk (kbw (g := gb283) (o := .cells #[.bool a0_0, .slice A0_1 l0_1.length c0_1] 31 (0, 0)) (by (with_reducible repeat (first | refine kdn ?_ _ | refine kdr ?_ | refine kal ?_ _)); exact BK283.out) hb)
      have n5_ := As.mk (kbw (g := gb284) (o := .cells #[.bool a1_0, .slice A1_1 l1_1.length c1_1] 31 (0, 0)) (by (with_reducible repeat (first | refine kdn ?_ _ | refine kdr ?_ | refine kal ?_ _)); exact BK284.out) hb)
      have n6_ := As.mk (kbw (g := gb285) (o := .cells #[.bool false, .slice none 0 0] 31 (0, 0)) (by (with_reducible repeat (first | refine kdn ?_ _ | refine kdr ?_ | refine kal ?_ _)); exact BK285.out) hb)
      have n7_ := As.mk (kbw (g := gb286) (o := .cells #[.bool false, .slice none 0 0] 31 (0, 0)) (by (with_reducible repeat (first | refine kdn ?_ _ | refine kdr ?_ | refine kal ?_ _)); exact BK286.out) hb)
      have n8_ := As.mk (bsp (by repeat (first | (with_reducible first | exact HB.out | apply bal | apply pwn | apply bdw | refine bst ?_ GE283.out | refine bst ?_ GE284.out | refine bst ?_ GE285.out | refine bst ?_ GE286.out) | exact HB.out)) hb)
      clear HO290
      clear HO292
      clear HO307
      clear BK283
      clear BK284
      clear BK285
      clear BK286
      clear HB
      have HO290 := n0_
      have HO292 := n1_
      have HO307 := n2_
      have HO310 := n3_
      have BK283 := n4_
      have BK284 := n5_
      have BK285 := n6_
      have BK286 := n7_
      have HB := n8_
      clear n0_ n1_ n2_ n3_ n4_ n5_ n6_ n7_ n8_
      (try clear hb)
      (try clear hb2)
      (try clear hk)
      (try clear hi)
      (try clear ho0)
      obtain ⟨Ao80, co80, eo80⟩ := Kd.R_slice HO310.out
      (first | subst eo80 | (injection eo80 with f1_ f2_ f3_; have f4_ := f1_.symm; have f5_ := f3_.symm; clear f1_ f2_ f3_; subst f4_; subst f5_))
      refine hK.out _ _ ⟨(kcl BK284.out 0).trans rfl, (kcl BK284.out 1).trans rfl⟩ (fun hHeld => ?_)
      clear hK K
      refine norm_ (a' := ?_) ?_ ?_
      rotate_left
      · show Act.put _ (some 35) _ = _
        simp only [Act.put, List.setIfInBounds_toArray, List.set_cons_zero, List.set_cons_succ, i64_w, i32_w]
        rfl
      refine one_ (i := 3) (N := some 36) #[true, true, true, true, true, true, true, true, true, false, false, false, false] rfl rfl (one_of HT_.out (by kernel_rfl)) (by decide) (fun K hK => ?_)
      refine goes_ Tryz.func6 (by kernel_rfl) rfl #[.bool true, .slice Ao80 t308.length co80] (by rfl) rfl rfl (by (try simp only [List.map_toArray, List.map_cons, List.map_nil]); first | done | rfl | (simp only [List.length_drop, List.length_take]; rfl)) ?_
      with_reducible refine (spec_Of.calls k true _ _ t308 t311 t312 _ ?side1 ?side2 A56.out).mono ?_
      (case side1 => repeat (first | exact (Kd.R_reads' HO310.out).2.2 | (with_reducible refine Kd.C_alloc ?_ _) | (with_reducible refine Kd.C_drewN ?_ _) | (with_reducible refine Kd.C_drew ?_)))
      (case side2 => exact (Kd.R_reads' HO310.out).2.1)
      rintro e w81 ⟨v313, rfl, ho0, hb⟩
      refine ⟨_, rfl, ?_⟩
      have n0_ := As.mk (Kd.R_elder' (by (with_reducible repeat (first | apply Kd.R_alloc | apply Kd.R_drewN | apply Kd.R_drew)); exact HO290.out) (Kd.R_base ho0) hb)
      have n1_ := As.mk (Kd.R_elder' (by (with_reducible repeat (first | apply Kd.R_alloc | apply Kd.R_drewN | apply Kd.R_drew)); exact HO292.out) (Kd.R_base ho0) hb)
      have n2_ := As.mk (Kd.R_elder' (by (with_reducible repeat (first | apply Kd.R_alloc | apply Kd.R_drewN | apply Kd.R_drew)); exact HO307.out) (Kd.R_base ho0) hb)
      have n3_ := As.mk (Kd.R_elder' (by (with_reducible repeat (first | apply Kd.R_alloc | apply Kd.R_drewN | apply Kd.R_drew)); exact HO310.out) (Kd.R_base ho0) hb)
      have n4_ := As.mk (Kd.R_lower (Kd.R_new' (Kd.R_new' (Kd.R_new' (Kd.R_new' ho0 (Kd.R_lt (by (with_reducible repeat (first | apply Kd.R_alloc | apply Kd.R_drewN | apply Kd.R_drew)); exact HO290.out))) (Kd.R_lt (by (with_reducible repeat (first | apply Kd.R_alloc | apply Kd.R_drewN | apply Kd.R_drew)); exact HO292.out))) (Kd.R_lt (by (with_reducible repeat (first | apply Kd.R_alloc | apply Kd.R_drewN | apply Kd.R_drew)); exact HO307.out))) (Kd.R_lt (by (with_reducible repeat (first | apply Kd.R_alloc | apply Kd.R_drewN | apply Kd.R_drew)); exact HO310.out))) (bsz (by repeat (first | (with_reducible first | exact HB.out | apply bal | apply pwn | apply bdw | refine bst ?_ GE283.out | refine bst ?_ GE284.out | refine bst ?_ GE285.out | refine bst ?_ GE286.out) | exact HB.out))))
      have n5_ := As.mk (kbw (g := gb283) (o := .cells #[.bool a0_0, .slice A0_1 l0_1.length c0_1] 31 (0, 0)) (by (with_reducible repeat (first | refine kdn ?_ _ | refine kdr ?_ | refine kal ?_ _)); exact BK283.out) hb)
      have n6_ := As.mk (kbw (g := gb284) (o := .cells #[.bool a1_0, .slice A1_1 l1_1.length c1_1] 31 (0, 0)) (by (with_reducible repeat (first | refine kdn ?_ _ | refine kdr ?_ | refine kal ?_ _)); exact BK284.out) hb)
      have n7_ := As.mk (kbw (g := gb285) (o := .cells #[.bool false, .slice none 0 0] 31 (0, 0)) (by (with_reducible repeat (first | refine kdn ?_ _ | refine kdr ?_ | refine kal ?_ _)); exact BK285.out) hb)
      have n8_ := As.mk (kbw (g := gb286) (o := .cells #[.bool false, .slice none 0 0] 31 (0, 0)) (by (with_reducible repeat (first | refine kdn ?_ _ | refine kdr ?_ | refine kal ?_ _)); exact BK286.out) hb)
      have n9_ := As.mk (bsp (by repeat (first | (with_reducible first | exact HB.out | apply bal | apply pwn | apply bdw | refine bst ?_ GE283.out | refine bst ?_ GE284.out | refine bst ?_ GE285.out | refine bst ?_ GE286.out) | exact HB.out)) hb)
      clear HO290
      clear HO292
      clear HO307
      clear HO310
      clear BK283
      clear BK284
      clear BK285
      clear BK286
      clear HB
      have HO290 := n0_
      have HO292 := n1_
      have HO307 := n2_
      have HO310 := n3_
      have HO314 := n4_
      have BK283 := n5_
      have BK284 := n6_
      have BK285 := n7_
      have BK286 := n8_
      have HB := n9_
      clear n0_ n1_ n2_ n3_ n4_ n5_ n6_ n7_ n8_ n9_
      (try clear hb)
      (try clear hb2)
      (try clear hk)
      (try clear hi)
      (try clear ho0)
      refine hK.out _ _ ⟨(kcl BK284.out 0).trans rfl, (kcl BK284.out 1).trans rfl⟩ (fun hHeld => ?_)
      clear hK K
      refine norm_ (a' := ?_) ?_ ?_
      rotate_left
      · show Act.put _ (some 36) _ = _
        simp only [Act.put, List.setIfInBounds_toArray, List.set_cons_zero, List.set_cons_succ, i64_w, i32_w]
        rfl
      refine one_ (i := 9) (N := some 42) #[true, true, true, true, true, true, true, true, true, true, false, false, false] rfl rfl (one_of HT_.out (by kernel_rfl)) (by decide) (fun K hK => ?_)
      refine goes_ Tryz.func61 (by kernel_rfl) rfl #[.slice A1_1 l1_1.length c1_1, .slice Ao73 t288.length co73] (by rfl) rfl rfl (by (try simp only [List.map_toArray, List.map_cons, List.map_nil]); first | done | rfl | (simp only [List.length_drop, List.length_take]; rfl)) ?_
      with_reducible refine (spec_less.calls k _ _ l1_1 _ _ t288 t315 _ ?side1 ?side2 ?side3 ?side4 A57.out).mono ?_
      (case side1 => repeat (first | exact (Kd.C_below HR1_1.out HB.out) | (with_reducible refine Kd.C_alloc ?_ _) | (with_reducible refine Kd.C_drewN ?_ _) | (with_reducible refine Kd.C_drew ?_)))
      (case side2 => exact HC1_1.out)
      (case side3 => repeat (first | exact (Kd.R_reads' HO292.out).2.2 | (with_reducible refine Kd.C_alloc ?_ _) | (with_reducible refine Kd.C_drewN ?_ _) | (with_reducible refine Kd.C_drew ?_)))
      (case side4 => exact (Kd.R_reads' HO292.out).2.1)
      rintro e w82 ⟨v316, rfl, ho0, hb⟩
      refine ⟨_, rfl, ?_⟩
      have n0_ := As.mk (Kd.R_elder' (by (with_reducible repeat (first | apply Kd.R_alloc | apply Kd.R_drewN | apply Kd.R_drew)); exact HO290.out) (Kd.R_base ho0) hb)
      have n1_ := As.mk (Kd.R_elder' (by (with_reducible repeat (first | apply Kd.R_alloc | apply Kd.R_drewN | apply Kd.R_drew)); exact HO292.out) (Kd.R_base ho0) hb)
      have n2_ := As.mk (Kd.R_elder' (by (with_reducible repeat (first | apply Kd.R_alloc | apply Kd.R_drewN | apply Kd.R_drew)); exact HO307.out) (Kd.R_base ho0) hb)
      have n3_ := As.mk (Kd.R_elder' (by (with_reducible repeat (first | apply Kd.R_alloc | apply Kd.R_drewN | apply Kd.R_drew)); exact HO310.out) (Kd.R_base ho0) hb)
      have n4_ := As.mk (Kd.R_elder' (by (with_reducible repeat (first | apply Kd.R_alloc | apply Kd.R_drewN | apply Kd.R_drew)); exact HO314.out) (Kd.R_base ho0) hb)
      have n5_ := As.mk (Kd.R_lower (Kd.R_new' (Kd.R_new' (Kd.R_new' (Kd.R_new' (Kd.R_new' ho0 (Kd.R_lt (by (with_reducible repeat (first | apply Kd.R_alloc | apply Kd.R_drewN | apply Kd.R_drew)); exact HO290.out))) (Kd.R_lt (by (with_reducible repeat (first | apply Kd.R_alloc | apply Kd.R_drewN | apply Kd.R_drew)); exact HO292.out))) (Kd.R_lt (by (with_reducible repeat (first | apply Kd.R_alloc | apply Kd.R_drewN | apply Kd.R_drew)); exact HO307.out))) (Kd.R_lt (by (with_reducible repeat (first | apply Kd.R_alloc | apply Kd.R_drewN | apply Kd.R_drew)); exact HO310.out))) (Kd.R_lt (by (with_reducible repeat (first | apply Kd.R_alloc | apply Kd.R_drewN | apply Kd.R_drew)); exact HO314.out))) (bsz (by repeat (first | (with_reducible first | exact HB.out | apply bal | apply pwn | apply bdw | refine bst ?_ GE283.out | refine bst ?_ GE284.out | refine bst ?_ GE285.out | refine bst ?_ GE286.out) | exact HB.out))))
      have n6_ := As.mk (kbw (g := gb283) (o := .cells #[.bool a0_0, .slice A0_1 l0_1.length c0_1] 31 (0, 0)) (by (with_reducible repeat (first | refine kdn ?_ _ | refine kdr ?_ | refine kal ?_ _)); exact BK283.out) hb)
      have n7_ := As.mk (kbw (g := gb284) (o := .cells #[.bool a1_0, .slice A1_1 l1_1.length c1_1] 31 (0, 0)) (by (with_reducible repeat (first | refine kdn ?_ _ | refine kdr ?_ | refine kal ?_ _)); exact BK284.out) hb)
      have n8_ := As.mk (kbw (g := gb285) (o := .cells #[.bool false, .slice none 0 0] 31 (0, 0)) (by (with_reducible repeat (first | refine kdn ?_ _ | refine kdr ?_ | refine kal ?_ _)); exact BK285.out) hb)
      have n9_ := As.mk (kbw (g := gb286) (o := .cells #[.bool false, .slice none 0 0] 31 (0, 0)) (by (with_reducible repeat (first | refine kdn ?_ _ | refine kdr ?_ | refine kal ?_ _)); exact BK286.out) hb)
      have n10_ := As.mk (bsp (by repeat (first | (with_reducible first | exact HB.out | apply bal | apply pwn | apply bdw | refine bst ?_ GE283.out | refine bst ?_ GE284.out | refine bst ?_ GE285.out | refine bst ?_ GE286.out) | exact HB.out)) hb)
      clear HO290
      clear HO292
      clear HO307
      clear HO310
      clear HO314
      clear BK283
      clear BK284
      clear BK285
      clear BK286
      clear HB
      have HO290 := n0_
      have HO292 := n1_
      have HO307 := n2_
      have HO310 := n3_
      have HO314 := n4_
      have HO317 := n5_
      have BK283 := n6_
      have BK284 := n7_
      have BK285 := n8_
      have BK286 := n9_
      have HB := n10_
      clear n0_ n1_ n2_ n3_ n4_ n5_ n6_ n7_ n8_ n9_ n10_
      (try clear hb)
      (try clear hb2)
      (try clear hk)
      (try clear hi)
      (try clear ho0)
      obtain ⟨Ao83, co83, eo83⟩ := Kd.R_slice HO317.out
      (first | subst eo83 | (injection eo83 with f1_ f2_ f3_; have f4_ := f1_.symm; have f5_ := f3_.symm; clear f1_ f2_ f3_; subst f4_; subst f5_))
      refine hK.out _ _ ⟨(kcl BK284.out 0).trans rfl, (kcl BK284.out 1).trans rfl⟩ (fun hHeld => ?_)
      clear hK K
      refine norm_ (a' := ?_) ?_ ?_
      rotate_left
      · show Act.put _ (some 42) _ = _
        simp only [Act.put, List.setIfInBounds_toArray, List.set_cons_zero, List.set_cons_succ, i64_w, i32_w]
        rfl
      refine one_ (i := 10) (N := some 43) #[true, true, true, true, true, true, true, true, true, true, true, false, false] rfl rfl (one_of HT_.out (by kernel_rfl)) (by decide) (fun K hK => ?_)
      refine goes_ Tryz.func6 (by kernel_rfl) rfl #[.bool a1_0, .slice Ao83 t315.length co83] (by rfl) rfl rfl (by (try simp only [List.map_toArray, List.map_cons, List.map_nil]); first | done | rfl | (simp only [List.length_drop, List.length_take]; rfl)) ?_
      with_reducible refine (spec_Of.calls k a1_0 _ _ t315 t318 t319 _ ?side1 ?side2 A58.out).mono ?_
      (case side1 => repeat (first | exact (Kd.R_reads' HO317.out).2.2 | (with_reducible refine Kd.C_alloc ?_ _) | (with_reducible refine Kd.C_drewN ?_ _) | (with_reducible refine Kd.C_drew ?_)))
      (case side2 => exact (Kd.R_reads' HO317.out).2.1)
      rintro e w84 ⟨v320, rfl, ho0, hb⟩
      refine ⟨_, rfl, ?_⟩
      have n0_ := As.mk (Kd.R_elder' (by (with_reducible repeat (first | apply Kd.R_alloc | apply Kd.R_drewN | apply Kd.R_drew)); exact HO290.out) (Kd.R_base ho0) hb)
      have n1_ := As.mk (Kd.R_elder' (by (with_reducible repeat (first | apply Kd.R_alloc | apply Kd.R_drewN | apply Kd.R_drew)); exact HO292.out) (Kd.R_base ho0) hb)
      have n2_ := As.mk (Kd.R_elder' (by (with_reducible repeat (first | apply Kd.R_alloc | apply Kd.R_drewN | apply Kd.R_drew)); exact HO307.out) (Kd.R_base ho0) hb)
      have n3_ := As.mk (Kd.R_elder' (by (with_reducible repeat (first | apply Kd.R_alloc | apply Kd.R_drewN | apply Kd.R_drew)); exact HO310.out) (Kd.R_base ho0) hb)
      have n4_ := As.mk (Kd.R_elder' (by (with_reducible repeat (first | apply Kd.R_alloc | apply Kd.R_drewN | apply Kd.R_drew)); exact HO314.out) (Kd.R_base ho0) hb)
      have n5_ := As.mk (Kd.R_elder' (by (with_reducible repeat (first | apply Kd.R_alloc | apply Kd.R_drewN | apply Kd.R_drew)); exact HO317.out) (Kd.R_base ho0) hb)
      have n6_ := As.mk (Kd.R_lower (Kd.R_new' (Kd.R_new' (Kd.R_new' (Kd.R_new' (Kd.R_new' (Kd.R_new' ho0 (Kd.R_lt (by (with_reducible repeat (first | apply Kd.R_alloc | apply Kd.R_drewN | apply Kd.R_drew)); exact HO290.out))) (Kd.R_lt (by (with_reducible repeat (first | apply Kd.R_alloc | apply Kd.R_drewN | apply Kd.R_drew)); exact HO292.out))) (Kd.R_lt (by (with_reducible repeat (first | apply Kd.R_alloc | apply Kd.R_drewN | apply Kd.R_drew)); exact HO307.out))) (Kd.R_lt (by (with_reducible repeat (first | apply Kd.R_alloc | apply Kd.R_drewN | apply Kd.R_drew)); exact HO310.out))) (Kd.R_lt (by (with_reducible repeat (first | apply Kd.R_alloc | apply Kd.R_drewN | apply Kd.R_drew)); exact HO314.out))) (Kd.R_lt (by (with_reducible repeat (first | apply Kd.R_alloc | apply Kd.R_drewN | apply Kd.R_drew)); exact HO317.out))) (bsz (by repeat (first | (with_reducible first | exact HB.out | apply bal | apply pwn | apply bdw | refine bst ?_ GE283.out | refine bst ?_ GE284.out | refine bst ?_ GE285.out | refine bst ?_ GE286.out) | exact HB.out))))
      have n7_ := As.mk (kbw (g := gb283) (o := .cells #[.bool a0_0, .slice A0_1 l0_1.length c0_1] 31 (0, 0)) (by (with_reducible repeat (first | refine kdn ?_ _ | refine kdr ?_ | refine kal ?_ _)); exact BK283.out) hb)
      have n8_ := As.mk (kbw (g := gb284) (o := .cells #[.bool a1_0, .slice A1_1 l1_1.length c1_1] 31 (0, 0)) (by (with_reducible repeat (first | refine kdn ?_ _ | refine kdr ?_ | refine kal ?_ _)); exact BK284.out) hb)
      have n9_ := As.mk (kbw (g := gb285) (o := .cells #[.bool false, .slice none 0 0] 31 (0, 0)) (by (with_reducible repeat (first | refine kdn ?_ _ | refine kdr ?_ | refine kal ?_ _)); exact BK285.out) hb)
      have n10_ := As.mk (kbw (g := gb286) (o := .cells #[.bool false, .slice none 0 0] 31 (0, 0)) (by (with_reducible repeat (first | refine kdn ?_ _ | refine kdr ?_ | refine kal ?_ _)); exact BK286.out) hb)
      have n11_ := As.mk (bsp (by repeat (first | (with_reducible first | exact HB.out | apply bal | apply pwn | apply bdw | refine bst ?_ GE283.out | refine bst ?_ GE284.out | refine bst ?_ GE285.out | refine bst ?_ GE286.out) | exact HB.out)) hb)
      clear HO290
      clear HO292
      clear HO307
      clear HO310
      clear HO314
      clear HO317
      clear BK283
      clear BK284
      clear BK285
      clear BK286
      clear HB
      have HO290 := n0_
      have HO292 := n1_
      have HO307 := n2_
      have HO310 := n3_
      have HO314 := n4_
      have HO317 := n5_
      have HO321 := n6_
      have BK283 := n7_
      have BK284 := n8_
      have BK285 := n9_
      have BK286 := n10_
      have HB := n11_
      clear n0_ n1_ n2_ n3_ n4_ n5_ n6_ n7_ n8_ n9_ n10_ n11_
      (try clear hb)
      (try clear hb2)
      (try clear hk)
      (try clear hi)
      (try clear ho0)
      obtain ⟨Ao86, co86, eo86⟩ := Kd.R_slice HO314.out
      (first | subst eo86 | (injection eo86 with f1_ f2_ f3_; have f4_ := f1_.symm; have f5_ := f3_.symm; clear f1_ f2_ f3_; subst f4_; subst f5_))
      obtain ⟨Ao89, co89, eo89⟩ := Kd.R_slice HO321.out
      (first | subst eo89 | (injection eo89 with f1_ f2_ f3_; have f4_ := f1_.symm; have f5_ := f3_.symm; clear f1_ f2_ f3_; subst f4_; subst f5_))
      refine hK.out _ _ ⟨(kcl BK284.out 0).trans rfl, (kcl BK284.out 1).trans rfl⟩ (fun hHeld => ?_)
      clear hK K
      refine norm_ (a' := ?_) ?_ ?_
      rotate_left
      · show Act.put _ (some 43) _ = _
        simp only [Act.put, List.setIfInBounds_toArray, List.set_cons_zero, List.set_cons_succ, i64_w, i32_w]
        rfl
      refine one_ (i := 11) (N := none) #[true, true, true, true, true, true, true, true, true, true, true, true, false] rfl rfl (one_of HT_.out (by kernel_rfl)) (by decide) (fun K hK => ?_)
      have hs85 : w84.cell? ⟨gb285, 0, none⟩ = some (.bool false) := (kcl BK285.out 0).trans rfl
      have hfs85 := kfz BK285.out 0
      have hns85_0 := NB283_285.out
      have hns85_1 := NB284_285.out
      have hns85_3 := NB286_285.out
      have hms85_0 := NB285_283.out
      have hms85_1 := NB285_284.out
      have hms85_3 := NB285_286.out
      have hs87 : w84.cell? ⟨gb285, 1, none⟩ = some (.slice none 0 0) := (kcl BK285.out 1).trans rfl
      have hfs87 := kfz BK285.out 1
      have hns87_0 := NB283_285.out
      have hns87_1 := NB284_285.out
      have hns87_3 := NB286_285.out
      have hms87_0 := NB285_283.out
      have hms87_1 := NB285_284.out
      have hms87_3 := NB285_286.out
      refine skip_ (w1 := ?_) (by rfl) rfl ?_ ?_
      rotate_left
      · go_simp
        rfl
      refine hK.out _ _ ⟨((cell_far (p := ⟨gb285, _, none⟩) NB284_285.out _).trans (((cell_far (p := ⟨gb285, _, none⟩) NB284_285.out _).trans (hHeld.1)))), ((cell_far (p := ⟨gb285, _, none⟩) NB284_285.out _).trans (((cell_far (p := ⟨gb285, _, none⟩) NB284_285.out _).trans (hHeld.2))))⟩ (fun hHeld => ?_)
      clear hK K
      refine one_ (i := 12) (N := none) #[true, true, true, true, true, true, true, true, true, true, true, true, true] rfl rfl (one_of HT_.out (by kernel_rfl)) (by decide) (fun K hK => ?_)
      have hs88 : w84.cell? ⟨gb286, 0, none⟩ = some (.bool false) := (kcl BK286.out 0).trans rfl
      have hfs88 := kfz BK286.out 0
      have hns88_0 := NB283_286.out
      have hns88_1 := NB284_286.out
      have hns88_2 := NB285_286.out
      have hms88_0 := NB286_283.out
      have hms88_1 := NB286_284.out
      have hms88_2 := NB286_285.out
      have hs90 : w84.cell? ⟨gb286, 1, none⟩ = some (.slice none 0 0) := (kcl BK286.out 1).trans rfl
      have hfs90 := kfz BK286.out 1
      have hns90_0 := NB283_286.out
      have hns90_1 := NB284_286.out
      have hns90_2 := NB285_286.out
      have hms90_0 := NB286_283.out
      have hms90_1 := NB286_284.out
      have hms90_2 := NB286_285.out
      refine skip_ (w1 := ?_) (by rfl) rfl ?_ ?_
      rotate_left
      · go_simp
        rfl
      refine hK.out _ _ ⟨((cell_far (p := ⟨gb286, _, none⟩) NB284_286.out _).trans (((cell_far (p := ⟨gb286, _, none⟩) NB284_286.out _).trans (hHeld.1)))), ((cell_far (p := ⟨gb286, _, none⟩) NB284_286.out _).trans (((cell_far (p := ⟨gb286, _, none⟩) NB284_286.out _).trans (hHeld.2))))⟩ (fun hHeld => ?_)
      clear hK K
      refine done_ (done_of HT_.out (by kernel_rfl)) ?_
      try go_wp2
      refine bodyPost_ret (results_cc rfl _ _ gb285 gb286 31 31 #[.bool t311, .slice Ao86 t312.length co86] #[.bool t318, .slice Ao89 t319.length co89] (0, 0) (0, 0) _ _ rfl (by (with_reducible repeat (first | refine kdn ?_ _ | refine kdr ?_ | refine kal ?_ _)); refine blk_far ?_ NB285_286.out _; (with_reducible repeat (first | refine kdn ?_ _ | refine kdr ?_ | refine kal ?_ _)); refine blk_far ?_ NB285_286.out _; (with_reducible repeat (first | refine kdn ?_ _ | refine kdr ?_ | refine kal ?_ _)); refine blk_put (cs := #[.bool t311, .slice none 0 0]) ?_ 1 _ rfl; (with_reducible repeat (first | refine kdn ?_ _ | refine kdr ?_ | refine kal ?_ _)); refine blk_put (cs := #[.bool false, .slice none 0 0]) ?_ 0 _ rfl; (with_reducible repeat (first | refine kdn ?_ _ | refine kdr ?_ | refine kal ?_ _)); exact BK285.out) Tryz.underlying31 rfl (by kernel_rfl) rfl (by (with_reducible repeat (first | refine kdn ?_ _ | refine kdr ?_ | refine kal ?_ _)); refine blk_put (cs := #[.bool t318, .slice none 0 0]) ?_ 1 _ rfl; (with_reducible repeat (first | refine kdn ?_ _ | refine kdr ?_ | refine kal ?_ _)); refine blk_put (cs := #[.bool false, .slice none 0 0]) ?_ 0 _ rfl; (with_reducible repeat (first | refine kdn ?_ _ | refine kdr ?_ | refine kal ?_ _)); refine blk_far ?_ NB286_285.out _; (with_reducible repeat (first | refine kdn ?_ _ | refine kdr ?_ | refine kal ?_ _)); refine blk_far ?_ NB286_285.out _; (with_reducible repeat (first | refine kdn ?_ _ | refine kdr ?_ | refine kal ?_ _)); exact BK286.out) Tryz.underlying31 rfl (by kernel_rfl)) rfl ?_
      exact ⟨_, _, by first | rfl | (simp [errW_none, errW_some] <;> rfl) | (simp [*, errW_none, errW_some] <;> rfl), by (with_reducible repeat (first | apply Kd.R_alloc | apply Kd.R_drewN | apply Kd.R_drew)); exact Kd.R_mono (Kd.R_far (p := ⟨gb286, 1, none⟩) (Kd.R_far (p := ⟨gb286, 0, none⟩) (Kd.R_far (p := ⟨gb285, 1, none⟩) (Kd.R_far (p := ⟨gb285, 0, none⟩) (Kd.R_types (Kd.R_types HO314.out BK285.out (by decide)) BK286.out (by decide)) (fun _ hk => hk.1.2) (.bool t311)) (fun _ hk => hk.1.2) (.slice Ao86 t312.length co86)) (fun _ hk => hk.2) (.bool t318)) (fun _ hk => hk.2) (.slice Ao89 t319.length co89)) (fun _ hk => hk.1.1.2), by (with_reducible repeat (first | apply Kd.R_alloc | apply Kd.R_drewN | apply Kd.R_drew)); exact Kd.R_mono (Kd.R_far (p := ⟨gb286, 1, none⟩) (Kd.R_far (p := ⟨gb286, 0, none⟩) (Kd.R_far (p := ⟨gb285, 1, none⟩) (Kd.R_far (p := ⟨gb285, 0, none⟩) (Kd.R_types (Kd.R_types HO321.out BK285.out (by decide)) BK286.out (by decide)) (fun _ hk => hk.1.2) (.bool t311)) (fun _ hk => hk.1.2) (.slice Ao86 t312.length co86)) (fun _ hk => hk.2) (.bool t318)) (fun _ hk => hk.2) (.slice Ao89 t319.length co89)) (fun _ hk => hk.1.1.1.2), by repeat (first | (with_reducible first | exact HB.out | apply bal | apply pwn | apply bdw | refine bst ?_ GE283.out | refine bst ?_ GE284.out | refine bst ?_ GE285.out | refine bst ?_ GE286.out) | exact HB.out)⟩
end Go.Proofs.YtldejfallphhbaaGreatDoor.PNearest
