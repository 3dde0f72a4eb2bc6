/-
  A part of the proof of FnMathWhole (packed out of smaller texts by a program of this session; what the proof does not reach is left out).
-/
import Derived.Test.YtldejfallphhbaaGreatDoorZ3
namespace Go.Proofs.YtldejfallphhbaaGreatDoor.PNearest
open Go.RowKit Go.Proofs.YtldejfallphhbaaGreatDoorW.PrintWords Go.Proofs.YtldejfallphhbaaGreatDoorW.PrintLast Go.Proofs.YtldejfallphhbaaGreatDoorW.PrintMore
attribute [local go_sem] max2_int min2_int max_two min_two max_three min_three max_four min_four
set_option linter.unusedVariables false
set_option linter.unusedSimpArgs false
def spec_Int_Add.f (k : Nat) (a0_0 : Bool) (l0_1 : List Int) (a1_0 : Bool) (l1_1 : List Int) : Option (Bool × List Int) := if (a0_0 == a1_0) = true then ((spec_sum.f k l0_1 l1_1).bind fun t164 => ((spec_Of.f k a0_0 t164).bind fun bt167 => (some (bt167.1, bt167.2)))) else ((spec_order.f k l0_1 l1_1).bind fun t171 => (if t171 ≥ 0 then ((spec_less.f k l0_1 l1_1).bind fun t172 => ((spec_Of.f k a0_0 t172).bind fun bt175 => (some (bt175.1, bt175.2)))) else ((spec_less.f k l1_1 l0_1).bind fun t179 => ((spec_Of.f k a1_0 t179).bind fun bt182 => (some (bt182.1, bt182.2))))))
theorem spec_Int_Add.mono : ∀ a0 a1 a2 a3 k, LeO (spec_Int_Add.f k a0 a1 a2 a3) (spec_Int_Add.f (k + 1) a0 a1 a2 a3) := by
  intro a0 a1 a2 a3 k
  unfold spec_Int_Add.f
  repeat' first
      | (with_reducible exact spec_Of.mono _ _ _)
      | (with_reducible exact spec_less.mono _ _ _)
      | (with_reducible exact spec_order.mono _ _ _)
      | (with_reducible exact spec_sum.mono _ _ _)
      | (with_reducible exact LeO.refl _)
      | (with_reducible exact LeO.none _)
      | (with_reducible refine LeO.ite ?_ ?_)
      | (with_reducible refine LeO.bind ?_ (fun _ => ?_))
      | exact spec_Of.mono _ _ _
      | exact spec_less.mono _ _ _
      | exact spec_order.mono _ _ _
      | exact spec_sum.mono _ _ _
      | exact LeO.none _
      | refine LeO.ite ?_ ?_
      | refine LeO.bind ?_ (fun _ => ?_)
def spec_Int_Add.T2 : Bool × List (List Nat × List Nat) := (true, [([], []), ([0], [0]), ([], []), ([2], [2]), ([], []), ([4], [4]), ([3, 5], [3, 5]), ([1, 6, 6], [1, 6]), ([7, 7, 0, 1, 2, 3, 4, 5, 6, 7], [7])])
def spec_Int_Add.B2 : List Nat := [0, 1, 0, 4, 0, 16, 60, 127, 255]
theorem spec_Int_Add.tab2 : rtab .any (opsOf Tryz.f40 2) = spec_Int_Add.T2 := by kernel_rfl
theorem spec_Int_Add.bits2 : waitsOk spec_Int_Add.T2.2 spec_Int_Add.B2 = true := by kernel_rfl
def spec_Int_Add.T4 : Bool × List (List Nat × List Nat) := (true, [([], []), ([0], [0]), ([], []), ([2], [2]), ([], []), ([4], [4]), ([3, 5], [3, 5]), ([1, 6, 6], [1, 6]), ([7, 7, 0, 1, 2, 3, 4, 5, 6, 7], [7])])
def spec_Int_Add.B4 : List Nat := [0, 1, 0, 4, 0, 16, 60, 127, 255]
theorem spec_Int_Add.tab4 : rtab .any (opsOf Tryz.f40 4) = spec_Int_Add.T4 := by kernel_rfl
theorem spec_Int_Add.bits4 : waitsOk spec_Int_Add.T4.2 spec_Int_Add.B4 = true := by kernel_rfl
def spec_Int_Add.T5 : Bool × List (List Nat × List Nat) := (true, [([], []), ([0], [0]), ([], []), ([2], [2]), ([], []), ([4], [4]), ([3, 5], [3, 5]), ([1, 6, 6], [1, 6]), ([7, 7, 0, 1, 2, 3, 4, 5, 6, 7], [7])])
def spec_Int_Add.B5 : List Nat := [0, 1, 0, 4, 0, 16, 60, 127, 255]
theorem spec_Int_Add.tab5 : rtab .any (opsOf Tryz.f40 5) = spec_Int_Add.T5 := by kernel_rfl
theorem spec_Int_Add.bits5 : waitsOk spec_Int_Add.T5.2 spec_Int_Add.B5 = true := by kernel_rfl
set_option maxHeartbeats 8000000 in
set_option maxRecDepth 100000 in
theorem spec_Int_Add.calls (k : Nat) (a0_0 : Bool) (A0_1 : Option Addr) (c0_1 : Nat) (l0_1 : List Int) (a1_0 : Bool) (A1_1 : Option Addr) (c1_1 : Nat) (l1_1 : List Int) (r1 : Bool) (r2 : List Int) (w : World) (hr0_1 : Kd.C (Kd.int .u8) w A0_1 l0_1.length l0_1) (hc0_1 : l0_1.length ≤ c0_1) (hr1_1 : Kd.C (Kd.int .u8) w A1_1 l1_1.length l1_1) (hc1_1 : l1_1.length ≤ c1_1) (h : spec_Int_Add.f k a0_0 l0_1 a1_0 l1_1 = some (r1, r2)) :
    Calls Tryz.prog 40 #[.agg #[.bool a0_0, .slice A0_1 l0_1.length c0_1], .agg #[.bool a1_0, .slice A1_1 l1_1.length c1_1]] w fun e w' => ∃ v1_ : Value, e = .returned (.agg #[.bool r1, v1_]) ∧ Kd.R (Kd.int .u8) 5 w' w.heap.size (fun _ => True) v1_ r2 ∧ Below w.heap.size w w' := by
  have hu31 := Tryz.underlying31
  have HR0_1 := As.mk hr0_1
  have HC0_1 := As.mk hc0_1
  clear hr0_1 hc0_1
  have HR1_1 := As.mk hr1_1
  have HC1_1 := As.mk hc1_1
  clear hr1_1 hc1_1
  have HB := As.mk (Below.refl w.heap.size w)
  have H : (if (a0_0 == a1_0) = true then ((spec_sum.f k l0_1 l1_1).bind fun t164 => ((spec_Of.f k a0_0 t164).bind fun bt167 => (some (bt167.1, bt167.2)))) else ((spec_order.f k l0_1 l1_1).bind fun t171 => (if t171 ≥ 0 then ((spec_less.f k l0_1 l1_1).bind fun t172 => ((spec_Of.f k a0_0 t172).bind fun bt175 => (some (bt175.1, bt175.2)))) else ((spec_less.f k l1_1 l0_1).bind fun t179 => ((spec_Of.f k a1_0 t179).bind fun bt182 => (some (bt182.1, bt182.2))))))) = some (r1, r2) := h
  clear h
  by_cases c3 : (a0_0 == a1_0) = true
  · rw [if_pos c3] at H
    have c3b0 : (a0_0 == a1_0) = true := c3
    (try (have c3b1 : decide (a0_0 = a1_0) = true := by simpa using c3))
    (try (have c3b2 : (a0_0 == a1_0) = true := by simpa using c3))
    clear c3
    replace H := Option.bind_eq_some_iff.mp H
    obtain ⟨t164, A40, H⟩ := H
    replace H : ((spec_Of.f k a0_0 t164).bind fun bt167 => (some (bt167.1, bt167.2))) = some (r1, r2) := H
    have A4 := As.mk A40
    clear A40
    replace H := Option.bind_eq_some_iff.mp H
    obtain ⟨⟨t167, t168⟩, A50, H⟩ := H
    replace H : (some (t167, t168)) = some (r1, r2) := H
    have A5 := As.mk A50
    clear A50
    simp only [Option.some.injEq, Prod.mk.injEq] at H
    obtain ⟨rfl, rfl⟩ := H
    go_enter Tryz.func40, Tryz.ntmps40
    try go_wp2_with (first | ((with_reducible refine gate_dst (N := 2) rfl ?_); refine box_event ?hg (N := 2) ?hd (cs := #[.bool a0_0, .slice A0_1 l0_1.length c0_1]) (t := 31) ?hr ?_; (case hd => rfl); (case hg => rfl); (case hr => first | (go_simp; done) | (go_simp; rfl)); intro gb161 hg w6 hbox hb; have n0_ := As.mk (bsp (by repeat (first | (with_reducible first | exact HB.out | apply bal | apply pwn | apply bdw) | exact HB.out)) hb); have n1_ := As.mk (hbox); have n2_ := As.mk ((by rw [hg]; exact (bsz (by repeat (first | (with_reducible first | exact HB.out | apply bal | apply pwn | apply bdw) | exact HB.out))) : w.heap.size ≤ gb161)); have n3_ := As.mk ((by rw [hg]; exact (bsz (by repeat (first | (with_reducible first | exact HB.out | apply bal | apply pwn | apply bdw) | exact HB.out))) : w.heap.size ≤ gb161)); clear HB; have HB := n0_; have BK161 := n1_; have GW161 := n2_; have GE161 := n3_; clear n0_ n1_ n2_ n3_; clear hb hbox hg) | ((with_reducible refine gate_dst (N := 3) rfl ?_); refine box_event ?hg (N := 3) ?hd (cs := #[.bool a1_0, .slice A1_1 l1_1.length c1_1]) (t := 31) ?hr ?_; (case hd => rfl); (case hg => rfl); (case hr => first | (go_simp; done) | (go_simp; rfl)); intro gb162 hg w7 hbox hb; have n0_ := As.mk (kbw (g := gb161) (o := .cells #[.bool a0_0, .slice A0_1 l0_1.length c0_1] 31 (0, 0)) (by (with_reducible repeat (first | refine kdn ?_ _ | refine kdr ?_ | refine kal ?_ _)); exact BK161.out) hb); have n1_ := As.mk (bsp (by repeat (first | (with_reducible first | exact HB.out | apply bal | apply pwn | apply bdw | refine bst ?_ GE161.out) | exact HB.out)) hb); have n2_ := As.mk (hbox); have n3_ := As.mk ((by rw [hg]; exact (bsz (by repeat (first | (with_reducible first | exact HB.out | apply bal | apply pwn | apply bdw | refine bst ?_ GE161.out) | exact HB.out))) : w.heap.size ≤ gb162)); have n4_ := As.mk ((by rw [hg]; exact (bsz (by repeat (first | (with_reducible first | exact HB.out | apply bal | apply pwn | apply bdw | refine bst ?_ GE161.out) | exact HB.out))) : w.heap.size ≤ gb162)); have n5_ := As.mk ((by rw [hg]; exact Nat.ne_of_lt (blk_lt (g := gb161) (o := .cells #[.bool a0_0, .slice A0_1 l0_1.length c0_1] 31 (0, 0)) (by (with_reducible repeat (first | refine kdn ?_ _ | refine kdr ?_ | refine kal ?_ _)); exact BK161.out)) : gb161 ≠ gb162)); have n6_ := As.mk ((by rw [hg]; exact Nat.ne_of_gt (blk_lt (g := gb161) (o := .cells #[.bool a0_0, .slice A0_1 l0_1.length c0_1] 31 (0, 0)) (by (with_reducible repeat (first | refine kdn ?_ _ | refine kdr ?_ | refine kal ?_ _)); exact BK161.out)) : gb162 ≠ gb161)); clear BK161; clear HB; have BK161 := n0_; have HB := n1_; have BK162 := n2_; have GW162 := n3_; have GE162 := n4_; have NB161_162 := n5_; have NB162_161 := n6_; clear n0_ n1_ n2_ n3_ n4_ n5_ n6_; clear hb hbox hg) | ((with_reducible refine gate_dst (N := 4) rfl ?_); refine box_event ?hg (N := 4) ?hd (cs := #[.bool false, .slice none 0 0]) (t := 31) ?hr ?_; (case hd => rfl); (case hg => rfl); (case hr => first | (go_simp; done) | (go_simp; rfl)); intro gb163 hg w8 hbox hb; have n0_ := As.mk (kbw (g := gb161) (o := .cells #[.bool a0_0, .slice A0_1 l0_1.length c0_1] 31 (0, 0)) (by (with_reducible repeat (first | refine kdn ?_ _ | refine kdr ?_ | refine kal ?_ _)); exact BK161.out) hb); have n1_ := As.mk (kbw (g := gb162) (o := .cells #[.bool a1_0, .slice A1_1 l1_1.length c1_1] 31 (0, 0)) (by (with_reducible repeat (first | refine kdn ?_ _ | refine kdr ?_ | refine kal ?_ _)); exact BK162.out) hb); have n2_ := As.mk (bsp (by repeat (first | (with_reducible first | exact HB.out | apply bal | apply pwn | apply bdw | refine bst ?_ GE161.out | refine bst ?_ GE162.out) | exact HB.out)) hb); have n3_ := As.mk (hbox); have n4_ := As.mk ((by rw [hg]; exact (bsz (by repeat (first | (with_reducible first | exact HB.out | apply bal | apply pwn | apply bdw | refine bst ?_ GE161.out | refine bst ?_ GE162.out) | exact HB.out))) : w.heap.size ≤ gb163)); have n5_ := As.mk ((by rw [hg]; exact (bsz (by repeat (first | (with_reducible first | exact HB.out | apply bal | apply pwn | apply bdw | refine bst ?_ GE161.out | refine bst ?_ GE162.out) | exact HB.out))) : w.heap.size ≤ gb163)); have n6_ := As.mk ((by rw [hg]; exact Nat.ne_of_lt (blk_lt (g := gb161) (o := .cells #[.bool a0_0, .slice A0_1 l0_1.length c0_1] 31 (0, 0)) (by (with_reducible repeat (first | refine kdn ?_ _ | refine kdr ?_ | refine kal ?_ _)); exact BK161.out)) : gb161 ≠ gb163)); have n7_ := As.mk ((by rw [hg]; exact Nat.ne_of_gt (blk_lt (g := gb161) (o := .cells #[.bool a0_0, .slice A0_1 l0_1.length c0_1] 31 (0, 0)) (by (with_reducible repeat (first | refine kdn ?_ _ | refine kdr ?_ | refine kal ?_ _)); exact BK161.out)) : gb163 ≠ gb161)); have n8_ := As.mk ((by rw [hg]; exact Nat.ne_of_lt (blk_lt (g := gb162) (o := .cells #[.bool a1_0, .slice A1_1 l1_1.length c1_1] 31 (0, 0)) (by (with_reducible repeat (first | refine kdn ?_ _ | refine kdr ?_ | refine kal ?_ _)); exact BK162.out)) : gb162 ≠ gb163)); have n9_ := As.mk ((by rw [hg]; exact Nat.ne_of_gt (blk_lt (g := gb162) (o := .cells #[.bool a1_0, .slice A1_1 l1_1.length c1_1] 31 (0, 0)) (by (with_reducible repeat (first | refine kdn ?_ _ | refine kdr ?_ | refine kal ?_ _)); exact BK162.out)) : gb163 ≠ gb162)); clear BK161; clear BK162; clear HB; have BK161 := n0_; have BK162 := n1_; have HB := n2_; have BK163 := n3_; have GW163 := n4_; have GE163 := n5_; have NB161_163 := n6_; have NB163_161 := n7_; have NB162_163 := n8_; have NB163_162 := n9_; clear n0_ n1_ n2_ n3_ n4_ n5_ n6_ n7_ n8_ n9_; clear hb hbox hg; have hnb9 := NB161_162.out; have hnc9 := NB162_161.out; have hnb10 := NB161_163.out; have hnc10 := NB163_161.out; have hcz11_0 : w8.cell? ⟨gb161, 0, none⟩ = some (.bool a0_0) := (kcl BK161.out 0).trans rfl; have hcz11_1 : w8.cell? ⟨gb161, 1, none⟩ = some (.slice A0_1 l0_1.length c0_1) := (kcl BK161.out 1).trans rfl; have hfz11_0 := kfz BK161.out 0; have hfz11_1 := kfz BK161.out 1; have hnb12 := NB162_163.out; have hnc12 := NB163_162.out; have hcz13_0 : w8.cell? ⟨gb162, 0, none⟩ = some (.bool a1_0) := (kcl BK162.out 0).trans rfl; have hcz13_1 : w8.cell? ⟨gb162, 1, none⟩ = some (.slice A1_1 l1_1.length c1_1) := (kcl BK162.out 1).trans rfl; have hfz13_0 := kfz BK162.out 0; have hfz13_1 := kfz BK162.out 1))
    have n0_ := As.mk (kdr BK161.out)
    have n1_ := As.mk (kdr BK162.out)
    have n2_ := As.mk (kdr BK163.out)
    have n3_ := As.mk (bdw HB.out)
    clear BK161
    clear BK162
    clear BK163
    clear HB
    have BK161 := n0_
    have BK162 := n1_
    have BK163 := n2_
    have HB := n3_
    clear n0_ n1_ n2_ n3_
    refine start_ (n := 9) (S := fun w' => w'.cell? ⟨gb161, 0, none⟩ = some (.bool a0_0) ∧ w'.cell? ⟨gb161, 1, none⟩ = some (.slice A0_1 l0_1.length c0_1) ∧ w'.cell? ⟨gb162, 0, none⟩ = some (.bool a1_0) ∧ w'.cell? ⟨gb162, 1, none⟩ = some (.slice A1_1 l1_1.length c1_1)) (ds := []) #[false, false, false, false, false, false, false, false, false] (by kernel_rfl) rfl rfl ⟨(kcl BK161.out 0).trans rfl, (kcl BK161.out 1).trans rfl, (kcl BK162.out 0).trans rfl, (kcl BK162.out 1).trans rfl⟩ (fun hHeld => ?_); refine with_tabW spec_Int_Add.tab2 spec_Int_Add.bits2 (fun HT_ HW_ => ?_)
    generalize w8.drew = w14 at BK161 BK162 BK163 HB hHeld ⊢
    refine pure_ (i := 0) (N := some 10) (v := ?_) (a' := ?_) #[true, false, false, false, false, false, false, false, false] rfl rfl (any_of HT_.out (by kernel_rfl)) (fun _ _ _ h => h) (Or.inl ⟨by rfl, ?_⟩) ?_ ?_
    rotate_left
    · intro w'
      go_simp
      with_reducible rfl
    rotate_left
    · simp only [Act.put, List.setIfInBounds_toArray, List.set_cons_zero, List.set_cons_succ, i64_w, i32_w]
      rfl
    refine pure_ (i := 2) (N := some 12) (v := ?_) (a' := ?_) #[true, false, true, false, false, false, false, false, false] rfl rfl (any_of HT_.out (by kernel_rfl)) (fun _ _ _ h => h) (Or.inl ⟨by rfl, ?_⟩) ?_ ?_
    rotate_left
    · intro w'
      go_simp
      with_reducible rfl
    rotate_left
    · simp only [Act.put, List.setIfInBounds_toArray, List.set_cons_zero, List.set_cons_succ, i64_w, i32_w]
      rfl
    refine pure_ (i := 4) (N := some 14) (v := ?_) (a' := ?_) #[true, false, true, false, true, false, false, false, false] rfl rfl (any_of HT_.out (by kernel_rfl)) (fun _ _ _ h => h) (Or.inl ⟨by rfl, ?_⟩) ?_ ?_
    rotate_left
    · intro w'
      go_simp
      with_reducible rfl
    rotate_left
    · simp only [Act.put, List.setIfInBounds_toArray, List.set_cons_zero, List.set_cons_succ, i64_w, i32_w]
      rfl
    refine take_ (i := 1) (N := some 11) (v := ?_) (a' := ?_) #[true, true, true, false, true, false, false, false, false] rfl rfl (take_ofW HT_.out HW_.out (by kernel_rfl)) (fun _ _ _ h => h) (Or.inl ⟨by rfl, ?_⟩) hHeld ?_ ?_
    rotate_left
    · rintro w' ⟨s0, s1, s2, s3⟩
      go_simp
      with_reducible rfl
    rotate_left
    · simp only [Act.put, List.setIfInBounds_toArray, List.set_cons_zero, List.set_cons_succ, i64_w, i32_w]
      rfl
    refine take_ (i := 3) (N := some 13) (v := ?_) (a' := ?_) #[true, true, true, true, true, false, false, false, false] rfl rfl (take_ofW HT_.out HW_.out (by kernel_rfl)) (fun _ _ _ h => h) (Or.inl ⟨by rfl, ?_⟩) hHeld ?_ ?_
    rotate_left
    · rintro w' ⟨s0, s1, s2, s3⟩
      go_simp
      with_reducible rfl
    rotate_left
    · simp only [Act.put, List.setIfInBounds_toArray, List.set_cons_zero, List.set_cons_succ, i64_w, i32_w]
      rfl
    refine take_ (i := 5) (N := some 15) (v := ?_) (a' := ?_) #[true, true, true, true, true, true, false, false, false] rfl rfl (take_ofW HT_.out HW_.out (by kernel_rfl)) (fun _ _ _ h => h) (Or.inl ⟨by rfl, ?_⟩) hHeld ?_ ?_
    rotate_left
    · rintro w' ⟨s0, s1, s2, s3⟩
      go_simp
      with_reducible rfl
    rotate_left
    · simp only [Act.put, List.setIfInBounds_toArray, List.set_cons_zero, List.set_cons_succ, i64_w, i32_w]
      rfl
    refine one_ (i := 6) (N := some 16) #[true, true, true, true, true, true, true, false, false] rfl rfl (one_of HT_.out (by kernel_rfl)) (by decide) (fun K hK => ?_)
    refine goes_ Tryz.func60 (by kernel_rfl) rfl #[.slice A0_1 l0_1.length c0_1, .slice A1_1 l1_1.length c1_1] (by rfl) rfl rfl (by (try simp only [List.map_toArray, List.map_cons, List.map_nil]); first | done | rfl | (simp only [List.length_drop, List.length_take]; rfl)) ?_
    with_reducible refine (spec_sum.calls k _ _ l0_1 _ _ l1_1 t164 _ ?side1 ?side2 ?side3 ?side4 A4.out).mono ?_
    (case side1 => repeat (first | exact (Kd.C_below HR0_1.out HB.out) | (with_reducible refine Kd.C_alloc ?_ _) | (with_reducible refine Kd.C_drewN ?_ _) | (with_reducible refine Kd.C_drew ?_)))
    (case side2 => exact HC0_1.out)
    (case side3 => repeat (first | exact (Kd.C_below HR1_1.out HB.out) | (with_reducible refine Kd.C_alloc ?_ _) | (with_reducible refine Kd.C_drewN ?_ _) | (with_reducible refine Kd.C_drew ?_)))
    (case side4 => exact HC1_1.out)
    rintro e w15 ⟨v165, rfl, ho0, hb⟩
    refine ⟨_, rfl, ?_⟩
    have n0_ := As.mk (Kd.R_lower ho0 (bsz (by repeat (first | (with_reducible first | exact HB.out | apply bal | apply pwn | apply bdw | refine bst ?_ GE161.out | refine bst ?_ GE162.out | refine bst ?_ GE163.out) | exact HB.out))))
    have n1_ := As.mk (kbw (g := gb161) (o := .cells #[.bool a0_0, .slice A0_1 l0_1.length c0_1] 31 (0, 0)) (by (with_reducible repeat (first | refine kdn ?_ _ | refine kdr ?_ | refine kal ?_ _)); exact BK161.out) hb)
    have n2_ := As.mk (kbw (g := gb162) (o := .cells #[.bool a1_0, .slice A1_1 l1_1.length c1_1] 31 (0, 0)) (by (with_reducible repeat (first | refine kdn ?_ _ | refine kdr ?_ | refine kal ?_ _)); exact BK162.out) hb)
    have n3_ := As.mk (kbw (g := gb163) (o := .cells #[.bool false, .slice none 0 0] 31 (0, 0)) (by (with_reducible repeat (first | refine kdn ?_ _ | refine kdr ?_ | refine kal ?_ _)); exact BK163.out) hb)
    have n4_ := As.mk (bsp (by repeat (first | (with_reducible first | exact HB.out | apply bal | apply pwn | apply bdw | refine bst ?_ GE161.out | refine bst ?_ GE162.out | refine bst ?_ GE163.out) | exact HB.out)) hb)
    clear BK161
    clear BK162
    clear BK163
    clear HB
    have HO166 := n0_
    have BK161 := n1_
    have BK162 := n2_
    have BK163 := n3_
    have HB := n4_
    clear n0_ n1_ n2_ n3_ n4_
    (try clear hb)
    (try clear hb2)
    (try clear hk)
    (try clear hi)
    (try clear ho0)
    obtain ⟨Ao16, co16, eo16⟩ := Kd.R_slice HO166.out
    (first | subst eo16 | (injection eo16 with f1_ f2_ f3_; have f4_ := f1_.symm; have f5_ := f3_.symm; clear f1_ f2_ f3_; subst f4_; subst f5_))
    refine hK.out _ _ ⟨(kcl BK161.out 0).trans rfl, (kcl BK161.out 1).trans rfl, (kcl BK162.out 0).trans rfl, (kcl BK162.out 1).trans rfl⟩ (fun hHeld => ?_)
    clear hK K
    refine norm_ (a' := ?_) ?_ ?_
    rotate_left
    · show Act.put _ (some 16) _ = _
      simp only [Act.put, List.setIfInBounds_toArray, List.set_cons_zero, List.set_cons_succ, i64_w, i32_w]
      rfl
    refine one_ (i := 7) (N := some 17) #[true, true, true, true, true, true, true, true, false] rfl rfl (one_of HT_.out (by kernel_rfl)) (by decide) (fun K hK => ?_)
    refine goes_ Tryz.func6 (by kernel_rfl) rfl #[.bool a0_0, .slice Ao16 t164.length co16] (by rfl) rfl rfl (by (try simp only [List.map_toArray, List.map_cons, List.map_nil]); first | done | rfl | (simp only [List.length_drop, List.length_take]; rfl)) ?_
    with_reducible refine (spec_Of.calls k a0_0 _ _ t164 t167 t168 _ ?side1 ?side2 A5.out).mono ?_
    (case side1 => repeat (first | exact (Kd.R_reads' HO166.out).2.2 | (with_reducible refine Kd.C_alloc ?_ _) | (with_reducible refine Kd.C_drewN ?_ _) | (with_reducible refine Kd.C_drew ?_)))
    (case side2 => exact (Kd.R_reads' HO166.out).2.1)
    rintro e w17 ⟨v169, rfl, ho0, hb⟩
    refine ⟨_, rfl, ?_⟩
    have n0_ := As.mk (Kd.R_elder' (by (with_reducible repeat (first | apply Kd.R_alloc | apply Kd.R_drewN | apply Kd.R_drew)); exact HO166.out) (Kd.R_base ho0) hb)
    have n1_ := As.mk (Kd.R_lower (Kd.R_new' ho0 (Kd.R_lt (by (with_reducible repeat (first | apply Kd.R_alloc | apply Kd.R_drewN | apply Kd.R_drew)); exact HO166.out))) (bsz (by repeat (first | (with_reducible first | exact HB.out | apply bal | apply pwn | apply bdw | refine bst ?_ GE161.out | refine bst ?_ GE162.out | refine bst ?_ GE163.out) | exact HB.out))))
    have n2_ := As.mk (kbw (g := gb161) (o := .cells #[.bool a0_0, .slice A0_1 l0_1.length c0_1] 31 (0, 0)) (by (with_reducible repeat (first | refine kdn ?_ _ | refine kdr ?_ | refine kal ?_ _)); exact BK161.out) hb)
    have n3_ := As.mk (kbw (g := gb162) (o := .cells #[.bool a1_0, .slice A1_1 l1_1.length c1_1] 31 (0, 0)) (by (with_reducible repeat (first | refine kdn ?_ _ | refine kdr ?_ | refine kal ?_ _)); exact BK162.out) hb)
    have n4_ := As.mk (kbw (g := gb163) (o := .cells #[.bool false, .slice none 0 0] 31 (0, 0)) (by (with_reducible repeat (first | refine kdn ?_ _ | refine kdr ?_ | refine kal ?_ _)); exact BK163.out) hb)
    have n5_ := As.mk (bsp (by repeat (first | (with_reducible first | exact HB.out | apply bal | apply pwn | apply bdw | refine bst ?_ GE161.out | refine bst ?_ GE162.out | refine bst ?_ GE163.out) | exact HB.out)) hb)
    clear HO166
    clear BK161
    clear BK162
    clear BK163
    clear HB
    have HO166 := n0_
    have HO170 := n1_
    have BK161 := n2_
    have BK162 := n3_
    have BK163 := n4_
    have HB := n5_
    clear n0_ n1_ n2_ n3_ n4_ n5_
    (try clear hb)
    (try clear hb2)
    (try clear hk)
    (try clear hi)
    (try clear ho0)
    obtain ⟨Ao19, co19, eo19⟩ := Kd.R_slice HO170.out
    (first | subst eo19 | (injection eo19 with f1_ f2_ f3_; have f4_ := f1_.symm; have f5_ := f3_.symm; clear f1_ f2_ f3_; subst f4_; subst f5_))
    refine hK.out _ _ ⟨(kcl BK161.out 0).trans rfl, (kcl BK161.out 1).trans rfl, (kcl BK162.out 0).trans rfl, (kcl BK162.out 1).trans rfl⟩ (fun hHeld => ?_)
    clear hK K
    refine norm_ (a' := ?_) ?_ ?_
    rotate_left
    · show Act.put _ (some 17) _ = _
      simp only [Act.put, List.setIfInBounds_toArray, List.set_cons_zero, List.set_cons_succ, i64_w, i32_w]
      rfl
    refine one_ (i := 8) (N := none) #[true, true, true, true, true, true, true, true, true] rfl rfl (one_of HT_.out (by kernel_rfl)) (by decide) (fun K hK => ?_)
    have hs18 : w17.cell? ⟨gb163, 0, none⟩ = some (.bool false) := (kcl BK163.out 0).trans rfl
    have hfs18 := kfz BK163.out 0
    have hns18_0 := NB161_163.out
    have hns18_1 := NB162_163.out
    have hms18_0 := NB163_161.out
    have hms18_1 := NB163_162.out
    have hs20 : w17.cell? ⟨gb163, 1, none⟩ = some (.slice none 0 0) := (kcl BK163.out 1).trans rfl
    have hfs20 := kfz BK163.out 1
    have hns20_0 := NB161_163.out
    have hns20_1 := NB162_163.out
    have hms20_0 := NB163_161.out
    have hms20_1 := NB163_162.out
    refine skip_ (w1 := ?_) (by rfl) rfl ?_ ?_
    rotate_left
    · go_simp
      rfl
    refine hK.out _ _ ⟨((cell_far (p := ⟨gb163, _, none⟩) NB161_163.out _).trans (((cell_far (p := ⟨gb163, _, none⟩) NB161_163.out _).trans (hHeld.1)))), ((cell_far (p := ⟨gb163, _, none⟩) NB161_163.out _).trans (((cell_far (p := ⟨gb163, _, none⟩) NB161_163.out _).trans (hHeld.2.1)))), ((cell_far (p := ⟨gb163, _, none⟩) NB162_163.out _).trans (((cell_far (p := ⟨gb163, _, none⟩) NB162_163.out _).trans (hHeld.2.2.1)))), ((cell_far (p := ⟨gb163, _, none⟩) NB162_163.out _).trans (((cell_far (p := ⟨gb163, _, none⟩) NB162_163.out _).trans (hHeld.2.2.2))))⟩ (fun hHeld => ?_)
    clear hK K
    refine done_ (done_of HT_.out (by kernel_rfl)) ?_
    try go_wp2
    refine bodyPost_ret (results_cell_row rfl _ _ gb163 31 #[.bool t167, .slice Ao19 t168.length co19] (0, 0) _ rfl (by (with_reducible repeat (first | refine kdn ?_ _ | refine kdr ?_ | refine kal ?_ _)); refine blk_put (cs := #[.bool t167, .slice none 0 0]) ?_ 1 _ rfl; (with_reducible repeat (first | refine kdn ?_ _ | refine kdr ?_ | refine kal ?_ _)); refine blk_put (cs := #[.bool false, .slice none 0 0]) ?_ 0 _ rfl; (with_reducible repeat (first | refine kdn ?_ _ | refine kdr ?_ | refine kal ?_ _)); exact BK163.out) Tryz.underlying31 rfl (by kernel_rfl)) rfl ?_
    exact ⟨_, by first | rfl | (simp [errW_none, errW_some] <;> rfl) | (simp [*, errW_none, errW_some] <;> rfl), by (with_reducible repeat (first | apply Kd.R_alloc | apply Kd.R_drewN | apply Kd.R_drew)); exact Kd.R_mono (Kd.R_far (p := ⟨gb163, 1, none⟩) (Kd.R_far (p := ⟨gb163, 0, none⟩) (Kd.R_types HO170.out BK163.out (by decide)) (fun _ hk => hk.2) (.bool t167)) (fun _ hk => hk.2) (.slice Ao19 t168.length co19)) (fun _ hk => trivial), by repeat (first | (with_reducible first | exact HB.out | apply bal | apply pwn | apply bdw | refine bst ?_ GE161.out | refine bst ?_ GE162.out | refine bst ?_ GE163.out) | exact HB.out)⟩
  · rw [if_neg c3] at H
    have c3b0 : (a0_0 == a1_0) = false := by simpa using c3
    (try (have c3b1 : decide (a0_0 = a1_0) = false := by simpa using c3))
    (try (have c3b2 : (a0_0 == a1_0) = false := by simpa using c3))
    (try (have c3b3 : ¬ (a0_0 = a1_0) := by simpa using c3))
    clear c3
    replace H := Option.bind_eq_some_iff.mp H
    obtain ⟨t171, A210, H⟩ := H
    replace H : (if t171 ≥ 0 then ((spec_less.f k l0_1 l1_1).bind fun t172 => ((spec_Of.f k a0_0 t172).bind fun bt175 => (some (bt175.1, bt175.2)))) else ((spec_less.f k l1_1 l0_1).bind fun t179 => ((spec_Of.f k a1_0 t179).bind fun bt182 => (some (bt182.1, bt182.2))))) = some (r1, r2) := H
    have A21 := As.mk A210
    clear A210
    by_cases c22 : t171 ≥ 0
    · rw [if_pos c22] at H
      have c22b0 : decide (0 ≤ t171) = true := decide_eq_true c22
      clear c22
      replace H := Option.bind_eq_some_iff.mp H
      obtain ⟨t172, A230, H⟩ := H
      replace H : ((spec_Of.f k a0_0 t172).bind fun bt175 => (some (bt175.1, bt175.2))) = some (r1, r2) := H
      have A23 := As.mk A230
      clear A230
      replace H := Option.bind_eq_some_iff.mp H
      obtain ⟨⟨t175, t176⟩, A240, H⟩ := H
      replace H : (some (t175, t176)) = some (r1, r2) := H
      have A24 := As.mk A240
      clear A240
      simp only [Option.some.injEq, Prod.mk.injEq] at H
      obtain ⟨rfl, rfl⟩ := H
      go_enter Tryz.func40, Tryz.ntmps40
      try go_wp2_with (first | ((with_reducible refine gate_dst (N := 2) rfl ?_); refine box_event ?hg (N := 2) ?hd (cs := #[.bool a0_0, .slice A0_1 l0_1.length c0_1]) (t := 31) ?hr ?_; (case hd => rfl); (case hg => rfl); (case hr => first | (go_simp; done) | (go_simp; rfl)); intro gb161 hg w25 hbox hb; have n0_ := As.mk (bsp (by repeat (first | (with_reducible first | exact HB.out | apply bal | apply pwn | apply bdw) | exact HB.out)) hb); have n1_ := As.mk (hbox); have n2_ := As.mk ((by rw [hg]; exact (bsz (by repeat (first | (with_reducible first | exact HB.out | apply bal | apply pwn | apply bdw) | exact HB.out))) : w.heap.size ≤ gb161)); have n3_ := As.mk ((by rw [hg]; exact (bsz (by repeat (first | (with_reducible first | exact HB.out | apply bal | apply pwn | apply bdw) | exact HB.out))) : w.heap.size ≤ gb161)); clear HB; have HB := n0_; have BK161 := n1_; have GW161 := n2_; have GE161 := n3_; clear n0_ n1_ n2_ n3_; clear hb hbox hg) | ((with_reducible refine gate_dst (N := 3) rfl ?_); refine box_event ?hg (N := 3) ?hd (cs := #[.bool a1_0, .slice A1_1 l1_1.length c1_1]) (t := 31) ?hr ?_; (case hd => rfl); (case hg => rfl); (case hr => first | (go_simp; done) | (go_simp; rfl)); intro gb162 hg w26 hbox hb; have n0_ := As.mk (kbw (g := gb161) (o := .cells #[.bool a0_0, .slice A0_1 l0_1.length c0_1] 31 (0, 0)) (by (with_reducible repeat (first | refine kdn ?_ _ | refine kdr ?_ | refine kal ?_ _)); exact BK161.out) hb); have n1_ := As.mk (bsp (by repeat (first | (with_reducible first | exact HB.out | apply bal | apply pwn | apply bdw | refine bst ?_ GE161.out) | exact HB.out)) hb); have n2_ := As.mk (hbox); have n3_ := As.mk ((by rw [hg]; exact (bsz (by repeat (first | (with_reducible first | exact HB.out | apply bal | apply pwn | apply bdw | refine bst ?_ GE161.out) | exact HB.out))) : w.heap.size ≤ gb162)); have n4_ := As.mk ((by rw [hg]; exact (bsz (by repeat (first | (with_reducible first | exact HB.out | apply bal | apply pwn | apply bdw | refine bst ?_ GE161.out) | exact HB.out))) : w.heap.size ≤ gb162)); have n5_ := As.mk ((by rw [hg]; exact Nat.ne_of_lt (blk_lt (g := gb161) (o := .cells #[.bool a0_0, .slice A0_1 l0_1.length c0_1] 31 (0, 0)) (by (with_reducible repeat (first | refine kdn ?_ _ | refine kdr ?_ | refine kal ?_ _)); exact BK161.out)) : gb161 ≠ gb162)); have n6_ := As.mk ((by rw [hg]; exact Nat.ne_of_gt (blk_lt (g := gb161) (o := .cells #[.bool a0_0, .slice A0_1 l0_1.length c0_1] 31 (0, 0)) (by (with_reducible repeat (first | refine kdn ?_ _ | refine kdr ?_ | refine kal ?_ _)); exact BK161.out)) : gb162 ≠ gb161)); clear BK161; clear HB; have BK161 := n0_; have HB := n1_; have BK162 := n2_; have GW162 := n3_; have GE162 := n4_; have NB161_162 := n5_; have NB162_161 := n6_; clear n0_ n1_ n2_ n3_ n4_ n5_ n6_; clear hb hbox hg) | ((with_reducible refine gate_dst (N := 4) rfl ?_); refine box_event ?hg (N := 4) ?hd (cs := #[.bool false, .slice none 0 0]) (t := 31) ?hr ?_; (case hd => rfl); (case hg => rfl); (case hr => first | (go_simp; done) | (go_simp; rfl)); intro gb163 hg w27 hbox hb; have n0_ := As.mk (kbw (g := gb161) (o := .cells #[.bool a0_0, .slice A0_1 l0_1.length c0_1] 31 (0, 0)) (by (with_reducible repeat (first | refine kdn ?_ _ | refine kdr ?_ | refine kal ?_ _)); exact BK161.out) hb); have n1_ := As.mk (kbw (g := gb162) (o := .cells #[.bool a1_0, .slice A1_1 l1_1.length c1_1] 31 (0, 0)) (by (with_reducible repeat (first | refine kdn ?_ _ | refine kdr ?_ | refine kal ?_ _)); exact BK162.out) hb); have n2_ := As.mk (bsp (by repeat (first | (with_reducible first | exact HB.out | apply bal | apply pwn | apply bdw | refine bst ?_ GE161.out | refine bst ?_ GE162.out) | exact HB.out)) hb); have n3_ := As.mk (hbox); have n4_ := As.mk ((by rw [hg]; exact (bsz (by repeat (first | (with_reducible first | exact HB.out | apply bal | apply pwn | apply bdw | refine bst ?_ GE161.out | refine bst ?_ GE162.out) | exact HB.out))) : w.heap.size ≤ gb163)); have n5_ := As.mk ((by rw [hg]; exact (bsz (by repeat (first | (with_reducible first | exact HB.out | apply bal | apply pwn | apply bdw | refine bst ?_ GE161.out | refine bst ?_ GE162.out) | exact HB.out))) : w.heap.size ≤ gb163)); have n6_ := As.mk ((by rw [hg]; exact Nat.ne_of_lt (blk_lt (g := gb161) (o := .cells #[.bool a0_0, .slice A0_1 l0_1.length c0_1] 31 (0, 0)) (by (with_reducible repeat (first | refine kdn ?_ _ | refine kdr ?_ | refine kal ?_ _)); exact BK161.out)) : gb161 ≠ gb163)); have n7_ := As.mk ((by rw [hg]; exact Nat.ne_of_gt (blk_lt (g := gb161) (o := .cells #[.bool a0_0, .slice A0_1 l0_1.length c0_1] 31 (0, 0)) (by (with_reducible repeat (first | refine kdn ?_ _ | refine kdr ?_ | refine kal ?_ _)); exact BK161.out)) : gb163 ≠ gb161)); have n8_ := As.mk ((by rw [hg]; exact Nat.ne_of_lt (blk_lt (g := gb162) (o := .cells #[.bool a1_0, .slice A1_1 l1_1.length c1_1] 31 (0, 0)) (by (with_reducible repeat (first | refine kdn ?_ _ | refine kdr ?_ | refine kal ?_ _)); exact BK162.out)) : gb162 ≠ gb163)); have n9_ := As.mk ((by rw [hg]; exact Nat.ne_of_gt (blk_lt (g := gb162) (o := .cells #[.bool a1_0, .slice A1_1 l1_1.length c1_1] 31 (0, 0)) (by (with_reducible repeat (first | refine kdn ?_ _ | refine kdr ?_ | refine kal ?_ _)); exact BK162.out)) : gb163 ≠ gb162)); clear BK161; clear BK162; clear HB; have BK161 := n0_; have BK162 := n1_; have HB := n2_; have BK163 := n3_; have GW163 := n4_; have GE163 := n5_; have NB161_163 := n6_; have NB163_161 := n7_; have NB162_163 := n8_; have NB163_162 := n9_; clear n0_ n1_ n2_ n3_ n4_ n5_ n6_ n7_ n8_ n9_; clear hb hbox hg; have hnb28 := NB161_162.out; have hnc28 := NB162_161.out; have hnb29 := NB161_163.out; have hnc29 := NB163_161.out; have hcz30_0 : w27.cell? ⟨gb161, 0, none⟩ = some (.bool a0_0) := (kcl BK161.out 0).trans rfl; have hcz30_1 : w27.cell? ⟨gb161, 1, none⟩ = some (.slice A0_1 l0_1.length c0_1) := (kcl BK161.out 1).trans rfl; have hfz30_0 := kfz BK161.out 0; have hfz30_1 := kfz BK161.out 1; have hnb31 := NB162_163.out; have hnc31 := NB163_162.out; have hcz32_0 : w27.cell? ⟨gb162, 0, none⟩ = some (.bool a1_0) := (kcl BK162.out 0).trans rfl; have hcz32_1 : w27.cell? ⟨gb162, 1, none⟩ = some (.slice A1_1 l1_1.length c1_1) := (kcl BK162.out 1).trans rfl; have hfz32_0 := kfz BK162.out 0; have hfz32_1 := kfz BK162.out 1) | ((with_reducible refine gate_callee (f := 52) rfl ?_); refine goesL_ (some 22) rfl rfl Tryz.func52 (by kernel_rfl) rfl #[.slice A0_1 l0_1.length c0_1, .slice A1_1 l1_1.length c1_1] rfl (by (try simp only [List.map_toArray, List.map_cons, List.map_nil]); first | done | rfl | (simp only [List.length_drop, List.length_take]; rfl)) ?_; (with_reducible refine (spec_order.calls k _ _ l0_1 _ _ l1_1 t171 _ ?side1 ?side2 ?side3 ?side4 A21.out).mono ?_); (case side1 => repeat (first | exact (Kd.C_below HR0_1.out HB.out) | (with_reducible refine Kd.C_alloc ?_ _) | (with_reducible refine Kd.C_drewN ?_ _) | (with_reducible refine Kd.C_drew ?_))); (case side2 => exact HC0_1.out); (case side3 => repeat (first | exact (Kd.C_below HR1_1.out HB.out) | (with_reducible refine Kd.C_alloc ?_ _) | (with_reducible refine Kd.C_drewN ?_ _) | (with_reducible refine Kd.C_drew ?_))); (case side4 => exact HC1_1.out); rintro e w' ⟨rfl, ⟨nd, rfl⟩⟩; refine ⟨_, rfl, ?_⟩; (try (rw [drewN_self w27]; generalize hq_ : World.drewN w27 _ = w27; have n0_ : As (w27.heap[gb161]? = some (.cells #[.bool a0_0, .slice A0_1 l0_1.length c0_1] 31 (0, 0))) := ⟨by rw [← hq_]; exact (by (with_reducible repeat (first | refine kdn ?_ _ | refine kdr ?_ | refine kal ?_ _)); exact BK161.out)⟩; have n1_ : As (w27.heap[gb162]? = some (.cells #[.bool a1_0, .slice A1_1 l1_1.length c1_1] 31 (0, 0))) := ⟨by rw [← hq_]; exact (by (with_reducible repeat (first | refine kdn ?_ _ | refine kdr ?_ | refine kal ?_ _)); exact BK162.out)⟩; have n2_ : As (w27.heap[gb163]? = some (.cells #[.bool false, .slice none 0 0] 31 (0, 0))) := ⟨by rw [← hq_]; exact (by (with_reducible repeat (first | refine kdn ?_ _ | refine kdr ?_ | refine kal ?_ _)); exact BK163.out)⟩; have n3_ : As (Below w.heap.size w w27) := ⟨by rw [← hq_]; exact (by repeat (first | (with_reducible first | exact HB.out | apply bal | apply pwn | apply bdw | refine bst ?_ GE161.out | refine bst ?_ GE162.out | refine bst ?_ GE163.out) | exact HB.out))⟩; clear BK161 BK162 BK163 HB hq_; have BK161 := n0_; have BK162 := n1_; have BK163 := n2_; have HB := n3_; clear n0_ n1_ n2_ n3_))))
      have n0_ := As.mk (kdr BK161.out)
      have n1_ := As.mk (kdr BK162.out)
      have n2_ := As.mk (kdr BK163.out)
      have n3_ := As.mk (bdw HB.out)
      clear BK161
      clear BK162
      clear BK163
      clear HB
      have BK161 := n0_
      have BK162 := n1_
      have BK163 := n2_
      have HB := n3_
      clear n0_ n1_ n2_ n3_
      refine start_ (n := 9) (S := fun w' => w'.cell? ⟨gb161, 0, none⟩ = some (.bool a0_0) ∧ w'.cell? ⟨gb161, 1, none⟩ = some (.slice A0_1 l0_1.length c0_1) ∧ w'.cell? ⟨gb162, 0, none⟩ = some (.bool a1_0) ∧ w'.cell? ⟨gb162, 1, none⟩ = some (.slice A1_1 l1_1.length c1_1)) (ds := []) #[false, false, false, false, false, false, false, false, false] (by kernel_rfl) rfl rfl ⟨(kcl BK161.out 0).trans rfl, (kcl BK161.out 1).trans rfl, (kcl BK162.out 0).trans rfl, (kcl BK162.out 1).trans rfl⟩ (fun hHeld => ?_); refine with_tabW spec_Int_Add.tab4 spec_Int_Add.bits4 (fun HT_ HW_ => ?_)
      generalize w27.drew = w33 at BK161 BK162 BK163 HB hHeld ⊢
      refine pure_ (i := 0) (N := some 24) (v := ?_) (a' := ?_) #[true, false, false, false, false, false, false, false, false] rfl rfl (any_of HT_.out (by kernel_rfl)) (fun _ _ _ h => h) (Or.inl ⟨by rfl, ?_⟩) ?_ ?_
      rotate_left
      · intro w'
        go_simp
        with_reducible rfl
      rotate_left
      · simp only [Act.put, List.setIfInBounds_toArray, List.set_cons_zero, List.set_cons_succ, i64_w, i32_w]
        rfl
      refine pure_ (i := 2) (N := some 26) (v := ?_) (a' := ?_) #[true, false, true, false, false, false, false, false, false] rfl rfl (any_of HT_.out (by kernel_rfl)) (fun _ _ _ h => h) (Or.inl ⟨by rfl, ?_⟩) ?_ ?_
      rotate_left
      · intro w'
        go_simp
        with_reducible rfl
      rotate_left
      · simp only [Act.put, List.setIfInBounds_toArray, List.set_cons_zero, List.set_cons_succ, i64_w, i32_w]
        rfl
      refine pure_ (i := 4) (N := some 28) (v := ?_) (a' := ?_) #[true, false, true, false, true, false, false, false, false] rfl rfl (any_of HT_.out (by kernel_rfl)) (fun _ _ _ h => h) (Or.inl ⟨by rfl, ?_⟩) ?_ ?_
      rotate_left
      · intro w'
        go_simp
        with_reducible rfl
      rotate_left
      · simp only [Act.put, List.setIfInBounds_toArray, List.set_cons_zero, List.set_cons_succ, i64_w, i32_w]
        rfl
      refine take_ (i := 1) (N := some 25) (v := ?_) (a' := ?_) #[true, true, true, false, true, false, false, false, false] rfl rfl (take_ofW HT_.out HW_.out (by kernel_rfl)) (fun _ _ _ h => h) (Or.inl ⟨by rfl, ?_⟩) hHeld ?_ ?_
      rotate_left
      · rintro w' ⟨s0, s1, s2, s3⟩
        go_simp
        with_reducible rfl
      rotate_left
      · simp only [Act.put, List.setIfInBounds_toArray, List.set_cons_zero, List.set_cons_succ, i64_w, i32_w]
        rfl
      refine take_ (i := 3) (N := some 27) (v := ?_) (a' := ?_) #[true, true, true, true, true, false, false, false, false] rfl rfl (take_ofW HT_.out HW_.out (by kernel_rfl)) (fun _ _ _ h => h) (Or.inl ⟨by rfl, ?_⟩) hHeld ?_ ?_
      rotate_left
      · rintro w' ⟨s0, s1, s2, s3⟩
        go_simp
        with_reducible rfl
      rotate_left
      · simp only [Act.put, List.setIfInBounds_toArray, List.set_cons_zero, List.set_cons_succ, i64_w, i32_w]
        rfl
      refine take_ (i := 5) (N := some 29) (v := ?_) (a' := ?_) #[true, true, true, true, true, true, false, false, false] rfl rfl (take_ofW HT_.out HW_.out (by kernel_rfl)) (fun _ _ _ h => h) (Or.inl ⟨by rfl, ?_⟩) hHeld ?_ ?_
      rotate_left
      · rintro w' ⟨s0, s1, s2, s3⟩
        go_simp
        with_reducible rfl
      rotate_left
      · simp only [Act.put, List.setIfInBounds_toArray, List.set_cons_zero, List.set_cons_succ, i64_w, i32_w]
        rfl
      refine one_ (i := 6) (N := some 30) #[true, true, true, true, true, true, true, false, false] rfl rfl (one_of HT_.out (by kernel_rfl)) (by decide) (fun K hK => ?_)
      refine goes_ Tryz.func61 (by kernel_rfl) rfl #[.slice A0_1 l0_1.length c0_1, .slice A1_1 l1_1.length c1_1] (by rfl) rfl rfl (by (try simp only [List.map_toArray, List.map_cons, List.map_nil]); first | done | rfl | (simp only [List.length_drop, List.length_take]; rfl)) ?_
      with_reducible refine (spec_less.calls k _ _ l0_1 _ _ l1_1 t172 _ ?side1 ?side2 ?side3 ?side4 A23.out).mono ?_
      (case side1 => repeat (first | exact (Kd.C_below HR0_1.out HB.out) | (with_reducible refine Kd.C_alloc ?_ _) | (with_reducible refine Kd.C_drewN ?_ _) | (with_reducible refine Kd.C_drew ?_)))
      (case side2 => exact HC0_1.out)
      (case side3 => repeat (first | exact (Kd.C_below HR1_1.out HB.out) | (with_reducible refine Kd.C_alloc ?_ _) | (with_reducible refine Kd.C_drewN ?_ _) | (with_reducible refine Kd.C_drew ?_)))
      (case side4 => exact HC1_1.out)
      rintro e w34 ⟨v173, rfl, ho0, hb⟩
      refine ⟨_, rfl, ?_⟩
      have n0_ := As.mk (Kd.R_lower ho0 (bsz (by repeat (first | (with_reducible first | exact HB.out | apply bal | apply pwn | apply bdw | refine bst ?_ GE161.out | refine bst ?_ GE162.out | refine bst ?_ GE163.out) | exact HB.out))))
      have n1_ := As.mk (kbw (g := gb161) (o := .cells #[.bool a0_0, .slice A0_1 l0_1.length c0_1] 31 (0, 0)) (by (with_reducible repeat (first | refine kdn ?_ _ | refine kdr ?_ | refine kal ?_ _)); exact BK161.out) hb)
      have n2_ := As.mk (kbw (g := gb162) (o := .cells #[.bool a1_0, .slice A1_1 l1_1.length c1_1] 31 (0, 0)) (by (with_reducible repeat (first | refine kdn ?_ _ | refine kdr ?_ | refine kal ?_ _)); exact BK162.out) hb)
      have n3_ := As.mk (kbw (g := gb163) (o := .cells #[.bool false, .slice none 0 0] 31 (0, 0)) (by (with_reducible repeat (first | refine kdn ?_ _ | refine kdr ?_ | refine kal ?_ _)); exact BK163.out) hb)
      have n4_ := As.mk (bsp (by repeat (first | (with_reducible first | exact HB.out | apply bal | apply pwn | apply bdw | refine bst ?_ GE161.out | refine bst ?_ GE162.out | refine bst ?_ GE163.out) | exact HB.out)) hb)
      clear BK161
      clear BK162
      clear BK163
      clear HB
      have HO174 := n0_
      have BK161 := n1_
      have BK162 := n2_
      have BK163 := n3_
      have HB := n4_
      clear n0_ n1_ n2_ n3_ n4_
      (try clear hb)
      (try clear hb2)
      (try clear hk)
      (try clear hi)
      (try clear ho0)
      obtain ⟨Ao35, co35, eo35⟩ := Kd.R_slice HO174.out
      (first | subst eo35 | (injection eo35 with f1_ f2_ f3_; have f4_ := f1_.symm; have f5_ := f3_.symm; clear f1_ f2_ f3_; subst f4_; subst f5_))
      refine hK.out _ _ ⟨(kcl BK161.out 0).trans rfl, (kcl BK161.out 1).trans rfl, (kcl BK162.out 0).trans rfl, (kcl BK162.out 1).trans rfl⟩ (fun hHeld => ?_)
      clear hK K
      refine norm_ (a' := ?_) ?_ ?_
      rotate_left
      · show Act.put _ (some 30) _ = _
        simp only [Act.put, List.setIfInBounds_toArray, List.set_cons_zero, List.set_cons_succ, i64_w, i32_w]
        rfl
      refine one_ (i := 7) (N := some 31) #[true, true, true, true, true, true, true, true, false] rfl rfl (one_of HT_.out (by kernel_rfl)) (by decide) (fun K hK => ?_)
      refine goes_ Tryz.func6 (by kernel_rfl) rfl #[.bool a0_0, .slice Ao35 t172.length co35] (by rfl) rfl rfl (by (try simp only [List.map_toArray, List.map_cons, List.map_nil]); first | done | rfl | (simp only [List.length_drop, List.length_take]; rfl)) ?_
      with_reducible refine (spec_Of.calls k a0_0 _ _ t172 t175 t176 _ ?side1 ?side2 A24.out).mono ?_
      (case side1 => repeat (first | exact (Kd.R_reads' HO174.out).2.2 | (with_reducible refine Kd.C_alloc ?_ _) | (with_reducible refine Kd.C_drewN ?_ _) | (with_reducible refine Kd.C_drew ?_)))
      (case side2 => exact (Kd.R_reads' HO174.out).2.1)
      rintro e w36 ⟨v177, rfl, ho0, hb⟩
      refine ⟨_, rfl, ?_⟩
      have n0_ := As.mk (Kd.R_elder' (by (with_reducible repeat (first | apply Kd.R_alloc | apply Kd.R_drewN | apply Kd.R_drew)); exact HO174.out) (Kd.R_base ho0) hb)
      have n1_ := As.mk (Kd.R_lower (Kd.R_new' ho0 (Kd.R_lt (by (with_reducible repeat (first | apply Kd.R_alloc | apply Kd.R_drewN | apply Kd.R_drew)); exact HO174.out))) (bsz (by repeat (first | (with_reducible first | exact HB.out | apply bal | apply pwn | apply bdw | refine bst ?_ GE161.out | refine bst ?_ GE162.out | refine bst ?_ GE163.out) | exact HB.out))))
      have n2_ := As.mk (kbw (g := gb161) (o := .cells #[.bool a0_0, .slice A0_1 l0_1.length c0_1] 31 (0, 0)) (by (with_reducible repeat (first | refine kdn ?_ _ | refine kdr ?_ | refine kal ?_ _)); exact BK161.out) hb)
      have n3_ := As.mk (kbw (g := gb162) (o := .cells #[.bool a1_0, .slice A1_1 l1_1.length c1_1] 31 (0, 0)) (by (with_reducible repeat (first | refine kdn ?_ _ | refine kdr ?_ | refine kal ?_ _)); exact BK162.out) hb)
      have n4_ := As.mk (kbw (g := gb163) (o := .cells #[.bool false, .slice none 0 0] 31 (0, 0)) (by (with_reducible repeat (first | refine kdn ?_ _ | refine kdr ?_ | refine kal ?_ _)); exact BK163.out) hb)
      have n5_ := As.mk (bsp (by repeat (first | (with_reducible first | exact HB.out | apply bal | apply pwn | apply bdw | refine bst ?_ GE161.out | refine bst ?_ GE162.out | refine bst ?_ GE163.out) | exact HB.out)) hb)
      clear HO174
      clear BK161
      clear BK162
      clear BK163
      clear HB
      have HO174 := n0_
      have HO178 := n1_
      have BK161 := n2_
      have BK162 := n3_
      have BK163 := n4_
      have HB := n5_
      clear n0_ n1_ n2_ n3_ n4_ n5_
      (try clear hb)
      (try clear hb2)
      (try clear hk)
      (try clear hi)
      (try clear ho0)
      obtain ⟨Ao38, co38, eo38⟩ := Kd.R_slice HO178.out
      (first | subst eo38 | (injection eo38 with f1_ f2_ f3_; have f4_ := f1_.symm; have f5_ := f3_.symm; clear f1_ f2_ f3_; subst f4_; subst f5_))
      refine hK.out _ _ ⟨(kcl BK161.out 0).trans rfl, (kcl BK161.out 1).trans rfl, (kcl BK162.out 0).trans rfl, (kcl BK162.out 1).trans rfl⟩ (fun hHeld => ?_)
      clear hK K
      refine norm_ (a' := ?_) ?_ ?_
      rotate_left
      · show Act.put _ (some 31) _ = _
        simp only [Act.put, List.setIfInBounds_toArray, List.set_cons_zero, List.set_cons_succ, i64_w, i32_w]
        rfl
      refine one_ (i := 8) (N := none) #[true, true, true, true, true, true, true, true, true] rfl rfl (one_of HT_.out (by kernel_rfl)) (by decide) (fun K hK => ?_)
      have hs37 : w36.cell? ⟨gb163, 0, none⟩ = some (.bool false) := (kcl BK163.out 0).trans rfl
      have hfs37 := kfz BK163.out 0
      have hns37_0 := NB161_163.out
      have hns37_1 := NB162_163.out
      have hms37_0 := NB163_161.out
      have hms37_1 := NB163_162.out
      have hs39 : w36.cell? ⟨gb163, 1, none⟩ = some (.slice none 0 0) := (kcl BK163.out 1).trans rfl
      have hfs39 := kfz BK163.out 1
      have hns39_0 := NB161_163.out
      have hns39_1 := NB162_163.out
      have hms39_0 := NB163_161.out
      have hms39_1 := NB163_162.out
      refine skip_ (w1 := ?_) (by rfl) rfl ?_ ?_
      rotate_left
      · go_simp
        rfl
      refine hK.out _ _ ⟨((cell_far (p := ⟨gb163, _, none⟩) NB161_163.out _).trans (((cell_far (p := ⟨gb163, _, none⟩) NB161_163.out _).trans (hHeld.1)))), ((cell_far (p := ⟨gb163, _, none⟩) NB161_163.out _).trans (((cell_far (p := ⟨gb163, _, none⟩) NB161_163.out _).trans (hHeld.2.1)))), ((cell_far (p := ⟨gb163, _, none⟩) NB162_163.out _).trans (((cell_far (p := ⟨gb163, _, none⟩) NB162_163.out _).trans (hHeld.2.2.1)))), ((cell_far (p := ⟨gb163, _, none⟩) NB162_163.out _).trans (((cell_far (p := ⟨gb163, _, none⟩) NB162_163.out _).trans (hHeld.2.2.2))))⟩ (fun hHeld => ?_)
      clear hK K
      refine done_ (done_of HT_.out (by kernel_rfl)) ?_
      try go_wp2
      refine bodyPost_ret (results_cell_row rfl _ _ gb163 31 #[.bool t175, .slice Ao38 t176.length co38] (0, 0) _ rfl (by (with_reducible repeat (first | refine kdn ?_ _ | refine kdr ?_ | refine kal ?_ _)); refine blk_put (cs := #[.bool t175, .slice none 0 0]) ?_ 1 _ rfl; (with_reducible repeat (first | refine kdn ?_ _ | refine kdr ?_ | refine kal ?_ _)); refine blk_put (cs := #[.bool false, .slice none 0 0]) ?_ 0 _ rfl; (with_reducible repeat (first | refine kdn ?_ _ | refine kdr ?_ | refine kal ?_ _)); exact BK163.out) Tryz.underlying31 rfl (by kernel_rfl)) rfl ?_
      exact ⟨_, by first | rfl | (simp [errW_none, errW_some] <;> rfl) | (simp [*, errW_none, errW_some] <;> rfl), by (with_reducible repeat (first | apply Kd.R_alloc | apply Kd.R_drewN | apply Kd.R_drew)); exact Kd.R_mono (Kd.R_far (p := ⟨gb163, 1, none⟩) (Kd.R_far (p := ⟨gb163, 0, none⟩) (Kd.R_types HO178.out BK163.out (by decide)) (fun _ hk => hk.2) (.bool t175)) (fun _ hk => hk.2) (.slice Ao38 t176.length co38)) (fun _ hk => trivial), by repeat (first | (with_reducible first | exact HB.out | apply bal | apply pwn | apply bdw | refine bst ?_ GE161.out | refine bst ?_ GE162.out | refine bst ?_ GE163.out) | exact HB.out)⟩
    · rw [if_neg c22] at H
      have c22b0 : decide (0 ≤ t171) = false := decide_eq_false c22
      clear c22
      replace H := Option.bind_eq_some_iff.mp H
      obtain ⟨t179, A400, H⟩ := H
      replace H : ((spec_Of.f k a1_0 t179).bind fun bt182 => (some (bt182.1, bt182.2))) = some (r1, r2) := H
      have A40 := As.mk A400
      clear A400
      replace H := Option.bind_eq_some_iff.mp H
      obtain ⟨⟨t182, t183⟩, A410, H⟩ := H
      replace H : (some (t182, t183)) = some (r1, r2) := H
      have A41 := As.mk A410
      clear A410
      simp only [Option.some.injEq, Prod.mk.injEq] at H
      obtain ⟨rfl, rfl⟩ := H
      go_enter Tryz.func40, Tryz.ntmps40
      try go_wp2_with (first | ((with_reducible refine gate_dst (N := 2) rfl ?_); refine box_event ?hg (N := 2) ?hd (cs := #[.bool a0_0, .slice A0_1 l0_1.length c0_1]) (t := 31) ?hr ?_; (case hd => rfl); (case hg => rfl); (case hr => first | (go_simp; done) | (go_simp; rfl)); intro gb161 hg w42 hbox hb; have n0_ := As.mk (bsp (by repeat (first | (with_reducible first | exact HB.out | apply bal | apply pwn | apply bdw) | exact HB.out)) hb); have n1_ := As.mk (hbox); have n2_ := As.mk ((by rw [hg]; exact (bsz (by repeat (first | (with_reducible first | exact HB.out | apply bal | apply pwn | apply bdw) | exact HB.out))) : w.heap.size ≤ gb161)); have n3_ := As.mk ((by rw [hg]; exact (bsz (by repeat (first | (with_reducible first | exact HB.out | apply bal | apply pwn | apply bdw) | exact HB.out))) : w.heap.size ≤ gb161)); clear HB; have HB := n0_; have BK161 := n1_; have GW161 := n2_; have GE161 := n3_; clear n0_ n1_ n2_ n3_; clear hb hbox hg) | ((with_reducible refine gate_dst (N := 3) rfl ?_); refine box_event ?hg (N := 3) ?hd (cs := #[.bool a1_0, .slice A1_1 l1_1.length c1_1]) (t := 31) ?hr ?_; (case hd => rfl); (case hg => rfl); (case hr => first | (go_simp; done) | (go_simp; rfl)); intro gb162 hg w43 hbox hb; have n0_ := As.mk (kbw (g := gb161) (o := .cells #[.bool a0_0, .slice A0_1 l0_1.length c0_1] 31 (0, 0)) (by (with_reducible repeat (first | refine kdn ?_ _ | refine kdr ?_ | refine kal ?_ _)); exact BK161.out) hb); have n1_ := As.mk (bsp (by repeat (first | (with_reducible first | exact HB.out | apply bal | apply pwn | apply bdw | refine bst ?_ GE161.out) | exact HB.out)) hb); have n2_ := As.mk (hbox); have n3_ := As.mk ((by rw [hg]; exact (bsz (by repeat (first | (with_reducible first | exact HB.out | apply bal | apply pwn | apply bdw | refine bst ?_ GE161.out) | exact HB.out))) : w.heap.size ≤ gb162)); have n4_ := As.mk ((by rw [hg]; exact (bsz (by repeat (first | (with_reducible first | exact HB.out | apply bal | apply pwn | apply bdw | refine bst ?_ GE161.out) | exact HB.out))) : w.heap.size ≤ gb162)); have n5_ := As.mk ((by rw [hg]; exact Nat.ne_of_lt (blk_lt (g := gb161) (o := .cells #[.bool a0_0, .slice A0_1 l0_1.length c0_1] 31 (0, 0)) (by (with_reducible repeat (first | refine kdn ?_ _ | refine kdr ?_ | refine kal ?_ _)); exact BK161.out)) : gb161 ≠ gb162)); have n6_ := As.mk ((by rw [hg]; exact Nat.ne_of_gt (blk_lt (g := gb161) (o := .cells #[.bool a0_0, .slice A0_1 l0_1.length c0_1] 31 (0, 0)) (by (with_reducible repeat (first | refine kdn ?_ _ | refine kdr ?_ | refine kal ?_ _)); exact BK161.out)) : gb162 ≠ gb161)); clear BK161; clear HB; have BK161 := n0_; have HB := n1_; have BK162 := n2_; have GW162 := n3_; have GE162 := n4_; have NB161_162 := n5_; have NB162_161 := n6_; clear n0_ n1_ n2_ n3_ n4_ n5_ n6_; clear hb hbox hg) | ((with_reducible refine gate_dst (N := 4) rfl ?_); refine box_event ?hg (N := 4) ?hd (cs := #[.bool false, .slice none 0 0]) (t := 31) ?hr ?_; (case hd => rfl); (case hg => rfl); (case hr => first | (go_simp; done) | (go_simp; rfl)); intro gb163 hg w44 hbox hb; have n0_ := As.mk (kbw (g := gb161) (o := .cells #[.bool a0_0, .slice A0_1 l0_1.length c0_1] 31 (0, 0)) (by (with_reducible repeat (first | refine kdn ?_ _ | refine kdr ?_ | refine kal ?_ _)); exact BK161.out) hb); have n1_ := As.mk (kbw (g := gb162) (o := .cells #[.bool a1_0, .slice A1_1 l1_1.length c1_1] 31 (0, 0)) (by (with_reducible repeat (first | refine kdn ?_ _ | refine kdr ?_ | refine kal ?_ _)); exact BK162.out) hb); have n2_ := As.mk (bsp (by repeat (first | (with_reducible first | exact HB.out | apply bal | apply pwn | apply bdw | refine bst ?_ GE161.out | refine bst ?_ GE162.out) | exact HB.out)) hb); have n3_ := As.mk (hbox); have n4_ := As.mk ((by rw [hg]; exact (bsz (by repeat (first | (with_reducible first | exact HB.out | apply bal | apply pwn | apply bdw | refine bst ?_ GE161.out | refine bst ?_ GE162.out) | exact HB.out))) : w.heap.size ≤ gb163)); have n5_ := As.mk ((by rw [hg]; exact (bsz (by repeat (first | (with_reducible first | exact HB.out | apply bal | apply pwn | apply bdw | refine bst ?_ GE161.out | refine bst ?_ GE162.out) | exact HB.out))) : w.heap.size ≤ gb163)); have n6_ := As.mk ((by rw [hg]; exact Nat.ne_of_lt (blk_lt (g := gb161) (o := .cells #[.bool a0_0, .slice A0_1 l0_1.length c0_1] 31 (0, 0)) (by (with_reducible repeat (first | refine kdn ?_ _ | refine kdr ?_ | refine kal ?_ _)); exact BK161.out)) : gb161 ≠ gb163)); have n7_ := As.mk ((by rw [hg]; exact Nat.ne_of_gt (blk_lt (g := gb161) (o := .cells #[.bool a0_0, .slice A0_1 l0_1.length c0_1] 31 (0, 0)) (by (with_reducible repeat (first | refine kdn ?_ _ | refine kdr ?_ | refine kal ?_ _)); exact BK161.out)) : gb163 ≠ gb161)); have n8_ := As.mk ((by rw [hg]; exact Nat.ne_of_lt (blk_lt (g := gb162) (o := .cells #[.bool a1_0, .slice A1_1 l1_1.length c1_1] 31 (0, 0)) (by (with_reducible repeat (first | refine kdn ?_ _ | refine kdr ?_ | refine kal ?_ _)); exact BK162.out)) : gb162 ≠ gb163)); have n9_ := As.mk ((by rw [hg]; exact Nat.ne_of_gt (blk_lt (g := gb162) (o := .cells #[.bool a1_0, .slice A1_1 l1_1.length c1_1] 31 (0, 0)) (by (with_reducible repeat (first | refine kdn ?_ _ | refine kdr ?_ | refine kal ?_ _)); exact BK162.out)) : gb163 ≠ gb162)); clear BK161; clear BK162; clear HB; have BK161 := n0_; have BK162 := n1_; have HB := n2_; have BK163 := n3_; have GW163 := n4_; have GE163 := n5_; have NB161_163 := n6_; have NB163_161 := n7_; have NB162_163 := n8_; have NB163_162 := n9_; clear n0_ n1_ n2_ n3_ n4_ n5_ n6_ n7_ n8_ n9_; clear hb hbox hg; have hnb45 := NB161_162.out; have hnc45 := NB162_161.out; have hnb46 := NB161_163.out; have hnc46 := NB163_161.out; have hcz47_0 : w44.cell? ⟨gb161, 0, none⟩ = some (.bool a0_0) := (kcl BK161.out 0).trans rfl; have hcz47_1 : w44.cell? ⟨gb161, 1, none⟩ = some (.slice A0_1 l0_1.length c0_1) := (kcl BK161.out 1).trans rfl; have hfz47_0 := kfz BK161.out 0; have hfz47_1 := kfz BK161.out 1; have hnb48 := NB162_163.out; have hnc48 := NB163_162.out; have hcz49_0 : w44.cell? ⟨gb162, 0, none⟩ = some (.bool a1_0) := (kcl BK162.out 0).trans rfl; have hcz49_1 : w44.cell? ⟨gb162, 1, none⟩ = some (.slice A1_1 l1_1.length c1_1) := (kcl BK162.out 1).trans rfl; have hfz49_0 := kfz BK162.out 0; have hfz49_1 := kfz BK162.out 1) | ((with_reducible refine gate_callee (f := 52) rfl ?_); refine goesL_ (some 22) rfl rfl Tryz.func52 (by kernel_rfl) rfl #[.slice A0_1 l0_1.length c0_1, .slice A1_1 l1_1.length c1_1] rfl (by (try simp only [List.map_toArray, List.map_cons, List.map_nil]); first | done | rfl | (simp only [List.length_drop, List.length_take]; rfl)) ?_; (with_reducible refine (spec_order.calls k _ _ l0_1 _ _ l1_1 t171 _ ?side1 ?side2 ?side3 ?side4 A21.out).mono ?_); (case side1 => repeat (first | exact (Kd.C_below HR0_1.out HB.out) | (with_reducible refine Kd.C_alloc ?_ _) | (with_reducible refine Kd.C_drewN ?_ _) | (with_reducible refine Kd.C_drew ?_))); (case side2 => exact HC0_1.out); (case side3 => repeat (first | exact (Kd.C_below HR1_1.out HB.out) | (with_reducible refine Kd.C_alloc ?_ _) | (with_reducible refine Kd.C_drewN ?_ _) | (with_reducible refine Kd.C_drew ?_))); (case side4 => exact HC1_1.out); rintro e w' ⟨rfl, ⟨nd, rfl⟩⟩; refine ⟨_, rfl, ?_⟩; (try (rw [drewN_self w44]; generalize hq_ : World.drewN w44 _ = w44; have n0_ : As (w44.heap[gb161]? = some (.cells #[.bool a0_0, .slice A0_1 l0_1.length c0_1] 31 (0, 0))) := ⟨by rw [← hq_]; exact (by (with_reducible repeat (first | refine kdn ?_ _ | refine kdr ?_ | refine kal ?_ _)); exact BK161.out)⟩; have n1_ : As (w44.heap[gb162]? = some (.cells #[.bool a1_0, .slice A1_1 l1_1.length c1_1] 31 (0, 0))) := ⟨by rw [← hq_]; exact (by (with_reducible repeat (first | refine kdn ?_ _ | refine kdr ?_ | refine kal ?_ _)); exact BK162.out)⟩; have n2_ : As (w44.heap[gb163]? = some (.cells #[.bool false, .slice none 0 0] 31 (0, 0))) := ⟨by rw [← hq_]; exact (by (with_reducible repeat (first | refine kdn ?_ _ | refine kdr ?_ | refine kal ?_ _)); exact BK163.out)⟩; have n3_ : As (Below w.heap.size w w44) := ⟨by rw [← hq_]; exact (by repeat (first | (with_reducible first | exact HB.out | apply bal | apply pwn | apply bdw | refine bst ?_ GE161.out | refine bst ?_ GE162.out | refine bst ?_ GE163.out) | exact HB.out))⟩; clear BK161 BK162 BK163 HB hq_; have BK161 := n0_; have BK162 := n1_; have BK163 := n2_; have HB := n3_; clear n0_ n1_ n2_ n3_))))
      have n0_ := As.mk (kdr BK161.out)
      have n1_ := As.mk (kdr BK162.out)
      have n2_ := As.mk (kdr BK163.out)
      have n3_ := As.mk (bdw HB.out)
      clear BK161
      clear BK162
      clear BK163
      clear HB
      have BK161 := n0_
      have BK162 := n1_
      have BK163 := n2_
      have HB := n3_
      clear n0_ n1_ n2_ n3_
      refine start_ (n := 9) (S := fun w' => w'.cell? ⟨gb162, 0, none⟩ = some (.bool a1_0) ∧ w'.cell? ⟨gb162, 1, none⟩ = some (.slice A1_1 l1_1.length c1_1) ∧ w'.cell? ⟨gb161, 0, none⟩ = some (.bool a0_0) ∧ w'.cell? ⟨gb161, 1, none⟩ = some (.slice A0_1 l0_1.length c0_1)) (ds := []) #[false, false, false, false, false, false, false, false, false] (by kernel_rfl) rfl rfl ⟨(kcl BK162.out 0).trans rfl, (kcl BK162.out 1).trans rfl, (kcl BK161.out 0).trans rfl, (kcl BK161.out 1).trans rfl⟩ (fun hHeld => ?_); refine with_tabW spec_Int_Add.tab5 spec_Int_Add.bits5 (fun HT_ HW_ => ?_)
      generalize w44.drew = w50 at BK161 BK162 BK163 HB hHeld ⊢
      refine pure_ (i := 0) (N := some 32) (v := ?_) (a' := ?_) #[true, false, false, false, false, false, false, false, false] rfl rfl (any_of HT_.out (by kernel_rfl)) (fun _ _ _ h => h) (Or.inl ⟨by rfl, ?_⟩) ?_ ?_
      rotate_left
      · intro w'
        go_simp
        with_reducible rfl
      rotate_left
      · simp only [Act.put, List.setIfInBounds_toArray, List.set_cons_zero, List.set_cons_succ, i64_w, i32_w]
        rfl
      refine pure_ (i := 2) (N := some 34) (v := ?_) (a' := ?_) #[true, false, true, false, false, false, false, false, false] rfl rfl (any_of HT_.out (by kernel_rfl)) (fun _ _ _ h => h) (Or.inl ⟨by rfl, ?_⟩) ?_ ?_
      rotate_left
      · intro w'
        go_simp
        with_reducible rfl
      rotate_left
      · simp only [Act.put, List.setIfInBounds_toArray, List.set_cons_zero, List.set_cons_succ, i64_w, i32_w]
        rfl
      refine pure_ (i := 4) (N := some 36) (v := ?_) (a' := ?_) #[true, false, true, false, true, false, false, false, false] rfl rfl (any_of HT_.out (by kernel_rfl)) (fun _ _ _ h => h) (Or.inl ⟨by rfl, ?_⟩) ?_ ?_
      rotate_left
      · intro w'
        go_simp
        with_reducible rfl
      rotate_left
      · simp only [Act.put, List.setIfInBounds_toArray, List.set_cons_zero, List.set_cons_succ, i64_w, i32_w]
        rfl
      refine take_ (i := 1) (N := some 33) (v := ?_) (a' := ?_) #[true, true, true, false, true, false, false, false, false] rfl rfl (take_ofW HT_.out HW_.out (by kernel_rfl)) (fun _ _ _ h => h) (Or.inl ⟨by rfl, ?_⟩) hHeld ?_ ?_
      rotate_left
      · rintro w' ⟨s0, s1, s2, s3⟩
        go_simp
        with_reducible rfl
      rotate_left
      · simp only [Act.put, List.setIfInBounds_toArray, List.set_cons_zero, List.set_cons_succ, i64_w, i32_w]
        rfl
      refine take_ (i := 3) (N := some 35) (v := ?_) (a' := ?_) #[true, true, true, true, true, false, false, false, false] rfl rfl (take_ofW HT_.out HW_.out (by kernel_rfl)) (fun _ _ _ h => h) (Or.inl ⟨by rfl, ?_⟩) hHeld ?_ ?_
      rotate_left
      · rintro w' ⟨s0, s1, s2, s3⟩
        go_simp
        with_reducible rfl
      rotate_left
      · simp only [Act.put, List.setIfInBounds_toArray, List.set_cons_zero, List.set_cons_succ, i64_w, i32_w]
        rfl
      refine take_ (i := 5) (N := some 37) (v := ?_) (a' := ?_) #[true, true, true, true, true, true, false, false, false] rfl rfl (take_ofW HT_.out HW_.out (by kernel_rfl)) (fun _ _ _ h => h) (Or.inl ⟨by rfl, ?_⟩) hHeld ?_ ?_
      rotate_left
      · rintro w' ⟨s0, s1, s2, s3⟩
        go_simp
        with_reducible rfl
      rotate_left
      · simp only [Act.put, List.setIfInBounds_toArray, List.set_cons_zero, List.set_cons_succ, i64_w, i32_w]
        rfl
      refine one_ (i := 6) (N := some 38) #[true, true, true, true, true, true, true, false, false] rfl rfl (one_of HT_.out (by kernel_rfl)) (by decide) (fun K hK => ?_)
      refine goes_ Tryz.func61 (by kernel_rfl) rfl #[.slice A1_1 l1_1.length c1_1, .slice A0_1 l0_1.length c0_1] (by rfl) rfl rfl (by (try simp only [List.map_toArray, List.map_cons, List.map_nil]); first | done | rfl | (simp only [List.length_drop, List.length_take]; rfl)) ?_
      with_reducible refine (spec_less.calls k _ _ l1_1 _ _ l0_1 t179 _ ?side1 ?side2 ?side3 ?side4 A40.out).mono ?_
      (case side1 => repeat (first | exact (Kd.C_below HR1_1.out HB.out) | (with_reducible refine Kd.C_alloc ?_ _) | (with_reducible refine Kd.C_drewN ?_ _) | (with_reducible refine Kd.C_drew ?_)))
      (case side2 => exact HC1_1.out)
      (case side3 => repeat (first | exact (Kd.C_below HR0_1.out HB.out) | (with_reducible refine Kd.C_alloc ?_ _) | (with_reducible refine Kd.C_drewN ?_ _) | (with_reducible refine Kd.C_drew ?_)))
      (case side4 => exact HC0_1.out)
      rintro e w51 ⟨v180, rfl, ho0, hb⟩
      refine ⟨_, rfl, ?_⟩
      have n0_ := As.mk (Kd.R_lower ho0 (bsz (by repeat (first | (with_reducible first | exact HB.out | apply bal | apply pwn | apply bdw | refine bst ?_ GE161.out | refine bst ?_ GE162.out | refine bst ?_ GE163.out) | exact HB.out))))
      have n1_ := As.mk (kbw (g := gb161) (o := .cells #[.bool a0_0, .slice A0_1 l0_1.length c0_1] 31 (0, 0)) (by (with_reducible repeat (first | refine kdn ?_ _ | refine kdr ?_ | refine kal ?_ _)); exact BK161.out) hb)
      have n2_ := As.mk (kbw (g := gb162) (o := .cells #[.bool a1_0, .slice A1_1 l1_1.length c1_1] 31 (0, 0)) (by (with_reducible repeat (first | refine kdn ?_ _ | refine kdr ?_ | refine kal ?_ _)); exact BK162.out) hb)
      have n3_ := As.mk (kbw (g := gb163) (o := .cells #[.bool false, .slice none 0 0] 31 (0, 0)) (by (with_reducible repeat (first | refine kdn ?_ _ | refine kdr ?_ | refine kal ?_ _)); exact BK163.out) hb)
      have n4_ := As.mk (bsp (by repeat (first | (with_reducible first | exact HB.out | apply bal | apply pwn | apply bdw | refine bst ?_ GE161.out | refine bst ?_ GE162.out | refine bst ?_ GE163.out) | exact HB.out)) hb)
      clear BK161
      clear BK162
      clear BK163
      clear HB
      have HO181 := n0_
      have BK161 := n1_
      have BK162 := n2_
      have BK163 := n3_
      have HB := n4_
      clear n0_ n1_ n2_ n3_ n4_
      (try clear hb)
      (try clear hb2)
      (try clear hk)
      (try clear hi)
      (try clear ho0)
      obtain ⟨Ao52, co52, eo52⟩ := Kd.R_slice HO181.out
      (first | subst eo52 | (injection eo52 with f1_ f2_ f3_; have f4_ := f1_.symm; have f5_ := f3_.symm; clear f1_ f2_ f3_; subst f4_; subst f5_))
      refine hK.out _ _ ⟨(kcl BK162.out 0).trans rfl, (kcl BK162.out 1).trans rfl, (kcl BK161.out 0).trans rfl, (kcl BK161.out 1).trans rfl⟩ (fun hHeld => ?_)
      clear hK K
      refine norm_ (a' := ?_) ?_ ?_
      rotate_left
      · show Act.put _ (some 38) _ = _
        simp only [Act.put, List.setIfInBounds_toArray, List.set_cons_zero, List.set_cons_succ, i64_w, i32_w]
        rfl
      refine one_ (i := 7) (N := some 39) #[true, true, true, true, true, true, true, true, false] rfl rfl (one_of HT_.out (by kernel_rfl)) (by decide) (fun K hK => ?_)
      refine goes_ Tryz.func6 (by kernel_rfl) rfl #[.bool a1_0, .slice Ao52 t179.length co52] (by rfl) rfl rfl (by (try simp only [List.map_toArray, List.map_cons, List.map_nil]); first | done | rfl | (simp only [List.length_drop, List.length_take]; rfl)) ?_
      with_reducible refine (spec_Of.calls k a1_0 _ _ t179 t182 t183 _ ?side1 ?side2 A41.out).mono ?_
      (case side1 => repeat (first | exact (Kd.R_reads' HO181.out).2.2 | (with_reducible refine Kd.C_alloc ?_ _) | (with_reducible refine Kd.C_drewN ?_ _) | (with_reducible refine Kd.C_drew ?_)))
      (case side2 => exact (Kd.R_reads' HO181.out).2.1)
      rintro e w53 ⟨v184, rfl, ho0, hb⟩
      refine ⟨_, rfl, ?_⟩
      have n0_ := As.mk (Kd.R_elder' (by (with_reducible repeat (first | apply Kd.R_alloc | apply Kd.R_drewN | apply Kd.R_drew)); exact HO181.out) (Kd.R_base ho0) hb)
      have n1_ := As.mk (Kd.R_lower (Kd.R_new' ho0 (Kd.R_lt (by (with_reducible repeat (first | apply Kd.R_alloc | apply Kd.R_drewN | apply Kd.R_drew)); exact HO181.out))) (bsz (by repeat (first | (with_reducible first | exact HB.out | apply bal | apply pwn | apply bdw | refine bst ?_ GE161.out | refine bst ?_ GE162.out | refine bst ?_ GE163.out) | exact HB.out))))
      have n2_ := As.mk (kbw (g := gb161) (o := .cells #[.bool a0_0, .slice A0_1 l0_1.length c0_1] 31 (0, 0)) (by (with_reducible repeat (first | refine kdn ?_ _ | refine kdr ?_ | refine kal ?_ _)); exact BK161.out) hb)
      have n3_ := As.mk (kbw (g := gb162) (o := .cells #[.bool a1_0, .slice A1_1 l1_1.length c1_1] 31 (0, 0)) (by (with_reducible repeat (first | refine kdn ?_ _ | refine kdr ?_ | refine kal ?_ _)); exact BK162.out) hb)
      have n4_ := As.mk (kbw (g := gb163) (o := .cells #[.bool false, .slice none 0 0] 31 (0, 0)) (by (with_reducible repeat (first | refine kdn ?_ _ | refine kdr ?_ | refine kal ?_ _)); exact BK163.out) hb)
      have n5_ := As.mk (bsp (by repeat (first | (with_reducible first | exact HB.out | apply bal | apply pwn | apply bdw | refine bst ?_ GE161.out | refine bst ?_ GE162.out | refine bst ?_ GE163.out) | exact HB.out)) hb)
      clear HO181
      clear BK161
      clear BK162
      clear BK163
      clear HB
      have HO181 := n0_
      have HO185 := n1_
      have BK161 := n2_
      have BK162 := n3_
      have BK163 := n4_
      have HB := n5_
      clear n0_ n1_ n2_ n3_ n4_ n5_
      (try clear hb)
      (try clear hb2)
      (try clear hk)
      (try clear hi)
      (try clear ho0)
      obtain ⟨Ao55, co55, eo55⟩ := Kd.R_slice HO185.out
      (first | subst eo55 | (injection eo55 with f1_ f2_ f3_; have f4_ := f1_.symm; have f5_ := f3_.symm; clear f1_ f2_ f3_; subst f4_; subst f5_))
      refine hK.out _ _ ⟨(kcl BK162.out 0).trans rfl, (kcl BK162.out 1).trans rfl, (kcl BK161.out 0).trans rfl, (kcl BK161.out 1).trans rfl⟩ (fun hHeld => ?_)
      clear hK K
      refine norm_ (a' := ?_) ?_ ?_
      rotate_left
      · show Act.put _ (some 39) _ = _
        simp only [Act.put, List.setIfInBounds_toArray, List.set_cons_zero, List.set_cons_succ, i64_w, i32_w]
        rfl
      refine one_ (i := 8) (N := none) #[true, true, true, true, true, true, true, true, true] rfl rfl (one_of HT_.out (by kernel_rfl)) (by decide) (fun K hK => ?_)
      have hs54 : w53.cell? ⟨gb163, 0, none⟩ = some (.bool false) := (kcl BK163.out 0).trans rfl
      have hfs54 := kfz BK163.out 0
      have hns54_0 := NB161_163.out
      have hns54_1 := NB162_163.out
      have hms54_0 := NB163_161.out
      have hms54_1 := NB163_162.out
      have hs56 : w53.cell? ⟨gb163, 1, none⟩ = some (.slice none 0 0) := (kcl BK163.out 1).trans rfl
      have hfs56 := kfz BK163.out 1
      have hns56_0 := NB161_163.out
      have hns56_1 := NB162_163.out
      have hms56_0 := NB163_161.out
      have hms56_1 := NB163_162.out
      refine skip_ (w1 := ?_) (by rfl) rfl ?_ ?_
      rotate_left
      · go_simp
        rfl
      refine hK.out _ _ ⟨((cell_far (p := ⟨gb163, _, none⟩) NB162_163.out _).trans (((cell_far (p := ⟨gb163, _, none⟩) NB162_163.out _).trans (hHeld.1)))), ((cell_far (p := ⟨gb163, _, none⟩) NB162_163.out _).trans (((cell_far (p := ⟨gb163, _, none⟩) NB162_163.out _).trans (hHeld.2.1)))), ((cell_far (p := ⟨gb163, _, none⟩) NB161_163.out _).trans (((cell_far (p := ⟨gb163, _, none⟩) NB161_163.out _).trans (hHeld.2.2.1)))), ((cell_far (p := ⟨gb163, _, none⟩) NB161_163.out _).trans (((cell_far (p := ⟨gb163, _, none⟩) NB161_163.out _).trans (hHeld.2.2.2))))⟩ (fun hHeld => ?_)
      clear hK K
      refine done_ (done_of HT_.out (by kernel_rfl)) ?_
      try go_wp2
      refine bodyPost_ret (results_cell_row rfl _ _ gb163 31 #[.bool t182, .slice Ao55 t183.length co55] (0, 0) _ rfl (by (with_reducible repeat (first | refine kdn ?_ _ | refine kdr ?_ | refine kal ?_ _)); refine blk_put (cs := #[.bool t182, .slice none 0 0]) ?_ 1 _ rfl; (with_reducible repeat (first | refine kdn ?_ _ | refine kdr ?_ | refine kal ?_ _)); refine blk_put (cs := #[.bool false, .slice none 0 0]) ?_ 0 _ rfl; (with_reducible repeat (first | refine kdn ?_ _ | refine kdr ?_ | refine kal ?_ _)); exact BK163.out) Tryz.underlying31 rfl (by kernel_rfl)) rfl ?_
      exact ⟨_, by first | rfl | (simp [errW_none, errW_some] <;> rfl) | (simp [*, errW_none, errW_some] <;> rfl), by (with_reducible repeat (first | apply Kd.R_alloc | apply Kd.R_drewN | apply Kd.R_drew)); exact Kd.R_mono (Kd.R_far (p := ⟨gb163, 1, none⟩) (Kd.R_far (p := ⟨gb163, 0, none⟩) (Kd.R_types HO185.out BK163.out (by decide)) (fun _ hk => hk.2) (.bool t182)) (fun _ hk => hk.2) (.slice Ao55 t183.length co55)) (fun _ hk => trivial), by repeat (first | (with_reducible first | exact HB.out | apply bal | apply pwn | apply bdw | refine bst ?_ GE161.out | refine bst ?_ GE162.out | refine bst ?_ GE163.out) | exact HB.out)⟩
def spec_Int_Sub.f (k : Nat) (a0_0 : Bool) (l0_1 : List Int) (a1_0 : Bool) (l1_1 : List Int) : Option (Bool × List Int) := (spec_Int_Minus.f k a1_0 l1_1).bind fun bt189 => ((spec_Int_Add.f k a0_0 l0_1 bt189.1 bt189.2).bind fun bt193 => (some (bt193.1, bt193.2)))
theorem spec_Int_Sub.mono : ∀ a0 a1 a2 a3 k, LeO (spec_Int_Sub.f k a0 a1 a2 a3) (spec_Int_Sub.f (k + 1) a0 a1 a2 a3) := by
  intro a0 a1 a2 a3 k
  unfold spec_Int_Sub.f
  repeat' first
      | (with_reducible exact spec_Int_Add.mono _ _ _ _ _)
      | (with_reducible exact spec_Int_Minus.mono _ _ _)
      | (with_reducible exact LeO.refl _)
      | (with_reducible exact LeO.none _)
      | (with_reducible refine LeO.ite ?_ ?_)
      | (with_reducible refine LeO.bind ?_ (fun _ => ?_))
      | exact spec_Int_Add.mono _ _ _ _ _
      | exact spec_Int_Minus.mono _ _ _
      | exact LeO.none _
      | refine LeO.ite ?_ ?_
      | refine LeO.bind ?_ (fun _ => ?_)
set_option maxHeartbeats 8000000 in
set_option maxRecDepth 100000 in
theorem spec_Int_Sub.calls (k : Nat) (a0_0 : Bool) (A0_1 : Option Addr) (c0_1 : Nat) (l0_1 : List Int) (a1_0 : Bool) (A1_1 : Option Addr) (c1_1 : Nat) (l1_1 : List Int) (r1 : Bool) (r2 : List Int) (w : World) (hr0_1 : Kd.C (Kd.int .u8) w A0_1 l0_1.length l0_1) (hc0_1 : l0_1.length ≤ c0_1) (hr1_1 : Kd.C (Kd.int .u8) w A1_1 l1_1.length l1_1) (hc1_1 : l1_1.length ≤ c1_1) (h : spec_Int_Sub.f k a0_0 l0_1 a1_0 l1_1 = some (r1, r2)) :
    Calls Tryz.prog 33 #[.agg #[.bool a0_0, .slice A0_1 l0_1.length c0_1], .agg #[.bool a1_0, .slice A1_1 l1_1.length c1_1]] w fun e w' => ∃ v1_ : Value, e = .returned (.agg #[.bool r1, v1_]) ∧ Kd.R (Kd.int .u8) 5 w' w.heap.size (fun _ => True) v1_ r2 ∧ Below w.heap.size w w' := by
  have hu31 := Tryz.underlying31
  have HR0_1 := As.mk hr0_1
  have HC0_1 := As.mk hc0_1
  clear hr0_1 hc0_1
  have HR1_1 := As.mk hr1_1
  have HC1_1 := As.mk hc1_1
  clear hr1_1 hc1_1
  have HB := As.mk (Below.refl w.heap.size w)
  have H : ((spec_Int_Minus.f k a1_0 l1_1).bind fun bt189 => ((spec_Int_Add.f k a0_0 l0_1 bt189.1 bt189.2).bind fun bt193 => (some (bt193.1, bt193.2)))) = some (r1, r2) := h
  clear h
  replace H := Option.bind_eq_some_iff.mp H
  obtain ⟨⟨t189, t190⟩, A30, H⟩ := H
  replace H : ((spec_Int_Add.f k a0_0 l0_1 t189 t190).bind fun bt193 => (some (bt193.1, bt193.2))) = some (r1, r2) := H
  have A3 := As.mk A30
  clear A30
  replace H := Option.bind_eq_some_iff.mp H
  obtain ⟨⟨t193, t194⟩, A40, H⟩ := H
  replace H : (some (t193, t194)) = some (r1, r2) := H
  have A4 := As.mk A40
  clear A40
  simp only [Option.some.injEq, Prod.mk.injEq] at H
  obtain ⟨rfl, rfl⟩ := H
  go_enter Tryz.func33, Tryz.ntmps33
  try go_wp2_with (first | ((with_reducible refine gate_dst (N := 2) rfl ?_); refine box_event ?hg (N := 2) ?hd (cs := #[.bool a0_0, .slice A0_1 l0_1.length c0_1]) (t := 31) ?hr ?_; (case hd => rfl); (case hg => rfl); (case hr => first | (go_simp; done) | (go_simp; rfl)); intro gb186 hg w5 hbox hb; have n0_ := As.mk (bsp (by repeat (first | (with_reducible first | exact HB.out | apply bal | apply pwn | apply bdw) | exact HB.out)) hb); have n1_ := As.mk (hbox); have n2_ := As.mk ((by rw [hg]; exact (bsz (by repeat (first | (with_reducible first | exact HB.out | apply bal | apply pwn | apply bdw) | exact HB.out))) : w.heap.size ≤ gb186)); have n3_ := As.mk ((by rw [hg]; exact (bsz (by repeat (first | (with_reducible first | exact HB.out | apply bal | apply pwn | apply bdw) | exact HB.out))) : w.heap.size ≤ gb186)); clear HB; have HB := n0_; have BK186 := n1_; have GW186 := n2_; have GE186 := n3_; clear n0_ n1_ n2_ n3_; clear hb hbox hg) | ((with_reducible refine gate_dst (N := 3) rfl ?_); refine box_event ?hg (N := 3) ?hd (cs := #[.bool a1_0, .slice A1_1 l1_1.length c1_1]) (t := 31) ?hr ?_; (case hd => rfl); (case hg => rfl); (case hr => first | (go_simp; done) | (go_simp; rfl)); intro gb187 hg w6 hbox hb; have n0_ := As.mk (kbw (g := gb186) (o := .cells #[.bool a0_0, .slice A0_1 l0_1.length c0_1] 31 (0, 0)) (by (with_reducible repeat (first | refine kdn ?_ _ | refine kdr ?_ | refine kal ?_ _)); exact BK186.out) hb); have n1_ := As.mk (bsp (by repeat (first | (with_reducible first | exact HB.out | apply bal | apply pwn | apply bdw | refine bst ?_ GE186.out) | exact HB.out)) hb); have n2_ := As.mk (hbox); have n3_ := As.mk ((by rw [hg]; exact (bsz (by repeat (first | (with_reducible first | exact HB.out | apply bal | apply pwn | apply bdw | refine bst ?_ GE186.out) | exact HB.out))) : w.heap.size ≤ gb187)); have n4_ := As.mk ((by rw [hg]; exact (bsz (by repeat (first | (with_reducible first | exact HB.out | apply bal | apply pwn | apply bdw | refine bst ?_ GE186.out) | exact HB.out))) : w.heap.size ≤ gb187)); have n5_ := As.mk ((by rw [hg]; exact Nat.ne_of_lt (blk_lt (g := gb186) (o := .cells #[.bool a0_0, .slice A0_1 l0_1.length c0_1] 31 (0, 0)) (by (with_reducible repeat (first | refine kdn ?_ _ | refine kdr ?_ | refine kal ?_ _)); exact BK186.out)) : gb186 ≠ gb187)); have n6_ := As.mk ((by rw [hg]; exact Nat.ne_of_gt (blk_lt (g := gb186) (o := .cells #[.bool a0_0, .slice A0_1 l0_1.length c0_1] 31 (0, 0)) (by (with_reducible repeat (first | refine kdn ?_ _ | refine kdr ?_ | refine kal ?_ _)); exact BK186.out)) : gb187 ≠ gb186)); clear BK186; clear HB; have BK186 := n0_; have HB := n1_; have BK187 := n2_; have GW187 := n3_; have GE187 := n4_; have NB186_187 := n5_; have NB187_186 := n6_; clear n0_ n1_ n2_ n3_ n4_ n5_ n6_; clear hb hbox hg) | ((with_reducible refine gate_dst (N := 4) rfl ?_); refine box_event ?hg (N := 4) ?hd (cs := #[.bool false, .slice none 0 0]) (t := 31) ?hr ?_; (case hd => rfl); (case hg => rfl); (case hr => first | (go_simp; done) | (go_simp; rfl)); intro gb188 hg w7 hbox hb; have n0_ := As.mk (kbw (g := gb186) (o := .cells #[.bool a0_0, .slice A0_1 l0_1.length c0_1] 31 (0, 0)) (by (with_reducible repeat (first | refine kdn ?_ _ | refine kdr ?_ | refine kal ?_ _)); exact BK186.out) hb); have n1_ := As.mk (kbw (g := gb187) (o := .cells #[.bool a1_0, .slice A1_1 l1_1.length c1_1] 31 (0, 0)) (by (with_reducible repeat (first | refine kdn ?_ _ | refine kdr ?_ | refine kal ?_ _)); exact BK187.out) hb); have n2_ := As.mk (bsp (by repeat (first | (with_reducible first | exact HB.out | apply bal | apply pwn | apply bdw | refine bst ?_ GE186.out | refine bst ?_ GE187.out) | exact HB.out)) hb); have n3_ := As.mk (hbox); have n4_ := As.mk ((by rw [hg]; exact (bsz (by repeat (first | (with_reducible first | exact HB.out | apply bal | apply pwn | apply bdw | refine bst ?_ GE186.out | refine bst ?_ GE187.out) | exact HB.out))) : w.heap.size ≤ gb188)); have n5_ := As.mk ((by rw [hg]; exact (bsz (by repeat (first | (with_reducible first | exact HB.out | apply bal | apply pwn | apply bdw | refine bst ?_ GE186.out | refine bst ?_ GE187.out) | exact HB.out))) : w.heap.size ≤ gb188)); have n6_ := As.mk ((by rw [hg]; exact Nat.ne_of_lt (blk_lt (g := gb186) (o := .cells #[.bool a0_0, .slice A0_1 l0_1.length c0_1] 31 (0, 0)) (by (with_reducible repeat (first | refine kdn ?_ _ | refine kdr ?_ | refine kal ?_ _)); exact BK186.out)) : gb186 ≠ gb188)); have n7_ := As.mk ((by rw [hg]; exact Nat.ne_of_gt (blk_lt (g := gb186) (o := .cells #[.bool a0_0, .slice A0_1 l0_1.length c0_1] 31 (0, 0)) (by (with_reducible repeat (first | refine kdn ?_ _ | refine kdr ?_ | refine kal ?_ _)); exact BK186.out)) : gb188 ≠ gb186)); have n8_ := As.mk ((by rw [hg]; exact Nat.ne_of_lt (blk_lt (g := gb187) (o := .cells #[.bool a1_0, .slice A1_1 l1_1.length c1_1] 31 (0, 0)) (by (with_reducible repeat (first | refine kdn ?_ _ | refine kdr ?_ | refine kal ?_ _)); exact BK187.out)) : gb187 ≠ gb188)); have n9_ := As.mk ((by rw [hg]; exact Nat.ne_of_gt (blk_lt (g := gb187) (o := .cells #[.bool a1_0, .slice A1_1 l1_1.length c1_1] 31 (0, 0)) (by (with_reducible repeat (first | refine kdn ?_ _ | refine kdr ?_ | refine kal ?_ _)); exact BK187.out)) : gb188 ≠ gb187)); clear BK186; clear BK187; clear HB; have BK186 := n0_; have BK187 := n1_; have HB := n2_; have BK188 := n3_; have GW188 := n4_; have GE188 := n5_; have NB186_188 := n6_; have NB188_186 := n7_; have NB187_188 := n8_; have NB188_187 := n9_; clear n0_ n1_ n2_ n3_ n4_ n5_ n6_ n7_ n8_ n9_; clear hb hbox hg))
  have n0_ := As.mk (kdr BK186.out)
  have n1_ := As.mk (kdr BK187.out)
  have n2_ := As.mk (kdr BK188.out)
  have n3_ := As.mk (bdw HB.out)
  clear BK186
  clear BK187
  clear BK188
  clear HB
  have BK186 := n0_
  have BK187 := n1_
  have BK188 := n2_
  have HB := n3_
  clear n0_ n1_ n2_ n3_
  refine start_ (n := 5) (S := fun w' => w'.cell? ⟨gb186, 0, none⟩ = some (.bool a0_0) ∧ w'.cell? ⟨gb186, 1, none⟩ = some (.slice A0_1 l0_1.length c0_1) ∧ w'.cell? ⟨gb187, 0, none⟩ = some (.bool a1_0) ∧ w'.cell? ⟨gb187, 1, none⟩ = some (.slice A1_1 l1_1.length c1_1)) (ds := []) #[false, false, false, false, false] (by kernel_rfl) rfl rfl ⟨(kcl BK186.out 0).trans rfl, (kcl BK186.out 1).trans rfl, (kcl BK187.out 0).trans rfl, (kcl BK187.out 1).trans rfl⟩ (fun hHeld => ?_)
  generalize w7.drew = w8 at BK186 BK187 BK188 HB hHeld ⊢
  refine take_ (i := 0) (N := some 5) (v := ?_) (a' := ?_) #[true, false, false, false, false] rfl rfl (by kernel_rfl) (fun _ _ _ h => h) (Or.inl ⟨by rfl, ?_⟩) hHeld ?_ ?_
  rotate_left
  · rintro w' ⟨s0, s1, s2, s3⟩
    go_simp
    with_reducible rfl
  rotate_left
  · simp only [Act.put, List.setIfInBounds_toArray, List.set_cons_zero, List.set_cons_succ, i64_w, i32_w]
    rfl
  refine take_ (i := 1) (N := some 6) (v := ?_) (a' := ?_) #[true, true, false, false, false] rfl rfl (by kernel_rfl) (fun _ _ _ h => h) (Or.inl ⟨by rfl, ?_⟩) hHeld ?_ ?_
  rotate_left
  · rintro w' ⟨s0, s1, s2, s3⟩
    go_simp
    with_reducible rfl
  rotate_left
  · simp only [Act.put, List.setIfInBounds_toArray, List.set_cons_zero, List.set_cons_succ, i64_w, i32_w]
    rfl
  refine one_ (i := 2) (N := some 7) #[true, true, true, false, false] rfl rfl (by kernel_rfl) (by decide) (fun K hK => ?_)
  refine goes_ Tryz.func29 (by kernel_rfl) rfl #[.agg #[.bool a1_0, .slice A1_1 l1_1.length c1_1]] (by rfl) rfl rfl (by (try simp only [List.map_toArray, List.map_cons, List.map_nil]); first | done | rfl | (simp only [List.length_drop, List.length_take]; rfl)) ?_
  with_reducible refine (spec_Int_Minus.calls k a1_0 _ _ l1_1 t189 t190 _ ?side1 ?side2 A3.out).mono ?_
  (case side1 => repeat (first | exact (Kd.C_below HR1_1.out HB.out) | (with_reducible refine Kd.C_alloc ?_ _) | (with_reducible refine Kd.C_drewN ?_ _) | (with_reducible refine Kd.C_drew ?_)))
  (case side2 => exact HC1_1.out)
  rintro e w9 ⟨v191, rfl, ho0, hb⟩
  refine ⟨_, rfl, ?_⟩
  have n0_ := As.mk (Kd.R_lower ho0 (bsz (by repeat (first | (with_reducible first | exact HB.out | apply bal | apply pwn | apply bdw | refine bst ?_ GE186.out | refine bst ?_ GE187.out | refine bst ?_ GE188.out) | exact HB.out))))
  have n1_ := As.mk (kbw (g := gb186) (o := .cells #[.bool a0_0, .slice A0_1 l0_1.length c0_1] 31 (0, 0)) (by (with_reducible repeat (first | refine kdn ?_ _ | refine kdr ?_ | refine kal ?_ _)); exact BK186.out) hb)
  have n2_ := As.mk (kbw (g := gb187) (o := .cells #[.bool a1_0, .slice A1_1 l1_1.length c1_1] 31 (0, 0)) (by (with_reducible repeat (first | refine kdn ?_ _ | refine kdr ?_ | refine kal ?_ _)); exact BK187.out) hb)
  have n3_ := As.mk (kbw (g := gb188) (o := .cells #[.bool false, .slice none 0 0] 31 (0, 0)) (by (with_reducible repeat (first | refine kdn ?_ _ | refine kdr ?_ | refine kal ?_ _)); exact BK188.out) hb)
  have n4_ := As.mk (bsp (by repeat (first | (with_reducible first | exact HB.out | apply bal | apply pwn | apply bdw | refine bst ?_ GE186.out | refine bst ?_ GE187.out | refine bst ?_ GE188.out) | exact HB.out)) hb)
  clear BK186
  clear BK187
  clear BK188
  clear HB
  have HO192 := n0_
  have BK186 := n1_
  have BK187 := n2_
  have BK188 := n3_
  have HB := n4_
  clear n0_ n1_ n2_ n3_ n4_
  (try clear hb)
  (try clear hb2)
  (try clear hk)
  (try clear hi)
  (try clear ho0)
  obtain ⟨Ao10, co10, eo10⟩ := Kd.R_slice HO192.out
  (first | subst eo10 | (injection eo10 with f1_ f2_ f3_; have f4_ := f1_.symm; have f5_ := f3_.symm; clear f1_ f2_ f3_; subst f4_; subst f5_))
  refine hK.out _ _ ⟨(kcl BK186.out 0).trans rfl, (kcl BK186.out 1).trans rfl, (kcl BK187.out 0).trans rfl, (kcl BK187.out 1).trans rfl⟩ (fun hHeld => ?_)
  clear hK K
  refine norm_ (a' := ?_) ?_ ?_
  rotate_left
  · show Act.put _ (some 7) _ = _
    simp only [Act.put, List.setIfInBounds_toArray, List.set_cons_zero, List.set_cons_succ, i64_w, i32_w]
    rfl
  refine one_ (i := 3) (N := some 8) #[true, true, true, true, false] rfl rfl (by kernel_rfl) (by decide) (fun K hK => ?_)
  refine goes_ Tryz.func40 (by kernel_rfl) rfl #[.agg #[.bool a0_0, .slice A0_1 l0_1.length c0_1], .agg #[.bool t189, .slice Ao10 t190.length co10]] (by rfl) rfl rfl (by (try simp only [List.map_toArray, List.map_cons, List.map_nil]); first | done | rfl | (simp only [List.length_drop, List.length_take]; rfl)) ?_
  with_reducible refine (spec_Int_Add.calls k a0_0 _ _ l0_1 t189 _ _ t190 t193 t194 _ ?side1 ?side2 ?side3 ?side4 A4.out).mono ?_
  (case side1 => repeat (first | exact (Kd.C_below HR0_1.out HB.out) | (with_reducible refine Kd.C_alloc ?_ _) | (with_reducible refine Kd.C_drewN ?_ _) | (with_reducible refine Kd.C_drew ?_)))
  (case side2 => exact HC0_1.out)
  (case side3 => repeat (first | exact (Kd.R_reads' HO192.out).2.2 | (with_reducible refine Kd.C_alloc ?_ _) | (with_reducible refine Kd.C_drewN ?_ _) | (with_reducible refine Kd.C_drew ?_)))
  (case side4 => exact (Kd.R_reads' HO192.out).2.1)
  rintro e w11 ⟨v195, rfl, ho0, hb⟩
  refine ⟨_, rfl, ?_⟩
  have n0_ := As.mk (Kd.R_elder' (by (with_reducible repeat (first | apply Kd.R_alloc | apply Kd.R_drewN | apply Kd.R_drew)); exact HO192.out) (Kd.R_base ho0) hb)
  have n1_ := As.mk (Kd.R_lower (Kd.R_new' ho0 (Kd.R_lt (by (with_reducible repeat (first | apply Kd.R_alloc | apply Kd.R_drewN | apply Kd.R_drew)); exact HO192.out))) (bsz (by repeat (first | (with_reducible first | exact HB.out | apply bal | apply pwn | apply bdw | refine bst ?_ GE186.out | refine bst ?_ GE187.out | refine bst ?_ GE188.out) | exact HB.out))))
  have n2_ := As.mk (kbw (g := gb186) (o := .cells #[.bool a0_0, .slice A0_1 l0_1.length c0_1] 31 (0, 0)) (by (with_reducible repeat (first | refine kdn ?_ _ | refine kdr ?_ | refine kal ?_ _)); exact BK186.out) hb)
  have n3_ := As.mk (kbw (g := gb187) (o := .cells #[.bool a1_0, .slice A1_1 l1_1.length c1_1] 31 (0, 0)) (by (with_reducible repeat (first | refine kdn ?_ _ | refine kdr ?_ | refine kal ?_ _)); exact BK187.out) hb)
  have n4_ := As.mk (kbw (g := gb188) (o := .cells #[.bool false, .slice none 0 0] 31 (0, 0)) (by (with_reducible repeat (first | refine kdn ?_ _ | refine kdr ?_ | refine kal ?_ _)); exact BK188.out) hb)
  have n5_ := As.mk (bsp (by repeat (first | (with_reducible first | exact HB.out | apply bal | apply pwn | apply bdw | refine bst ?_ GE186.out | refine bst ?_ GE187.out | refine bst ?_ GE188.out) | exact HB.out)) hb)
  clear HO192
  clear BK186
  clear BK187
  clear BK188
  clear HB
  have HO192 := n0_
  have HO196 := n1_
  have BK186 := n2_
  have BK187 := n3_
  have BK188 := n4_
  have HB := n5_
  clear n0_ n1_ n2_ n3_ n4_ n5_
  (try clear hb)
  (try clear hb2)
  (try clear hk)
  (try clear hi)
  (try clear ho0)
  obtain ⟨Ao13, co13, eo13⟩ := Kd.R_slice HO196.out
  (first | subst eo13 | (injection eo13 with f1_ f2_ f3_; have f4_ := f1_.symm; have f5_ := f3_.symm; clear f1_ f2_ f3_; subst f4_; subst f5_))
  refine hK.out _ _ ⟨(kcl BK186.out 0).trans rfl, (kcl BK186.out 1).trans rfl, (kcl BK187.out 0).trans rfl, (kcl BK187.out 1).trans rfl⟩ (fun hHeld => ?_)
  clear hK K
  refine norm_ (a' := ?_) ?_ ?_
  rotate_left
  · show Act.put _ (some 8) _ = _
    simp only [Act.put, List.setIfInBounds_toArray, List.set_cons_zero, List.set_cons_succ, i64_w, i32_w]
    rfl
  refine one_ (i := 4) (N := none) #[true, true, true, true, true] rfl rfl (by kernel_rfl) (by decide) (fun K hK => ?_)
  have hs12 : w11.cell? ⟨gb188, 0, none⟩ = some (.bool false) := (kcl BK188.out 0).trans rfl
  have hfs12 := kfz BK188.out 0
  have hns12_0 := NB186_188.out
  have hns12_1 := NB187_188.out
  have hms12_0 := NB188_186.out
  have hms12_1 := NB188_187.out
  have hs14 : w11.cell? ⟨gb188, 1, none⟩ = some (.slice none 0 0) := (kcl BK188.out 1).trans rfl
  have hfs14 := kfz BK188.out 1
  have hns14_0 := NB186_188.out
  have hns14_1 := NB187_188.out
  have hms14_0 := NB188_186.out
  have hms14_1 := NB188_187.out
  refine skip_ (w1 := ?_) (by rfl) rfl ?_ ?_
  rotate_left
  · go_simp
    rfl
  refine hK.out _ _ ⟨((cell_far (p := ⟨gb188, _, none⟩) NB186_188.out _).trans (((cell_far (p := ⟨gb188, _, none⟩) NB186_188.out _).trans (hHeld.1)))), ((cell_far (p := ⟨gb188, _, none⟩) NB186_188.out _).trans (((cell_far (p := ⟨gb188, _, none⟩) NB186_188.out _).trans (hHeld.2.1)))), ((cell_far (p := ⟨gb188, _, none⟩) NB187_188.out _).trans (((cell_far (p := ⟨gb188, _, none⟩) NB187_188.out _).trans (hHeld.2.2.1)))), ((cell_far (p := ⟨gb188, _, none⟩) NB187_188.out _).trans (((cell_far (p := ⟨gb188, _, none⟩) NB187_188.out _).trans (hHeld.2.2.2))))⟩ (fun hHeld => ?_)
  clear hK K
  refine done_ (by kernel_rfl) ?_
  try go_wp2
  refine bodyPost_ret (results_cell_row rfl _ _ gb188 31 #[.bool t193, .slice Ao13 t194.length co13] (0, 0) _ rfl (by (with_reducible repeat (first | refine kdn ?_ _ | refine kdr ?_ | refine kal ?_ _)); refine blk_put (cs := #[.bool t193, .slice none 0 0]) ?_ 1 _ rfl; (with_reducible repeat (first | refine kdn ?_ _ | refine kdr ?_ | refine kal ?_ _)); refine blk_put (cs := #[.bool false, .slice none 0 0]) ?_ 0 _ rfl; (with_reducible repeat (first | refine kdn ?_ _ | refine kdr ?_ | refine kal ?_ _)); exact BK188.out) Tryz.underlying31 rfl (by kernel_rfl)) rfl ?_
  exact ⟨_, by first | rfl | (simp [errW_none, errW_some] <;> rfl) | (simp [*, errW_none, errW_some] <;> rfl), by (with_reducible repeat (first | apply Kd.R_alloc | apply Kd.R_drewN | apply Kd.R_drew)); exact Kd.R_mono (Kd.R_far (p := ⟨gb188, 1, none⟩) (Kd.R_far (p := ⟨gb188, 0, none⟩) (Kd.R_types HO196.out BK188.out (by decide)) (fun _ hk => hk.2) (.bool t193)) (fun _ hk => hk.2) (.slice Ao13 t194.length co13)) (fun _ hk => trivial), by repeat (first | (with_reducible first | exact HB.out | apply bal | apply pwn | apply bdw | refine bst ?_ GE186.out | refine bst ?_ GE187.out | refine bst ?_ GE188.out) | exact HB.out)⟩
def spec_bytesOf.l0 : Nat → Int → List Int → Int → Option (List Int)
  | 0, _, _, _ => none
  | k + 1, x0, x3, x4 => if x4 ≥ 0 then (if 0 ≤ x4 then (if x4 < (x3.length : Int) then (spec_bytesOf.l0 k (x0 / 256) (x3.set (x4 : Int).toNat ((x0) % 256)) (wrap64 (x4 - 1))) else (none)) else (none)) else (some x3)
def spec_bytesOf.f (k : Nat) (a0 : Int) : Option (List Int) := if 8 ≤ 281474976710656 then (spec_bytesOf.l0 k a0 (List.replicate 8 0) 7) else (none)
theorem spec_bytesOf.mono_l : ∀ k, (∀ y0 y1 y2, LeO (spec_bytesOf.l0 k y0 y1 y2) (spec_bytesOf.l0 (k + 1) y0 y1 y2))
  | 0 => fun _ _ _ r h => by simp [spec_bytesOf.l0] at h
  | k + 1 => by
    have ih0 := spec_bytesOf.mono_l k
    · intro y0 y1 y2
      unfold spec_bytesOf.l0
      repeat' first
      | (with_reducible exact ih0 _ _ _)
      | (with_reducible exact LeO.refl _)
      | (with_reducible exact LeO.none _)
      | (with_reducible refine LeO.ite ?_ ?_)
      | (with_reducible refine LeO.bind ?_ (fun _ => ?_))
      | exact ih0 _ _ _
      | exact LeO.none _
      | refine LeO.ite ?_ ?_
      | refine LeO.bind ?_ (fun _ => ?_)
theorem spec_bytesOf.mono : ∀ a0 k, LeO (spec_bytesOf.f k a0) (spec_bytesOf.f (k + 1) a0) := by
  intro a0 k
  have ih0 := spec_bytesOf.mono_l k
  unfold spec_bytesOf.f
  repeat' first
      | (with_reducible exact ih0 _ _ _)
      | (with_reducible exact LeO.refl _)
      | (with_reducible exact LeO.none _)
      | (with_reducible refine LeO.ite ?_ ?_)
      | (with_reducible refine LeO.bind ?_ (fun _ => ?_))
      | exact ih0 _ _ _
      | exact LeO.none _
      | refine LeO.ite ?_ ?_
      | refine LeO.bind ?_ (fun _ => ?_)
set_option maxHeartbeats 8000000 in
set_option maxRecDepth 100000 in
theorem spec_bytesOf.calls (k : Nat) (a0 : Int) (r : List Int) (w : World) (h : spec_bytesOf.f k a0 = some r) :
    Calls Tryz.prog 54 #[.int .u64 a0] w fun e w' => ∃ v0_ : Value, e = .returned (v0_) ∧ Kd.R (Kd.int .u8) 5 w' w.heap.size (fun _ => True) v0_ r ∧ Below w.heap.size w w' := by
  have HB := As.mk (Below.refl w.heap.size w)
  have H : (if 8 ≤ 281474976710656 then (spec_bytesOf.l0 k a0 (List.replicate 8 0) 7) else (none)) = some r := h
  clear h
  by_cases c2 : 8 ≤ 281474976710656
  · rw [if_pos c2] at H
    have c2b0 := eq_true c2
    have c2b1 : decide (8 ≤ 281474976710656) = true := decide_eq_true c2
    clear c2
    obtain ⟨y197, hy197⟩ : ∃ y_ : List Int, y_ = (List.replicate 8 0) := ⟨_, rfl⟩
    replace H : (spec_bytesOf.l0 k a0 y197 7) = some r := by first | (rw [hy197]; with_reducible exact H) | (have H2_ := (Option.bind_some _ _).symm.trans H; rw [hy197]; with_reducible exact H2_) | (have H2_ := (Option.bind_some _ _).symm.trans H; with_reducible exact H2_) | with_reducible exact H | (rw [hy197]; exact H) | exact H
    have Ny197 := As.mk hy197
    clear hy197
    have H' := As.mk H
    clear H
    go_enter Tryz.func54, Tryz.ntmps54
    go_wp2_with (first | ((with_reducible refine gate_dst (N := 5) rfl ?_); refine Kd.R_make (Kd.int .u8) _ 5 rfl (N := 5) rfl 23 _ _ rfl 8 rfl rfl Tryz.underlying23 (.int .u8 0) 1 info5 rfl (by decide) (by omega) 0 (ok := fun _ => True) (okp := fun _ => True) rfl (fun _ hk => hk) trivial (by omega) (by omega) (Below.refl _ _) (Nat.le_refl _) ?_; intro v198 w3 ho4 hb hg_ hnew_; clear hg_ hnew_; (first | rw [← Ny197.out] at ho4 | (simp only [Int.reduceToNat] at ho4; rw [← Ny197.out] at ho4)); have n0_ := As.mk (Kd.R_lower ho4 (bsz (by repeat (first | (with_reducible first | exact HB.out | apply bal | apply pwn | apply bdw) | exact HB.out)))); have n1_ := As.mk (bsp (by repeat (first | (with_reducible first | exact HB.out | apply bal | apply pwn | apply bdw) | exact HB.out)) hb); clear HB; have HO199 := n0_; have HB := n1_; clear n0_ n1_; clear hb ho4))
    go_loopg [0, 4] k (fun kq v0 v4 w' => ∃ (x0_1 : Int) (x3_1 : List Int) (x4_1 : Int), v0 = .int .u64 x0_1 ∧ v4 = .int .i64 x4_1 ∧ As (spec_bytesOf.l0 kq x0_1 x3_1 x4_1 = some r) ∧ As (kq ≤ k) ∧ As (Kd.R (Kd.int .u8) 5 w' w.heap.size (fun _ => True) v198 x3_1) ∧ As (Below w.heap.size w w'))
    case atStart => exact ⟨(a0), (y197), (7), (by first | rfl | (simp; done) | (simp [*]; done)), (by first | rfl | (simp; done) | (simp [*]; done)), H', ⟨Nat.le_refl _⟩, ⟨by (with_reducible repeat (first | apply Kd.R_alloc | apply Kd.R_drewN | apply Kd.R_drew)); exact HO199.out⟩, ⟨by repeat (first | (with_reducible first | exact HB.out | apply bal | apply pwn | apply bdw) | exact HB.out)⟩⟩
    case round =>
      clear H'
      try clear c2
      try clear c2b0
      try clear c2b1
      try clear p2
      obtain ⟨x0_1, x3_1, x4_1, rfl, rfl, HA, HK1, HO_3, HB⟩ := hrel
      cases gk with
      | zero => exact absurd HA.out (by simp [spec_bytesOf.l0])
      | succ k1 =>
        have H := HA.out
        clear HA
        simp only [spec_bytesOf.l0] at H
        by_cases c5 : x4_1 ≥ 0
        · rw [if_pos c5] at H
          have c5b0 : decide (0 ≤ x4_1) = true := decide_eq_true c5
          clear c5
          by_cases c6 : 0 ≤ x4_1
          · rw [if_pos c6] at H
            have c6b0 : decide (0 ≤ x4_1) = true := decide_eq_true c6
            clear c6
            by_cases c7 : x4_1 < (x3_1.length : Int)
            · rw [if_pos c7] at H
              have c7b0 : decide (x4_1 < (x3_1.length : Int)) = true := decide_eq_true c7
              clear c7
              obtain ⟨y200, hy200⟩ : ∃ y_ : List Int, y_ = (x3_1.set (x4_1 : Int).toNat ((x0_1) % 256)) := ⟨_, rfl⟩
              replace H : (spec_bytesOf.l0 k1 (x0_1 / 256) y200 (wrap64 (x4_1 - 1))) = some r := by first | (rw [hy200]; with_reducible exact H) | (have H2_ := (Option.bind_some _ _).symm.trans H; rw [hy200]; with_reducible exact H2_) | (have H2_ := (Option.bind_some _ _).symm.trans H; with_reducible exact H2_) | with_reducible exact H | (rw [hy200]; exact H) | exact H
              have Ny200 := As.mk hy200
              clear hy200
              have H' := As.mk H
              clear H
              have p8 : 0 ≤ (x4_1 : Int) := of_decide_eq_true (by first | (with_reducible assumption) | assumption)
              have q8 : (x4_1 : Int) < ((x3_1.length : Int) : Int) := of_decide_eq_true (by first | (with_reducible assumption) | assumption)
              obtain ⟨go8, co8, eo8, gb8, gl8, cl8, HG8⟩ := Kd.R_form HO_3.out (by omega)
              (first | cases eo8 | (injection eo8 with ea_ en_ ec_; (first | subst ea_ | (injection ea_ with ea_; subst ea_)); subst ec_; clear en_))
              have GB8 := As.mk gb8
              have GG8 := As.mk HG8
              clear gb8 gl8 HG8
              obtain ⟨hx8_0, hf8_0⟩ := Kd.R_celln 0 HO_3.out (x4_1 : Int) p8 q8
              replace p8 := eq_true p8
              replace q8 := eq_true q8
              have HP9 := Kd.R_putg HO_3.out (x4_1 : Int) ((x0_1) % 256)
              go_wp2_with (first | ((with_reducible refine gate_store (t := 5) (p := 14) rfl ?_); refine store_event (t := 5) (p := 14) (v := ?vo_w10) (w1 := (wr.setCell ⟨go8, (x4_1 : Int).toNat, none⟩ (.int .u8 ((x0_1) % 256)))) ?hg ?ho ?hn ?hr ?_; (case ho => rfl); (case hg => rfl); (case hn => rfl); (case hr => first | (go_simp; done) | (go_simp; rfl)); intro w10 hw; have hg : wr.grownBy w10 (some go8) := (by rw [hw]; exact HP9.2); have hp_ : Kd.R (Kd.int .u8) 5 w10 w.heap.size (fun _ => True) (.slice (some ⟨go8, 0, none⟩) x3_1.length co8) y200 := (by rw [hw, Ny200.out]; exact HP9.1); clear HP9; have n0_ := As.mk (hp_); have n1_ := As.mk ((by rw [hw]; exact bst (HB.out) GB8.out : Below w.heap.size w w10)); clear HO_3; clear HB; have HO_3 := n0_; have HB := n1_; clear n0_ n1_; clear hg hw hp_))
              go_roundg k1
              case measure => have := HK1.out; omega
              case rel => exact ⟨(x0_1 / 256), (y200), (wrap64 (x4_1 - 1)), (by first | rfl | (simp; done) | (simp [*]; done)), (by first | rfl | (simp; done) | (simp [*]; done)), H', ⟨by have := HK1.out; omega⟩, ⟨by (with_reducible repeat (first | apply Kd.R_alloc | apply Kd.R_drewN | apply Kd.R_drew)); exact HO_3.out⟩, ⟨by repeat (first | (with_reducible first | exact HB.out | apply bal | apply pwn | apply bdw) | exact HB.out)⟩⟩
            · rw [if_neg c7] at H
              exact absurd H (by simp)
          · rw [if_neg c6] at H
            exact absurd H (by simp)
        · rw [if_neg c5] at H
          have c5b0 : decide (0 ≤ x4_1) = false := decide_eq_false c5
          clear c5
          obtain rfl := Option.some.inj H
          go_wp2
          go_ret
          exact ⟨_, by first | rfl | (simp [errW_none, errW_some] <;> rfl) | (simp [*, errW_none, errW_some] <;> rfl), by (with_reducible repeat (first | apply Kd.R_alloc | apply Kd.R_drewN | apply Kd.R_drew)); exact HO_3.out, by repeat (first | (with_reducible first | exact HB.out | apply bal | apply pwn | apply bdw) | exact HB.out)⟩
  · rw [if_neg c2] at H
    exact absurd H (by simp)
end Go.Proofs.YtldejfallphhbaaGreatDoor.PNearest
namespace Go.Proofs.YtldejfallphhbaaGreatDoor.PNearest
open Go.RowKit Go.Proofs.YtldejfallphhbaaGreatDoorW.PrintWords Go.Proofs.YtldejfallphhbaaGreatDoorW.PrintLast Go.Proofs.YtldejfallphhbaaGreatDoorW.PrintMore
attribute [local go_sem] max2_int min2_int max_two min_two max_three min_three max_four min_four
set_option linter.unusedVariables false
set_option linter.unusedSimpArgs false
def spec_Small.f (k : Nat) (a0 : Int) : Option (Bool × List Int) := if a0 < 0 then ((spec_bytesOf.f k (IntKind.u64.wrap (-(IntKind.u64.wrap (a0))))).bind fun t202 => ((spec_Of.f k (decide (a0 < 0)) t202).bind fun bt205 => (some (bt205.1, bt205.2)))) else ((spec_bytesOf.f k (IntKind.u64.wrap (a0))).bind fun t209 => ((spec_Of.f k (decide (a0 < 0)) t209).bind fun bt212 => (some (bt212.1, bt212.2))))
theorem spec_Small.mono : ∀ a0 k, LeO (spec_Small.f k a0) (spec_Small.f (k + 1) a0) := by
  intro a0 k
  unfold spec_Small.f
  repeat' first
      | (with_reducible exact spec_Of.mono _ _ _)
      | (with_reducible exact spec_bytesOf.mono _ _)
      | (with_reducible exact LeO.refl _)
      | (with_reducible exact LeO.none _)
      | (with_reducible refine LeO.ite ?_ ?_)
      | (with_reducible refine LeO.bind ?_ (fun _ => ?_))
      | exact spec_Of.mono _ _ _
      | exact spec_bytesOf.mono _ _
      | exact LeO.none _
      | refine LeO.ite ?_ ?_
      | refine LeO.bind ?_ (fun _ => ?_)
set_option maxHeartbeats 8000000 in
set_option maxRecDepth 100000 in
theorem spec_Small.calls (k : Nat) (a0 : Int) (r1 : Bool) (r2 : List Int) (w : World) (h : spec_Small.f k a0 = some (r1, r2)) :
    Calls Tryz.prog 34 #[.int .i64 a0] w fun e w' => ∃ v1_ : Value, e = .returned (.agg #[.bool r1, v1_]) ∧ Kd.R (Kd.int .u8) 5 w' w.heap.size (fun _ => True) v1_ r2 ∧ Below w.heap.size w w' := by
  have hu31 := Tryz.underlying31
  have HB := As.mk (Below.refl w.heap.size w)
  have H : (if a0 < 0 then ((spec_bytesOf.f k (IntKind.u64.wrap (-(IntKind.u64.wrap (a0))))).bind fun t202 => ((spec_Of.f k (decide (a0 < 0)) t202).bind fun bt205 => (some (bt205.1, bt205.2)))) else ((spec_bytesOf.f k (IntKind.u64.wrap (a0))).bind fun t209 => ((spec_Of.f k (decide (a0 < 0)) t209).bind fun bt212 => (some (bt212.1, bt212.2))))) = some (r1, r2) := h
  clear h
  by_cases c2 : a0 < 0
  · rw [if_pos c2] at H
    have c2b0 : decide (a0 < 0) = true := decide_eq_true c2
    clear c2
    replace H := Option.bind_eq_some_iff.mp H
    obtain ⟨t202, A30, H⟩ := H
    replace H : ((spec_Of.f k (decide (a0 < 0)) t202).bind fun bt205 => (some (bt205.1, bt205.2))) = some (r1, r2) := H
    have A3 := As.mk A30
    clear A30
    replace H := Option.bind_eq_some_iff.mp H
    obtain ⟨⟨t205, t206⟩, A40, H⟩ := H
    replace H : (some (t205, t206)) = some (r1, r2) := H
    rw [c2b0] at A40
    have A4 := As.mk A40
    clear A40
    simp only [Option.some.injEq, Prod.mk.injEq] at H
    obtain ⟨rfl, rfl⟩ := H
    go_enter Tryz.func34, Tryz.ntmps34
    go_wp2_with (first | ((with_reducible refine gate_dst (N := 2) rfl ?_); refine box_event ?hg (N := 2) ?hd (cs := #[.bool false, .slice none 0 0]) (t := 31) ?hr ?_; (case hd => rfl); (case hg => rfl); (case hr => first | (go_simp; done) | (go_simp; rfl)); intro gb201 hg w5 hbox hb; have n0_ := As.mk (bsp (by repeat (first | (with_reducible first | exact HB.out | apply bal | apply pwn | apply bdw) | exact HB.out)) hb); have n1_ := As.mk (hbox); have n2_ := As.mk ((by rw [hg]; exact (bsz (by repeat (first | (with_reducible first | exact HB.out | apply bal | apply pwn | apply bdw) | exact HB.out))) : w.heap.size ≤ gb201)); have n3_ := As.mk ((by rw [hg]; exact (bsz (by repeat (first | (with_reducible first | exact HB.out | apply bal | apply pwn | apply bdw) | exact HB.out))) : w.heap.size ≤ gb201)); clear HB; have HB := n0_; have BK201 := n1_; have GW201 := n2_; have GE201 := n3_; clear n0_ n1_ n2_ n3_; clear hb hbox hg) | ((with_reducible refine gate_callee (f := 54) rfl ?_); refine goesL_ (some 13) rfl rfl Tryz.func54 (by kernel_rfl) rfl #[.int .u64 (IntKind.u64.wrap (-(IntKind.u64.wrap (a0))))] rfl (by (try simp only [List.map_toArray, List.map_cons, List.map_nil]); first | done | rfl | (simp only [List.length_drop, List.length_take]; rfl)) ?_; (with_reducible refine (spec_bytesOf.calls k (IntKind.u64.wrap (-(IntKind.u64.wrap (a0)))) t202 _ A3.out).mono ?_); rintro e w6 ⟨v203, rfl, ho0, hb⟩; refine ⟨_, rfl, ?_⟩; have n0_ := As.mk (Kd.R_lower ho0 (bsz (by repeat (first | (with_reducible first | exact HB.out | apply bal | apply pwn | apply bdw | refine bst ?_ GE201.out) | exact HB.out)))); have n1_ := As.mk (kbw (g := gb201) (o := .cells #[.bool false, .slice none 0 0] 31 (0, 0)) (by (with_reducible repeat (first | refine kdn ?_ _ | refine kdr ?_ | refine kal ?_ _)); exact BK201.out) hb); have n2_ := As.mk (bsp (by repeat (first | (with_reducible first | exact HB.out | apply bal | apply pwn | apply bdw | refine bst ?_ GE201.out) | exact HB.out)) hb); clear BK201; clear HB; have HO204 := n0_; have BK201 := n1_; have HB := n2_; clear n0_ n1_ n2_; (try clear hb); (try clear hb2); (try clear hk); (try clear hi); (try clear ho0); obtain ⟨Ao7, co7, eo7⟩ := Kd.R_slice HO204.out; subst eo7) | ((with_reducible refine gate_callee (f := 6) rfl ?_); refine goesL_ (some 14) rfl rfl Tryz.func6 (by kernel_rfl) rfl #[.bool true, .slice Ao7 t202.length co7] rfl (by (try simp only [List.map_toArray, List.map_cons, List.map_nil]); first | done | rfl | (simp only [List.length_drop, List.length_take]; rfl)) ?_; (with_reducible refine (spec_Of.calls k true _ _ t202 t205 t206 _ ?side1 ?side2 A4.out).mono ?_); (case side1 => repeat (first | exact (Kd.R_reads' HO204.out).2.2 | (with_reducible refine Kd.C_alloc ?_ _) | (with_reducible refine Kd.C_drewN ?_ _) | (with_reducible refine Kd.C_drew ?_))); (case side2 => exact (Kd.R_reads' HO204.out).2.1); rintro e w8 ⟨v207, rfl, ho0, hb⟩; refine ⟨_, rfl, ?_⟩; have n0_ := As.mk (Kd.R_elder' (by (with_reducible repeat (first | apply Kd.R_alloc | apply Kd.R_drewN | apply Kd.R_drew)); exact HO204.out) (Kd.R_base ho0) hb); have n1_ := As.mk (Kd.R_lower (Kd.R_new' ho0 (Kd.R_lt (by (with_reducible repeat (first | apply Kd.R_alloc | apply Kd.R_drewN | apply Kd.R_drew)); exact HO204.out))) (bsz (by repeat (first | (with_reducible first | exact HB.out | apply bal | apply pwn | apply bdw | refine bst ?_ GE201.out) | exact HB.out)))); have n2_ := As.mk (kbw (g := gb201) (o := .cells #[.bool false, .slice none 0 0] 31 (0, 0)) (by (with_reducible repeat (first | refine kdn ?_ _ | refine kdr ?_ | refine kal ?_ _)); exact BK201.out) hb); have n3_ := As.mk (bsp (by repeat (first | (with_reducible first | exact HB.out | apply bal | apply pwn | apply bdw | refine bst ?_ GE201.out) | exact HB.out)) hb); clear HO204; clear BK201; clear HB; have HO204 := n0_; have HO208 := n1_; have BK201 := n2_; have HB := n3_; clear n0_ n1_ n2_ n3_; (try clear hb); (try clear hb2); (try clear hk); (try clear hi); (try clear ho0); have hcz9_0 : w8.cell? ⟨gb201, 0, none⟩ = some (.bool false) := (kcl BK201.out 0).trans rfl; have hcz9_1 : w8.cell? ⟨gb201, 1, none⟩ = some (.slice none 0 0) := (kcl BK201.out 1).trans rfl; have hfz9_0 := kfz BK201.out 0; have hfz9_1 := kfz BK201.out 1; obtain ⟨Ao10, co10, eo10⟩ := Kd.R_slice HO208.out; subst eo10))
    refine bodyPost_ret (results_cell_row rfl _ _ gb201 31 #[.bool t205, .slice Ao10 t206.length co10] (0, 0) _ rfl (by (with_reducible repeat (first | refine kdn ?_ _ | refine kdr ?_ | refine kal ?_ _)); refine blk_put (cs := #[.bool t205, .slice none 0 0]) ?_ 1 _ rfl; (with_reducible repeat (first | refine kdn ?_ _ | refine kdr ?_ | refine kal ?_ _)); refine blk_put (cs := #[.bool false, .slice none 0 0]) ?_ 0 _ rfl; (with_reducible repeat (first | refine kdn ?_ _ | refine kdr ?_ | refine kal ?_ _)); exact BK201.out) Tryz.underlying31 rfl (by kernel_rfl)) rfl ?_
    exact ⟨_, by first | rfl | (simp [errW_none, errW_some] <;> rfl) | (simp [*, errW_none, errW_some] <;> rfl), by (with_reducible repeat (first | apply Kd.R_alloc | apply Kd.R_drewN | apply Kd.R_drew)); exact Kd.R_mono (Kd.R_far (p := ⟨gb201, 1, none⟩) (Kd.R_far (p := ⟨gb201, 0, none⟩) (Kd.R_types HO208.out BK201.out (by decide)) (fun _ hk => hk.2) (.bool t205)) (fun _ hk => hk.2) (.slice Ao10 t206.length co10)) (fun _ hk => trivial), by repeat (first | (with_reducible first | exact HB.out | apply bal | apply pwn | apply bdw | refine bst ?_ GE201.out) | exact HB.out)⟩
  · rw [if_neg c2] at H
    have c2b0 : decide (a0 < 0) = false := decide_eq_false c2
    clear c2
    replace H := Option.bind_eq_some_iff.mp H
    obtain ⟨t209, A110, H⟩ := H
    replace H : ((spec_Of.f k (decide (a0 < 0)) t209).bind fun bt212 => (some (bt212.1, bt212.2))) = some (r1, r2) := H
    have A11 := As.mk A110
    clear A110
    replace H := Option.bind_eq_some_iff.mp H
    obtain ⟨⟨t212, t213⟩, A120, H⟩ := H
    replace H : (some (t212, t213)) = some (r1, r2) := H
    rw [c2b0] at A120
    have A12 := As.mk A120
    clear A120
    simp only [Option.some.injEq, Prod.mk.injEq] at H
    obtain ⟨rfl, rfl⟩ := H
    go_enter Tryz.func34, Tryz.ntmps34
    go_wp2_with (first | ((with_reducible refine gate_dst (N := 2) rfl ?_); refine box_event ?hg (N := 2) ?hd (cs := #[.bool false, .slice none 0 0]) (t := 31) ?hr ?_; (case hd => rfl); (case hg => rfl); (case hr => first | (go_simp; done) | (go_simp; rfl)); intro gb201 hg w13 hbox hb; have n0_ := As.mk (bsp (by repeat (first | (with_reducible first | exact HB.out | apply bal | apply pwn | apply bdw) | exact HB.out)) hb); have n1_ := As.mk (hbox); have n2_ := As.mk ((by rw [hg]; exact (bsz (by repeat (first | (with_reducible first | exact HB.out | apply bal | apply pwn | apply bdw) | exact HB.out))) : w.heap.size ≤ gb201)); have n3_ := As.mk ((by rw [hg]; exact (bsz (by repeat (first | (with_reducible first | exact HB.out | apply bal | apply pwn | apply bdw) | exact HB.out))) : w.heap.size ≤ gb201)); clear HB; have HB := n0_; have BK201 := n1_; have GW201 := n2_; have GE201 := n3_; clear n0_ n1_ n2_ n3_; clear hb hbox hg) | ((with_reducible refine gate_callee (f := 54) rfl ?_); refine goesL_ (some 13) rfl rfl Tryz.func54 (by kernel_rfl) rfl #[.int .u64 (IntKind.u64.wrap (a0))] rfl (by (try simp only [List.map_toArray, List.map_cons, List.map_nil]); first | done | rfl | (simp only [List.length_drop, List.length_take]; rfl)) ?_; (with_reducible refine (spec_bytesOf.calls k (IntKind.u64.wrap (a0)) t209 _ A11.out).mono ?_); rintro e w14 ⟨v210, rfl, ho0, hb⟩; refine ⟨_, rfl, ?_⟩; have n0_ := As.mk (Kd.R_lower ho0 (bsz (by repeat (first | (with_reducible first | exact HB.out | apply bal | apply pwn | apply bdw | refine bst ?_ GE201.out) | exact HB.out)))); have n1_ := As.mk (kbw (g := gb201) (o := .cells #[.bool false, .slice none 0 0] 31 (0, 0)) (by (with_reducible repeat (first | refine kdn ?_ _ | refine kdr ?_ | refine kal ?_ _)); exact BK201.out) hb); have n2_ := As.mk (bsp (by repeat (first | (with_reducible first | exact HB.out | apply bal | apply pwn | apply bdw | refine bst ?_ GE201.out) | exact HB.out)) hb); clear BK201; clear HB; have HO211 := n0_; have BK201 := n1_; have HB := n2_; clear n0_ n1_ n2_; (try clear hb); (try clear hb2); (try clear hk); (try clear hi); (try clear ho0); obtain ⟨Ao15, co15, eo15⟩ := Kd.R_slice HO211.out; subst eo15) | ((with_reducible refine gate_callee (f := 6) rfl ?_); refine goesL_ (some 14) rfl rfl Tryz.func6 (by kernel_rfl) rfl #[.bool false, .slice Ao15 t209.length co15] rfl (by (try simp only [List.map_toArray, List.map_cons, List.map_nil]); first | done | rfl | (simp only [List.length_drop, List.length_take]; rfl)) ?_; (with_reducible refine (spec_Of.calls k false _ _ t209 t212 t213 _ ?side1 ?side2 A12.out).mono ?_); (case side1 => repeat (first | exact (Kd.R_reads' HO211.out).2.2 | (with_reducible refine Kd.C_alloc ?_ _) | (with_reducible refine Kd.C_drewN ?_ _) | (with_reducible refine Kd.C_drew ?_))); (case side2 => exact (Kd.R_reads' HO211.out).2.1); rintro e w16 ⟨v214, rfl, ho0, hb⟩; refine ⟨_, rfl, ?_⟩; have n0_ := As.mk (Kd.R_elder' (by (with_reducible repeat (first | apply Kd.R_alloc | apply Kd.R_drewN | apply Kd.R_drew)); exact HO211.out) (Kd.R_base ho0) hb); have n1_ := As.mk (Kd.R_lower (Kd.R_new' ho0 (Kd.R_lt (by (with_reducible repeat (first | apply Kd.R_alloc | apply Kd.R_drewN | apply Kd.R_drew)); exact HO211.out))) (bsz (by repeat (first | (with_reducible first | exact HB.out | apply bal | apply pwn | apply bdw | refine bst ?_ GE201.out) | exact HB.out)))); have n2_ := As.mk (kbw (g := gb201) (o := .cells #[.bool false, .slice none 0 0] 31 (0, 0)) (by (with_reducible repeat (first | refine kdn ?_ _ | refine kdr ?_ | refine kal ?_ _)); exact BK201.out) hb); have n3_ := As.mk (bsp (by repeat (first | (with_reducible first | exact HB.out | apply bal | apply pwn | apply bdw | refine bst ?_ GE201.out) | exact HB.out)) hb); clear HO211; clear BK201; clear HB; have HO211 := n0_; have HO215 := n1_; have BK201 := n2_; have HB := n3_; clear n0_ n1_ n2_ n3_; (try clear hb); (try clear hb2); (try clear hk); (try clear hi); (try clear ho0); have hcz17_0 : w16.cell? ⟨gb201, 0, none⟩ = some (.bool false) := (kcl BK201.out 0).trans rfl; have hcz17_1 : w16.cell? ⟨gb201, 1, none⟩ = some (.slice none 0 0) := (kcl BK201.out 1).trans rfl; have hfz17_0 := kfz BK201.out 0; have hfz17_1 := kfz BK201.out 1; obtain ⟨Ao18, co18, eo18⟩ := Kd.R_slice HO215.out; subst eo18))
    refine bodyPost_ret (results_cell_row rfl _ _ gb201 31 #[.bool t212, .slice Ao18 t213.length co18] (0, 0) _ rfl (by (with_reducible repeat (first | refine kdn ?_ _ | refine kdr ?_ | refine kal ?_ _)); refine blk_put (cs := #[.bool t212, .slice none 0 0]) ?_ 1 _ rfl; (with_reducible repeat (first | refine kdn ?_ _ | refine kdr ?_ | refine kal ?_ _)); refine blk_put (cs := #[.bool false, .slice none 0 0]) ?_ 0 _ rfl; (with_reducible repeat (first | refine kdn ?_ _ | refine kdr ?_ | refine kal ?_ _)); exact BK201.out) Tryz.underlying31 rfl (by kernel_rfl)) rfl ?_
    exact ⟨_, by first | rfl | (simp [errW_none, errW_some] <;> rfl) | (simp [*, errW_none, errW_some] <;> rfl), by (with_reducible repeat (first | apply Kd.R_alloc | apply Kd.R_drewN | apply Kd.R_drew)); exact Kd.R_mono (Kd.R_far (p := ⟨gb201, 1, none⟩) (Kd.R_far (p := ⟨gb201, 0, none⟩) (Kd.R_types HO215.out BK201.out (by decide)) (fun _ hk => hk.2) (.bool t212)) (fun _ hk => hk.2) (.slice Ao18 t213.length co18)) (fun _ hk => trivial), by repeat (first | (with_reducible first | exact HB.out | apply bal | apply pwn | apply bdw | refine bst ?_ GE201.out) | exact HB.out)⟩
def spec_Power.f (k : Nat) (a0 : Int) : Option (Bool × List Int) := if 0 ≤ (wrap64 ((wrap64 (Int.tdiv a0 8)) + 1)) then (if (wrap64 ((wrap64 (Int.tdiv a0 8)) + 1) : Int).toNat ≤ 281474976710656 then ((some (List.replicate (wrap64 ((wrap64 (Int.tdiv a0 8)) + 1) : Int).toNat 0 : List Int)).bind fun y217 => (if 0 ≤ (IntKind.u64.wrap (Int.tmod a0 8)) then (if 0 < (y217.length : Int) then ((spec_Of.f k false (y217.set (0 : Int).toNat (shl .u8 1 (IntKind.u64.wrap (Int.tmod a0 8))))).bind fun bt221 => (some (bt221.1, bt221.2))) else (none)) else (none))) else (none)) else (none)
theorem spec_Power.mono : ∀ a0 k, LeO (spec_Power.f k a0) (spec_Power.f (k + 1) a0) := by
  intro a0 k
  unfold spec_Power.f
  repeat' first
      | (with_reducible exact spec_Of.mono _ _ _)
      | (with_reducible exact LeO.refl _)
      | (with_reducible exact LeO.none _)
      | (with_reducible refine LeO.ite ?_ ?_)
      | (with_reducible refine LeO.bind ?_ (fun _ => ?_))
      | exact spec_Of.mono _ _ _
      | exact LeO.none _
      | refine LeO.ite ?_ ?_
      | refine LeO.bind ?_ (fun _ => ?_)
set_option maxHeartbeats 8000000 in
set_option maxRecDepth 100000 in
theorem spec_Power.calls (k : Nat) (a0 : Int) (r1 : Bool) (r2 : List Int) (w : World) (h : spec_Power.f k a0 = some (r1, r2)) :
    Calls Tryz.prog 64 #[.int .i64 a0] w fun e w' => ∃ v1_ : Value, e = .returned (.agg #[.bool r1, v1_]) ∧ Kd.R (Kd.int .u8) 5 w' w.heap.size (fun _ => True) v1_ r2 ∧ Below w.heap.size w w' := by
  have hu31 := Tryz.underlying31
  have HB := As.mk (Below.refl w.heap.size w)
  have H : (if 0 ≤ (wrap64 ((wrap64 (Int.tdiv a0 8)) + 1)) then (if (wrap64 ((wrap64 (Int.tdiv a0 8)) + 1) : Int).toNat ≤ 281474976710656 then ((some (List.replicate (wrap64 ((wrap64 (Int.tdiv a0 8)) + 1) : Int).toNat 0 : List Int)).bind fun y217 => (if 0 ≤ (IntKind.u64.wrap (Int.tmod a0 8)) then (if 0 < (y217.length : Int) then ((spec_Of.f k false (y217.set (0 : Int).toNat (shl .u8 1 (IntKind.u64.wrap (Int.tmod a0 8))))).bind fun bt221 => (some (bt221.1, bt221.2))) else (none)) else (none))) else (none)) else (none)) = some (r1, r2) := h
  clear h
  obtain ⟨ji2, hji2⟩ : ∃ j_ : Int, (wrap64 ((wrap64 (Int.tdiv a0 8)) + 1)) = j_ := ⟨_, rfl⟩
  replace H : (if 0 ≤ (ji2) then (if (ji2 : Int).toNat ≤ 281474976710656 then ((some (List.replicate (ji2 : Int).toNat 0 : List Int)).bind fun y217 => (if 0 ≤ (IntKind.u64.wrap (Int.tmod a0 8)) then (if 0 < (y217.length : Int) then ((spec_Of.f k false (y217.set (0 : Int).toNat (shl .u8 1 (IntKind.u64.wrap (Int.tmod a0 8))))).bind fun bt221 => (some (bt221.1, bt221.2))) else (none)) else (none))) else (none)) else (none)) = some (r1, r2) := by first | (rw [hji2] at H; exact H) | (simp only [hji2] at H ⊢; exact H)
  have hji2w : (IntKind.i64.wrap ((wrap64 (Int.tdiv a0 8)) + 1)) = ji2 := (i64_w _).trans hji2
  by_cases c3 : 0 ≤ (ji2)
  · rw [if_pos c3] at H
    have c3b0 := eq_true c3
    have c3b1 : decide (0 ≤ (ji2)) = true := decide_eq_true c3
    clear c3
    by_cases c4 : (ji2 : Int).toNat ≤ 281474976710656
    · rw [if_pos c4] at H
      have c4b0 := eq_true c4
      have c4b1 : decide ((ji2 : Int).toNat ≤ 281474976710656) = true := decide_eq_true c4
      clear c4
      obtain ⟨y217, hy217⟩ : ∃ y_ : List Int, y_ = (List.replicate (ji2 : Int).toNat 0) := ⟨_, rfl⟩
      replace H : (if 0 ≤ (IntKind.u64.wrap (Int.tmod a0 8)) then (if 0 < (y217.length : Int) then ((spec_Of.f k false (y217.set (0 : Int).toNat (shl .u8 1 (IntKind.u64.wrap (Int.tmod a0 8))))).bind fun bt221 => (some (bt221.1, bt221.2))) else (none)) else (none)) = some (r1, r2) := by first | (rw [hy217]; with_reducible exact H) | (have H2_ := (Option.bind_some _ _).symm.trans H; rw [hy217]; with_reducible exact H2_) | (have H2_ := (Option.bind_some _ _).symm.trans H; with_reducible exact H2_) | with_reducible exact H | (rw [hy217]; exact H) | exact H
      have Ny217 := As.mk hy217
      clear hy217
      obtain ⟨ji5, hji5⟩ : ∃ j_ : Int, (IntKind.u64.wrap (Int.tmod a0 8)) = j_ := ⟨_, rfl⟩
      replace H : (if 0 ≤ (ji5) then (if 0 < (y217.length : Int) then ((spec_Of.f k false (y217.set (0 : Int).toNat (shl .u8 1 (ji5)))).bind fun bt221 => (some (bt221.1, bt221.2))) else (none)) else (none)) = some (r1, r2) := by first | (rw [hji5] at H; exact H) | (simp only [hji5] at H ⊢; exact H)
      by_cases c6 : 0 ≤ (ji5)
      · rw [if_pos c6] at H
        have c6b0 := eq_true c6
        have c6b1 : decide (0 ≤ (ji5)) = true := decide_eq_true c6
        clear c6
        obtain ⟨ji7, hji7⟩ : ∃ j_ : Int, (shl .u8 1 (ji5)) = j_ := ⟨_, rfl⟩
        replace H : (if 0 < (y217.length : Int) then ((spec_Of.f k false (y217.set (0 : Int).toNat (ji7))).bind fun bt221 => (some (bt221.1, bt221.2))) else (none)) = some (r1, r2) := by first | (rw [hji7] at H; exact H) | (simp only [hji7] at H ⊢; exact H)
        have hji7_ : (IntKind.u8.wrap (1 * 2 ^ min (ji5).toNat 8)) = ji7 := hji7
        have hji7z : (ji5) ≤ 8 → (IntKind.u8.wrap (1 * 2 ^ (ji5).toNat)) = ji7 := shl_small hji7
        have hji7u : (IntKind.u8.wrap (2 ^ min (ji5).toNat 8)) = ji7 := by have h_ := hji7_; rw [Int.one_mul] at h_; exact h_
        have hji7v : (ji5) ≤ 8 → (IntKind.u8.wrap (2 ^ (ji5).toNat)) = ji7 := fun hle_ => by have h_ := hji7z hle_; rw [Int.one_mul] at h_; exact h_
        by_cases c8 : 0 < (y217.length : Int)
        · rw [if_pos c8] at H
          have c8b0 : decide (0 < (y217.length : Int)) = true := decide_eq_true c8
          have c8b1 : decide (0 < y217.length) = true := decide_eq_true (by omega)
          clear c8
          obtain ⟨y220, hy220⟩ : ∃ y_ : List Int, y_ = (y217.set (0 : Int).toNat (ji7)) := ⟨_, rfl⟩
          replace H : ((spec_Of.f k false y220).bind fun bt221 => (some (bt221.1, bt221.2))) = some (r1, r2) := by first | (rw [hy220]; with_reducible exact H) | (have H2_ := (Option.bind_some _ _).symm.trans H; rw [hy220]; with_reducible exact H2_) | (have H2_ := (Option.bind_some _ _).symm.trans H; with_reducible exact H2_) | with_reducible exact H | (rw [hy220]; exact H) | exact H
          have Ny220 := As.mk hy220
          clear hy220
          replace H := Option.bind_eq_some_iff.mp H
          obtain ⟨⟨t221, t222⟩, A100, H⟩ := H
          replace H : (some (t221, t222)) = some (r1, r2) := H
          have A10 := As.mk A100
          clear A100
          simp only [Option.some.injEq, Prod.mk.injEq] at H
          obtain ⟨rfl, rfl⟩ := H
          go_enter Tryz.func64, Tryz.ntmps64
          go_wp2_with (first | ((with_reducible refine gate_dst (N := 2) rfl ?_); refine box_event ?hg (N := 2) ?hd (cs := #[.bool false, .slice none 0 0]) (t := 31) ?hr ?_; (case hd => rfl); (case hg => rfl); (case hr => first | (go_simp; done) | (go_simp; rfl)); intro gb216 hg w11 hbox hb; have n0_ := As.mk (bsp (by repeat (first | (with_reducible first | exact HB.out | apply bal | apply pwn | apply bdw) | exact HB.out)) hb); have n1_ := As.mk (hbox); have n2_ := As.mk ((by rw [hg]; exact (bsz (by repeat (first | (with_reducible first | exact HB.out | apply bal | apply pwn | apply bdw) | exact HB.out))) : w.heap.size ≤ gb216)); have n3_ := As.mk ((by rw [hg]; exact (bsz (by repeat (first | (with_reducible first | exact HB.out | apply bal | apply pwn | apply bdw) | exact HB.out))) : w.heap.size ≤ gb216)); clear HB; have HB := n0_; have BK216 := n1_; have GW216 := n2_; have GE216 := n3_; clear n0_ n1_ n2_ n3_; clear hb hbox hg) | ((with_reducible refine gate_dst (N := 7) rfl ?_); refine Kd.R_make (Kd.int .u8) _ 5 rfl (N := 7) rfl 23 _ _ rfl ji2 rfl rfl Tryz.underlying23 (.int .u8 0) 1 info5 rfl (by decide) (by omega) 0 (ok := fun _ => True) (okp := fun _ => True) rfl (fun _ hk => hk) trivial (of_decide_eq_true (by first | (with_reducible assumption) | assumption)) (Nat.le_trans (Nat.mul_le_mul_right _ (of_decide_eq_true (by first | (with_reducible assumption) | assumption) : ji2.toNat ≤ 281474976710656)) (by omega)) (Below.refl _ _) (Nat.le_refl _) ?_; intro v218 w12 ho13 hb hg_ hnew_; clear hg_ hnew_; (first | rw [← Ny217.out] at ho13 | (simp only [Int.reduceToNat] at ho13; rw [← Ny217.out] at ho13)); have n0_ := As.mk (Kd.R_lower ho13 (bsz (by repeat (first | (with_reducible first | exact HB.out | apply bal | apply pwn | apply bdw | refine bst ?_ GE216.out) | exact HB.out)))); have n1_ := As.mk (kbw (g := gb216) (o := .cells #[.bool false, .slice none 0 0] 31 (0, 0)) (by (with_reducible repeat (first | refine kdn ?_ _ | refine kdr ?_ | refine kal ?_ _)); exact BK216.out) hb); have n2_ := As.mk (bsp (by repeat (first | (with_reducible first | exact HB.out | apply bal | apply pwn | apply bdw | refine bst ?_ GE216.out) | exact HB.out)) hb); clear BK216; clear HB; have HO219 := n0_; have BK216 := n1_; have HB := n2_; clear n0_ n1_ n2_; clear hb ho13; have p9 : 0 ≤ (0 : Int) := (by omega); have q9 : (0 : Int) < ((y217.length : Int) : Int) := of_decide_eq_true (by first | (with_reducible assumption) | assumption); have qi9 : (0 < y217.length) = True := eq_true (by omega); obtain ⟨go9, co9, eo9, gb9, gl9, cl9, HG9⟩ := Kd.R_form HO219.out (by omega); (first | cases eo9 | (injection eo9 with ea_ en_ ec_; (first | subst ea_ | (injection ea_ with ea_; subst ea_)); subst ec_; clear en_)); have GB9 := As.mk gb9; have GG9 := As.mk HG9; clear gb9 gl9 HG9; obtain ⟨hx9_0, hf9_0⟩ := Kd.R_celln 0 HO219.out (0 : Int) p9 q9; (try rw [show ((0 : Int)).toNat = 0 from rfl] at hx9_0); (try simp only [Nat.reduceMul, Nat.zero_mul, Nat.zero_add, Nat.reduceAdd] at hx9_0); (try rw [show ((0 : Int)).toNat = 0 from rfl] at hf9_0); (try simp only [Nat.reduceMul, Nat.zero_mul, Nat.zero_add, Nat.reduceAdd] at hf9_0); replace p9 := eq_true p9; replace q9 := eq_true q9; obtain ⟨hy14_, hz14_⟩ := Kd.R_celln 0 HO219.out (0 : Int) (by omega) (of_decide_eq_true (by first | (with_reducible assumption) | assumption)); (try simp only [Int.reduceToNat, Int.toNat_zero, Int.toNat_ofNat, Nat.reduceMul, Nat.zero_mul, Nat.zero_add] at hy14_ hz14_); (try rw [show ((0 : Int)).toNat = 0 from rfl] at hy14_); (try rw [show ((0 : Int)).toNat = 0 from rfl] at hz14_); have HP14 := Kd.R_putg HO219.out (0 : Int) ji7) | ((with_reducible refine gate_store (t := 5) (p := 13) rfl ?_); refine store_event (t := 5) (p := 13) (v := ?vo_w15) (w1 := (w12.setCell ⟨go9, (0 : Int).toNat, none⟩ (.int .u8 ji7))) ?hg ?ho ?hn ?hr ?_; (case ho => rfl); (case hg => rfl); (case hn => rfl); (case hr => first | (go_simp; done) | (go_simp; rfl)); intro w15 hw; have hg : w12.grownBy w15 (some go9) := (by rw [hw]; exact HP14.2); have hp_ : Kd.R (Kd.int .u8) 5 w15 w.heap.size (fun _ => True) (.slice (some ⟨go9, 0, none⟩) y217.length co9) y220 := (by rw [hw, Ny220.out]; exact HP14.1); clear HP14; have n0_ := As.mk (blk_grown (g := gb216) (o := .cells #[.bool false, .slice none 0 0] 31 (0, 0)) (by (with_reducible repeat (first | refine kdn ?_ _ | refine kdr ?_ | refine kal ?_ _)); exact BK216.out) hg (Kd.R_ne HO219.out BK216.out (by decide))); have n1_ := As.mk (hp_); have n2_ := As.mk ((by rw [hw]; exact bst (HB.out) GB9.out : Below w.heap.size w w15)); clear BK216; clear HO219; clear HB; have BK216 := n0_; have HO219 := n1_; have HB := n2_; clear n0_ n1_ n2_; clear hg hw hp_) | ((with_reducible refine gate_callee (f := 6) rfl ?_); refine goesL_ (some 15) rfl rfl Tryz.func6 (by kernel_rfl) rfl #[.bool false, .slice (some ⟨go9, 0, none⟩) y220.length co9] rfl (by (try simp only [List.map_toArray, List.map_cons, List.map_nil]); first | done | (rw [show y220.length = y217.length from (Kd.R_reads' HO219.out).1.symm] <;> rfl) | rfl | (simp only [List.length_drop, List.length_take]; rfl)) ?_; (with_reducible refine (spec_Of.calls k false _ _ y220 t221 t222 _ ?side1 ?side2 A10.out).mono ?_); (case side1 => repeat (first | exact (Kd.R_reads' HO219.out).2.2 | (with_reducible refine Kd.C_alloc ?_ _) | (with_reducible refine Kd.C_drewN ?_ _) | (with_reducible refine Kd.C_drew ?_))); (case side2 => rw [show y220.length = y217.length from (Kd.R_reads' HO219.out).1.symm]; exact (Kd.R_reads' HO219.out).2.1); rintro e w16 ⟨v223, rfl, ho0, hb⟩; refine ⟨_, rfl, ?_⟩; have n0_ := As.mk (Kd.R_elder' (by (with_reducible repeat (first | apply Kd.R_alloc | apply Kd.R_drewN | apply Kd.R_drew)); exact HO219.out) (Kd.R_base ho0) hb); have n1_ := As.mk (Kd.R_lower (Kd.R_new' ho0 (Kd.R_lt (by (with_reducible repeat (first | apply Kd.R_alloc | apply Kd.R_drewN | apply Kd.R_drew)); exact HO219.out))) (bsz (by repeat (first | (with_reducible first | exact HB.out | apply bal | apply pwn | apply bdw | refine bst ?_ GE216.out) | exact HB.out)))); have n2_ := As.mk (kbw (g := gb216) (o := .cells #[.bool false, .slice none 0 0] 31 (0, 0)) (by (with_reducible repeat (first | refine kdn ?_ _ | refine kdr ?_ | refine kal ?_ _)); exact BK216.out) hb); have n3_ := As.mk (bsp (by repeat (first | (with_reducible first | exact HB.out | apply bal | apply pwn | apply bdw | refine bst ?_ GE216.out) | exact HB.out)) hb); clear HO219; clear BK216; clear HB; have HO219 := n0_; have HO224 := n1_; have BK216 := n2_; have HB := n3_; clear n0_ n1_ n2_ n3_; (try clear hb); (try clear hb2); (try clear hk); (try clear hi); (try clear ho0); have hcz17_0 : w16.cell? ⟨gb216, 0, none⟩ = some (.bool false) := (kcl BK216.out 0).trans rfl; have hcz17_1 : w16.cell? ⟨gb216, 1, none⟩ = some (.slice none 0 0) := (kcl BK216.out 1).trans rfl; have hfz17_0 := kfz BK216.out 0; have hfz17_1 := kfz BK216.out 1; obtain ⟨Ao18, co18, eo18⟩ := Kd.R_slice HO224.out; subst eo18))
          refine bodyPost_ret (results_cell_row rfl _ _ gb216 31 #[.bool t221, .slice Ao18 t222.length co18] (0, 0) _ rfl (by (with_reducible repeat (first | refine kdn ?_ _ | refine kdr ?_ | refine kal ?_ _)); refine blk_put (cs := #[.bool t221, .slice none 0 0]) ?_ 1 _ rfl; (with_reducible repeat (first | refine kdn ?_ _ | refine kdr ?_ | refine kal ?_ _)); refine blk_put (cs := #[.bool false, .slice none 0 0]) ?_ 0 _ rfl; (with_reducible repeat (first | refine kdn ?_ _ | refine kdr ?_ | refine kal ?_ _)); exact BK216.out) Tryz.underlying31 rfl (by kernel_rfl)) rfl ?_
          exact ⟨_, by first | rfl | (simp [errW_none, errW_some] <;> rfl) | (simp only [← hji2, ← hji5, ← hji7]; first | rfl | (simp [errW_none, errW_some] <;> rfl)) | (simp [*, errW_none, errW_some] <;> rfl), by (with_reducible repeat (first | apply Kd.R_alloc | apply Kd.R_drewN | apply Kd.R_drew)); exact Kd.R_mono (Kd.R_far (p := ⟨gb216, 1, none⟩) (Kd.R_far (p := ⟨gb216, 0, none⟩) (Kd.R_types HO224.out BK216.out (by decide)) (fun _ hk => hk.2) (.bool t221)) (fun _ hk => hk.2) (.slice Ao18 t222.length co18)) (fun _ hk => trivial), by repeat (first | (with_reducible first | exact HB.out | apply bal | apply pwn | apply bdw | refine bst ?_ GE216.out) | exact HB.out)⟩
        · rw [if_neg c8] at H
          exact absurd H (by simp)
      · rw [if_neg c6] at H
        exact absurd H (by simp)
    · rw [if_neg c4] at H
      exact absurd H (by simp)
  · rw [if_neg c3] at H
    exact absurd H (by simp)
mutual
def spec_Int_Mul.l0 : Nat → Int → List Int → Int → Bool → List Int → Bool → List Int → Option (Bool × List Int)
  | 0, _, _, _, _, _, _, _ => none
  | k + 1, x5, x6, x7, x226000, x226001, x227000, x227001 => if x7 < (x226001.length : Int) then (spec_Int_Mul.l1 k x5 x6 x7 0 0 x226000 x226001 x227000 x227001) else (if 0 ≤ x5 then (if (x5 : Int).toNat ≤ 281474976710656 then (spec_Int_Mul.l2 k x5 x6 (List.replicate (x5 : Int).toNat 0) 0 x226000 x226001 x227000 x227001) else (none)) else (none))
def spec_Int_Mul.l1 : Nat → Int → List Int → Int → Int → Int → Bool → List Int → Bool → List Int → Option (Bool × List Int)
  | 0, _, _, _, _, _, _, _, _, _ => none
  | k + 1, x5, x6, x7, x8, x9, x226000, x226001, x227000, x227001 => if x9 < (x227001.length : Int) then (spec_Int_Mul.j2 k x5 x6 x7 x8 x9 true x226000 x226001 x227000 x227001) else (spec_Int_Mul.j2 k x5 x6 x7 x8 x9 (decide (x8 > 0)) x226000 x226001 x227000 x227001)
def spec_Int_Mul.j2 : Nat → Int → List Int → Int → Int → Int → Bool → Bool → List Int → Bool → List Int → Option (Bool × List Int)
  | 0, _, _, _, _, _, _, _, _, _, _ => none
  | k + 1, x5, x6, x7, x8, x9, x38, x226000, x226001, x227000, x227001 => if x38 = true then (if 0 ≤ (wrap64 (x7 + x9)) then (if (wrap64 (x7 + x9)) < (x6.length : Int) then ((spec_digit.f x226001 x7).bind fun t232 => ((spec_digit.f x227001 x9).bind fun t233 => (spec_Int_Mul.l1 k x5 (x6.set ((wrap64 (x7 + x9)) : Int).toNat (Int.tmod (wrap64 ((wrap64 ((rd x6 (wrap64 (x7 + x9))) + (wrap64 (t232 * t233)))) + x8)) 256)) x7 (wrap64 (Int.tdiv (wrap64 ((wrap64 ((rd x6 (wrap64 (x7 + x9))) + (wrap64 (t232 * t233)))) + x8)) 256)) (wrap64 (x9 + 1)) x226000 x226001 x227000 x227001))) else (none)) else (none)) else (spec_Int_Mul.l0 k x5 x6 (wrap64 (x7 + 1)) x226000 x226001 x227000 x227001)
def spec_Int_Mul.l2 : Nat → Int → List Int → List Int → Int → Bool → List Int → Bool → List Int → Option (Bool × List Int)
  | 0, _, _, _, _, _, _, _, _ => none
  | k + 1, x5, x6, x11, x12, x226000, x226001, x227000, x227001 => if x12 < x5 then (if 0 ≤ x12 then (if x12 < (x6.length : Int) then (if 0 ≤ (wrap64 ((wrap64 (x5 - 1)) - x12)) then (if (wrap64 ((wrap64 (x5 - 1)) - x12)) < (x11.length : Int) then (spec_Int_Mul.l2 k x5 x6 (x11.set ((wrap64 ((wrap64 (x5 - 1)) - x12)) : Int).toNat ((rd x6 x12) % 256)) (wrap64 (x12 + 1)) x226000 x226001 x227000 x227001) else (none)) else (none)) else (none)) else (none)) else ((spec_Of.f k (x226000 != x227000) x11).bind fun bt240 => (some (bt240.1, bt240.2)))
end
def spec_Int_Mul.f (k : Nat) (a0_0 : Bool) (l0_1 : List Int) (a1_0 : Bool) (l1_1 : List Int) : Option (Bool × List Int) := if 0 ≤ (wrap64 ((wrap64 ((l0_1.length : Int) + (l1_1.length : Int))) + 1)) then (if (wrap64 ((wrap64 ((l0_1.length : Int) + (l1_1.length : Int))) + 1) : Int).toNat ≤ 35184372088832 then (spec_Int_Mul.l0 k (wrap64 ((l0_1.length : Int) + (l1_1.length : Int))) (List.replicate (wrap64 ((wrap64 ((l0_1.length : Int) + (l1_1.length : Int))) + 1) : Int).toNat 0) 0 a0_0 l0_1 a1_0 l1_1) else (none)) else (none)
theorem spec_Int_Mul.mono_l : ∀ k, (∀ y0 y1 y2 y3 y4 y5 y6, LeO (spec_Int_Mul.l0 k y0 y1 y2 y3 y4 y5 y6) (spec_Int_Mul.l0 (k + 1) y0 y1 y2 y3 y4 y5 y6)) ∧ (∀ y0 y1 y2 y3 y4 y5 y6 y7 y8, LeO (spec_Int_Mul.l1 k y0 y1 y2 y3 y4 y5 y6 y7 y8) (spec_Int_Mul.l1 (k + 1) y0 y1 y2 y3 y4 y5 y6 y7 y8)) ∧ (∀ y0 y1 y2 y3 y4 y5 y6 y7 y8 y9, LeO (spec_Int_Mul.j2 k y0 y1 y2 y3 y4 y5 y6 y7 y8 y9) (spec_Int_Mul.j2 (k + 1) y0 y1 y2 y3 y4 y5 y6 y7 y8 y9)) ∧ (∀ y0 y1 y2 y3 y4 y5 y6 y7, LeO (spec_Int_Mul.l2 k y0 y1 y2 y3 y4 y5 y6 y7) (spec_Int_Mul.l2 (k + 1) y0 y1 y2 y3 y4 y5 y6 y7))
  | 0 => ⟨fun _ _ _ _ _ _ _ r h => by simp [spec_Int_Mul.l0] at h, fun _ _ _ _ _ _ _ _ _ r h => by simp [spec_Int_Mul.l1] at h, fun _ _ _ _ _ _ _ _ _ _ r h => by simp [spec_Int_Mul.j2] at h, fun _ _ _ _ _ _ _ _ r h => by simp [spec_Int_Mul.l2] at h⟩
  | k + 1 => by
    obtain ⟨ih0, ih1, ih2, ih3⟩ := spec_Int_Mul.mono_l k
    refine ⟨?_, ?_, ?_, ?_⟩
    · intro y0 y1 y2 y3 y4 y5 y6
      unfold spec_Int_Mul.l0
      repeat' first
      | (with_reducible exact ih0 _ _ _ _ _ _ _)
      | (with_reducible exact ih1 _ _ _ _ _ _ _ _ _)
      | (with_reducible exact ih2 _ _ _ _ _ _ _ _ _ _)
      | (with_reducible exact ih3 _ _ _ _ _ _ _ _)
      | (with_reducible exact spec_Of.mono _ _ _)
      | (with_reducible exact LeO.refl _)
      | (with_reducible exact LeO.none _)
      | (with_reducible refine LeO.ite ?_ ?_)
      | (with_reducible refine LeO.bind ?_ (fun _ => ?_))
      | exact ih0 _ _ _ _ _ _ _
      | exact ih1 _ _ _ _ _ _ _ _ _
      | exact ih2 _ _ _ _ _ _ _ _ _ _
      | exact ih3 _ _ _ _ _ _ _ _
      | exact spec_Of.mono _ _ _
      | exact LeO.none _
      | refine LeO.ite ?_ ?_
      | refine LeO.bind ?_ (fun _ => ?_)
    · intro y0 y1 y2 y3 y4 y5 y6 y7 y8
      unfold spec_Int_Mul.l1
      repeat' first
      | (with_reducible exact ih0 _ _ _ _ _ _ _)
      | (with_reducible exact ih1 _ _ _ _ _ _ _ _ _)
      | (with_reducible exact ih2 _ _ _ _ _ _ _ _ _ _)
      | (with_reducible exact ih3 _ _ _ _ _ _ _ _)
      | (with_reducible exact spec_Of.mono _ _ _)
      | (with_reducible exact LeO.refl _)
      | (with_reducible exact LeO.none _)
      | (with_reducible refine LeO.ite ?_ ?_)
      | (with_reducible refine LeO.bind ?_ (fun _ => ?_))
      | exact ih0 _ _ _ _ _ _ _
      | exact ih1 _ _ _ _ _ _ _ _ _
      | exact ih2 _ _ _ _ _ _ _ _ _ _
      | exact ih3 _ _ _ _ _ _ _ _
      | exact spec_Of.mono _ _ _
      | exact LeO.none _
      | refine LeO.ite ?_ ?_
      | refine LeO.bind ?_ (fun _ => ?_)
    · intro y0 y1 y2 y3 y4 y5 y6 y7 y8 y9
      unfold spec_Int_Mul.j2
      repeat' first
      | (with_reducible exact ih0 _ _ _ _ _ _ _)
      | (with_reducible exact ih1 _ _ _ _ _ _ _ _ _)
      | (with_reducible exact ih2 _ _ _ _ _ _ _ _ _ _)
      | (with_reducible exact ih3 _ _ _ _ _ _ _ _)
      | (with_reducible exact spec_Of.mono _ _ _)
      | (with_reducible exact LeO.refl _)
      | (with_reducible exact LeO.none _)
      | (with_reducible refine LeO.ite ?_ ?_)
      | (with_reducible refine LeO.bind ?_ (fun _ => ?_))
      | exact ih0 _ _ _ _ _ _ _
      | exact ih1 _ _ _ _ _ _ _ _ _
      | exact ih2 _ _ _ _ _ _ _ _ _ _
      | exact ih3 _ _ _ _ _ _ _ _
      | exact spec_Of.mono _ _ _
      | exact LeO.none _
      | refine LeO.ite ?_ ?_
      | refine LeO.bind ?_ (fun _ => ?_)
    · intro y0 y1 y2 y3 y4 y5 y6 y7
      unfold spec_Int_Mul.l2
      repeat' first
      | (with_reducible exact ih0 _ _ _ _ _ _ _)
      | (with_reducible exact ih1 _ _ _ _ _ _ _ _ _)
      | (with_reducible exact ih2 _ _ _ _ _ _ _ _ _ _)
      | (with_reducible exact ih3 _ _ _ _ _ _ _ _)
      | (with_reducible exact spec_Of.mono _ _ _)
      | (with_reducible exact LeO.refl _)
      | (with_reducible exact LeO.none _)
      | (with_reducible refine LeO.ite ?_ ?_)
      | (with_reducible refine LeO.bind ?_ (fun _ => ?_))
      | exact ih0 _ _ _ _ _ _ _
      | exact ih1 _ _ _ _ _ _ _ _ _
      | exact ih2 _ _ _ _ _ _ _ _ _ _
      | exact ih3 _ _ _ _ _ _ _ _
      | exact spec_Of.mono _ _ _
      | exact LeO.none _
      | refine LeO.ite ?_ ?_
      | refine LeO.bind ?_ (fun _ => ?_)
theorem spec_Int_Mul.mono : ∀ a0 a1 a2 a3 k, LeO (spec_Int_Mul.f k a0 a1 a2 a3) (spec_Int_Mul.f (k + 1) a0 a1 a2 a3) := by
  intro a0 a1 a2 a3 k
  obtain ⟨ih0, ih1, ih2, ih3⟩ := spec_Int_Mul.mono_l k
  unfold spec_Int_Mul.f
  repeat' first
      | (with_reducible exact ih0 _ _ _ _ _ _ _)
      | (with_reducible exact ih1 _ _ _ _ _ _ _ _ _)
      | (with_reducible exact ih2 _ _ _ _ _ _ _ _ _ _)
      | (with_reducible exact ih3 _ _ _ _ _ _ _ _)
      | (with_reducible exact spec_Of.mono _ _ _)
      | (with_reducible exact LeO.refl _)
      | (with_reducible exact LeO.none _)
      | (with_reducible refine LeO.ite ?_ ?_)
      | (with_reducible refine LeO.bind ?_ (fun _ => ?_))
      | exact ih0 _ _ _ _ _ _ _
      | exact ih1 _ _ _ _ _ _ _ _ _
      | exact ih2 _ _ _ _ _ _ _ _ _ _
      | exact ih3 _ _ _ _ _ _ _ _
      | exact spec_Of.mono _ _ _
      | exact LeO.none _
      | refine LeO.ite ?_ ?_
      | refine LeO.bind ?_ (fun _ => ?_)
set_option maxHeartbeats 8000000 in
set_option maxRecDepth 100000 in
theorem spec_Int_Mul.calls (k : Nat) (a0_0 : Bool) (A0_1 : Option Addr) (c0_1 : Nat) (l0_1 : List Int) (a1_0 : Bool) (A1_1 : Option Addr) (c1_1 : Nat) (l1_1 : List Int) (r1 : Bool) (r2 : List Int) (w : World) (hr0_1 : Kd.C (Kd.int .u8) w A0_1 l0_1.length l0_1) (hc0_1 : l0_1.length ≤ c0_1) (hr1_1 : Kd.C (Kd.int .u8) w A1_1 l1_1.length l1_1) (hc1_1 : l1_1.length ≤ c1_1) (h : spec_Int_Mul.f k a0_0 l0_1 a1_0 l1_1 = some (r1, r2)) :
    Calls Tryz.prog 82 #[.agg #[.bool a0_0, .slice A0_1 l0_1.length c0_1], .agg #[.bool a1_0, .slice A1_1 l1_1.length c1_1]] w fun e w' => ∃ v1_ : Value, e = .returned (.agg #[.bool r1, v1_]) ∧ Kd.R (Kd.int .u8) 5 w' w.heap.size (fun _ => True) v1_ r2 ∧ Below w.heap.size w w' := by
  have hu31 := Tryz.underlying31
  have HR0_1 := As.mk hr0_1
  have HC0_1 := As.mk hc0_1
  clear hr0_1 hc0_1
  have HR1_1 := As.mk hr1_1
  have HC1_1 := As.mk hc1_1
  clear hr1_1 hc1_1
  have HB := As.mk (Below.refl w.heap.size w)
  have H : (if 0 ≤ (wrap64 ((wrap64 ((l0_1.length : Int) + (l1_1.length : Int))) + 1)) then (if (wrap64 ((wrap64 ((l0_1.length : Int) + (l1_1.length : Int))) + 1) : Int).toNat ≤ 35184372088832 then (spec_Int_Mul.l0 k (wrap64 ((l0_1.length : Int) + (l1_1.length : Int))) (List.replicate (wrap64 ((wrap64 ((l0_1.length : Int) + (l1_1.length : Int))) + 1) : Int).toNat 0) 0 a0_0 l0_1 a1_0 l1_1) else (none)) else (none)) = some (r1, r2) := h
  clear h
  obtain ⟨ji3, hji3⟩ : ∃ j_ : Int, (wrap64 ((wrap64 ((l0_1.length : Int) + (l1_1.length : Int))) + 1)) = j_ := ⟨_, rfl⟩
  replace H : (if 0 ≤ (ji3) then (if (ji3 : Int).toNat ≤ 35184372088832 then (spec_Int_Mul.l0 k (wrap64 ((l0_1.length : Int) + (l1_1.length : Int))) (List.replicate (ji3 : Int).toNat 0) 0 a0_0 l0_1 a1_0 l1_1) else (none)) else (none)) = some (r1, r2) := by first | (rw [hji3] at H; exact H) | (simp only [hji3] at H ⊢; exact H)
  have hji3w : (IntKind.i64.wrap ((wrap64 ((l0_1.length : Int) + (l1_1.length : Int))) + 1)) = ji3 := (i64_w _).trans hji3
  by_cases c4 : 0 ≤ (ji3)
  · rw [if_pos c4] at H
    have c4b0 := eq_true c4
    have c4b1 : decide (0 ≤ (ji3)) = true := decide_eq_true c4
    clear c4
    by_cases c5 : (ji3 : Int).toNat ≤ 35184372088832
    · rw [if_pos c5] at H
      have c5b0 := eq_true c5
      have c5b1 : decide ((ji3 : Int).toNat ≤ 35184372088832) = true := decide_eq_true c5
      clear c5
      obtain ⟨y228, hy228⟩ : ∃ y_ : List Int, y_ = (List.replicate (ji3 : Int).toNat 0) := ⟨_, rfl⟩
      replace H : (spec_Int_Mul.l0 k (wrap64 ((l0_1.length : Int) + (l1_1.length : Int))) y228 0 a0_0 l0_1 a1_0 l1_1) = some (r1, r2) := by first | (rw [hy228]; with_reducible exact H) | (have H2_ := (Option.bind_some _ _).symm.trans H; rw [hy228]; with_reducible exact H2_) | (have H2_ := (Option.bind_some _ _).symm.trans H; with_reducible exact H2_) | with_reducible exact H | (rw [hy228]; exact H) | exact H
      have Ny228 := As.mk hy228
      clear hy228
      have H' := As.mk H
      clear H
      go_enter Tryz.func82, Tryz.ntmps82
      go_wp2_with (first | ((with_reducible refine gate_dst (N := 2) rfl ?_); refine box_event ?hg (N := 2) ?hd (cs := #[.bool a0_0, .slice A0_1 l0_1.length c0_1]) (t := 31) ?hr ?_; (case hd => rfl); (case hg => rfl); (case hr => first | (go_simp; done) | (go_simp; rfl)); intro gb225 hg w6 hbox hb; have n0_ := As.mk (bsp (by repeat (first | (with_reducible first | exact HB.out | apply bal | apply pwn | apply bdw) | exact HB.out)) hb); have n1_ := As.mk (hbox); have n2_ := As.mk ((by rw [hg]; exact (bsz (by repeat (first | (with_reducible first | exact HB.out | apply bal | apply pwn | apply bdw) | exact HB.out))) : w.heap.size ≤ gb225)); have n3_ := As.mk ((by rw [hg]; exact (bsz (by repeat (first | (with_reducible first | exact HB.out | apply bal | apply pwn | apply bdw) | exact HB.out))) : w.heap.size ≤ gb225)); clear HB; have HB := n0_; have BK225 := n1_; have GW225 := n2_; have GE225 := n3_; clear n0_ n1_ n2_ n3_; clear hb hbox hg) | ((with_reducible refine gate_dst (N := 3) rfl ?_); refine box_event ?hg (N := 3) ?hd (cs := #[.bool a1_0, .slice A1_1 l1_1.length c1_1]) (t := 31) ?hr ?_; (case hd => rfl); (case hg => rfl); (case hr => first | (go_simp; done) | (go_simp; rfl)); intro gb226 hg w7 hbox hb; have n0_ := As.mk (kbw (g := gb225) (o := .cells #[.bool a0_0, .slice A0_1 l0_1.length c0_1] 31 (0, 0)) (by (with_reducible repeat (first | refine kdn ?_ _ | refine kdr ?_ | refine kal ?_ _)); exact BK225.out) hb); have n1_ := As.mk (bsp (by repeat (first | (with_reducible first | exact HB.out | apply bal | apply pwn | apply bdw | refine bst ?_ GE225.out) | exact HB.out)) hb); have n2_ := As.mk (hbox); have n3_ := As.mk ((by rw [hg]; exact (bsz (by repeat (first | (with_reducible first | exact HB.out | apply bal | apply pwn | apply bdw | refine bst ?_ GE225.out) | exact HB.out))) : w.heap.size ≤ gb226)); have n4_ := As.mk ((by rw [hg]; exact (bsz (by repeat (first | (with_reducible first | exact HB.out | apply bal | apply pwn | apply bdw | refine bst ?_ GE225.out) | exact HB.out))) : w.heap.size ≤ gb226)); have n5_ := As.mk ((by rw [hg]; exact Nat.ne_of_lt (blk_lt (g := gb225) (o := .cells #[.bool a0_0, .slice A0_1 l0_1.length c0_1] 31 (0, 0)) (by (with_reducible repeat (first | refine kdn ?_ _ | refine kdr ?_ | refine kal ?_ _)); exact BK225.out)) : gb225 ≠ gb226)); have n6_ := As.mk ((by rw [hg]; exact Nat.ne_of_gt (blk_lt (g := gb225) (o := .cells #[.bool a0_0, .slice A0_1 l0_1.length c0_1] 31 (0, 0)) (by (with_reducible repeat (first | refine kdn ?_ _ | refine kdr ?_ | refine kal ?_ _)); exact BK225.out)) : gb226 ≠ gb225)); clear BK225; clear HB; have BK225 := n0_; have HB := n1_; have BK226 := n2_; have GW226 := n3_; have GE226 := n4_; have NB225_226 := n5_; have NB226_225 := n6_; clear n0_ n1_ n2_ n3_ n4_ n5_ n6_; clear hb hbox hg) | ((with_reducible refine gate_dst (N := 4) rfl ?_); refine box_event ?hg (N := 4) ?hd (cs := #[.bool false, .slice none 0 0]) (t := 31) ?hr ?_; (case hd => rfl); (case hg => rfl); (case hr => first | (go_simp; done) | (go_simp; rfl)); intro gb227 hg w8 hbox hb; have n0_ := As.mk (kbw (g := gb225) (o := .cells #[.bool a0_0, .slice A0_1 l0_1.length c0_1] 31 (0, 0)) (by (with_reducible repeat (first | refine kdn ?_ _ | refine kdr ?_ | refine kal ?_ _)); exact BK225.out) hb); have n1_ := As.mk (kbw (g := gb226) (o := .cells #[.bool a1_0, .slice A1_1 l1_1.length c1_1] 31 (0, 0)) (by (with_reducible repeat (first | refine kdn ?_ _ | refine kdr ?_ | refine kal ?_ _)); exact BK226.out) hb); have n2_ := As.mk (bsp (by repeat (first | (with_reducible first | exact HB.out | apply bal | apply pwn | apply bdw | refine bst ?_ GE225.out | refine bst ?_ GE226.out) | exact HB.out)) hb); have n3_ := As.mk (hbox); have n4_ := As.mk ((by rw [hg]; exact (bsz (by repeat (first | (with_reducible first | exact HB.out | apply bal | apply pwn | apply bdw | refine bst ?_ GE225.out | refine bst ?_ GE226.out) | exact HB.out))) : w.heap.size ≤ gb227)); have n5_ := As.mk ((by rw [hg]; exact (bsz (by repeat (first | (with_reducible first | exact HB.out | apply bal | apply pwn | apply bdw | refine bst ?_ GE225.out | refine bst ?_ GE226.out) | exact HB.out))) : w.heap.size ≤ gb227)); have n6_ := As.mk ((by rw [hg]; exact Nat.ne_of_lt (blk_lt (g := gb225) (o := .cells #[.bool a0_0, .slice A0_1 l0_1.length c0_1] 31 (0, 0)) (by (with_reducible repeat (first | refine kdn ?_ _ | refine kdr ?_ | refine kal ?_ _)); exact BK225.out)) : gb225 ≠ gb227)); have n7_ := As.mk ((by rw [hg]; exact Nat.ne_of_gt (blk_lt (g := gb225) (o := .cells #[.bool a0_0, .slice A0_1 l0_1.length c0_1] 31 (0, 0)) (by (with_reducible repeat (first | refine kdn ?_ _ | refine kdr ?_ | refine kal ?_ _)); exact BK225.out)) : gb227 ≠ gb225)); have n8_ := As.mk ((by rw [hg]; exact Nat.ne_of_lt (blk_lt (g := gb226) (o := .cells #[.bool a1_0, .slice A1_1 l1_1.length c1_1] 31 (0, 0)) (by (with_reducible repeat (first | refine kdn ?_ _ | refine kdr ?_ | refine kal ?_ _)); exact BK226.out)) : gb226 ≠ gb227)); have n9_ := As.mk ((by rw [hg]; exact Nat.ne_of_gt (blk_lt (g := gb226) (o := .cells #[.bool a1_0, .slice A1_1 l1_1.length c1_1] 31 (0, 0)) (by (with_reducible repeat (first | refine kdn ?_ _ | refine kdr ?_ | refine kal ?_ _)); exact BK226.out)) : gb227 ≠ gb226)); clear BK225; clear BK226; clear HB; have BK225 := n0_; have BK226 := n1_; have HB := n2_; have BK227 := n3_; have GW227 := n4_; have GE227 := n5_; have NB225_227 := n6_; have NB227_225 := n7_; have NB226_227 := n8_; have NB227_226 := n9_; clear n0_ n1_ n2_ n3_ n4_ n5_ n6_ n7_ n8_ n9_; clear hb hbox hg; have hnb9 := NB225_226.out; have hnc9 := NB226_225.out; have hnb10 := NB225_227.out; have hnc10 := NB227_225.out; have hcz11_0 : w8.cell? ⟨gb225, 0, none⟩ = some (.bool a0_0) := (kcl BK225.out 0).trans rfl; have hcz11_1 : w8.cell? ⟨gb225, 1, none⟩ = some (.slice A0_1 l0_1.length c0_1) := (kcl BK225.out 1).trans rfl; have hfz11_0 := kfz BK225.out 0; have hfz11_1 := kfz BK225.out 1; have hnb12 := NB226_227.out; have hnc12 := NB227_226.out; have hcz13_0 : w8.cell? ⟨gb226, 0, none⟩ = some (.bool a1_0) := (kcl BK226.out 0).trans rfl; have hcz13_1 : w8.cell? ⟨gb226, 1, none⟩ = some (.slice A1_1 l1_1.length c1_1) := (kcl BK226.out 1).trans rfl; have hfz13_0 := kfz BK226.out 0; have hfz13_1 := kfz BK226.out 1) | ((with_reducible refine gate_dst (N := 22) rfl ?_); refine Kd.R_make (Kd.int .i64) _ 3 rfl (N := 22) rfl 40 _ _ rfl ji3 rfl rfl Tryz.underlying40 (.int .i64 0) 8 info3 rfl (by decide) (by omega) 0 (ok := fun _ => True) (okp := fun _ => True) rfl (fun _ hk => hk) trivial (of_decide_eq_true (by first | (with_reducible assumption) | assumption)) (Nat.le_trans (Nat.mul_le_mul_right _ (of_decide_eq_true (by first | (with_reducible assumption) | assumption) : ji3.toNat ≤ 35184372088832)) (by omega)) (Below.refl _ _) (Nat.le_refl _) ?_; intro v229 w14 ho15 hb hg_ hnew_; clear hg_ hnew_; (first | rw [← Ny228.out] at ho15 | (simp only [Int.reduceToNat] at ho15; rw [← Ny228.out] at ho15)); have n0_ := As.mk (Kd.R_lower ho15 (bsz (by repeat (first | (with_reducible first | exact HB.out | apply bal | apply pwn | apply bdw | refine bst ?_ GE225.out | refine bst ?_ GE226.out | refine bst ?_ GE227.out) | exact HB.out)))); have n1_ := As.mk (kbw (g := gb225) (o := .cells #[.bool a0_0, .slice A0_1 l0_1.length c0_1] 31 (0, 0)) (by (with_reducible repeat (first | refine kdn ?_ _ | refine kdr ?_ | refine kal ?_ _)); exact BK225.out) hb); have n2_ := As.mk (kbw (g := gb226) (o := .cells #[.bool a1_0, .slice A1_1 l1_1.length c1_1] 31 (0, 0)) (by (with_reducible repeat (first | refine kdn ?_ _ | refine kdr ?_ | refine kal ?_ _)); exact BK226.out) hb); have n3_ := As.mk (kbw (g := gb227) (o := .cells #[.bool false, .slice none 0 0] 31 (0, 0)) (by (with_reducible repeat (first | refine kdn ?_ _ | refine kdr ?_ | refine kal ?_ _)); exact BK227.out) hb); have n4_ := As.mk (bsp (by repeat (first | (with_reducible first | exact HB.out | apply bal | apply pwn | apply bdw | refine bst ?_ GE225.out | refine bst ?_ GE226.out | refine bst ?_ GE227.out) | exact HB.out)) hb); clear BK225; clear BK226; clear BK227; clear HB; have HO230 := n0_; have BK225 := n1_; have BK226 := n2_; have BK227 := n3_; have HB := n4_; clear n0_ n1_ n2_ n3_ n4_; clear hb ho15))
      repeat (go_quiet (first | ((with_reducible refine gate_dst (N := 2) rfl ?_); refine box_event ?hg (N := 2) ?hd (cs := #[.bool a0_0, .slice A0_1 l0_1.length c0_1]) (t := 31) ?hr ?_; (case hd => rfl); (case hg => rfl); (case hr => first | (go_simp; done) | (go_simp; rfl)); intro gb225 hg w6 hbox hb; have n0_ := As.mk (bsp (by repeat (first | (with_reducible first | exact HB.out | apply bal | apply pwn | apply bdw) | exact HB.out)) hb); have n1_ := As.mk (hbox); have n2_ := As.mk ((by rw [hg]; exact (bsz (by repeat (first | (with_reducible first | exact HB.out | apply bal | apply pwn | apply bdw) | exact HB.out))) : w.heap.size ≤ gb225)); have n3_ := As.mk ((by rw [hg]; exact (bsz (by repeat (first | (with_reducible first | exact HB.out | apply bal | apply pwn | apply bdw) | exact HB.out))) : w.heap.size ≤ gb225)); clear HB; have HB := n0_; have BK225 := n1_; have GW225 := n2_; have GE225 := n3_; clear n0_ n1_ n2_ n3_; clear hb hbox hg) | ((with_reducible refine gate_dst (N := 3) rfl ?_); refine box_event ?hg (N := 3) ?hd (cs := #[.bool a1_0, .slice A1_1 l1_1.length c1_1]) (t := 31) ?hr ?_; (case hd => rfl); (case hg => rfl); (case hr => first | (go_simp; done) | (go_simp; rfl)); intro gb226 hg w7 hbox hb; have n0_ := As.mk (kbw (g := gb225) (o := .cells #[.bool a0_0, .slice A0_1 l0_1.length c0_1] 31 (0, 0)) (by (with_reducible repeat (first | refine kdn ?_ _ | refine kdr ?_ | refine kal ?_ _)); exact BK225.out) hb); have n1_ := As.mk (bsp (by repeat (first | (with_reducible first | exact HB.out | apply bal | apply pwn | apply bdw | refine bst ?_ GE225.out) | exact HB.out)) hb); have n2_ := As.mk (hbox); have n3_ := As.mk ((by rw [hg]; exact (bsz (by repeat (first | (with_reducible first | exact HB.out | apply bal | apply pwn | apply bdw | refine bst ?_ GE225.out) | exact HB.out))) : w.heap.size ≤ gb226)); have n4_ := As.mk ((by rw [hg]; exact (bsz (by repeat (first | (with_reducible first | exact HB.out | apply bal | apply pwn | apply bdw | refine bst ?_ GE225.out) | exact HB.out))) : w.heap.size ≤ gb226)); have n5_ := As.mk ((by rw [hg]; exact Nat.ne_of_lt (blk_lt (g := gb225) (o := .cells #[.bool a0_0, .slice A0_1 l0_1.length c0_1] 31 (0, 0)) (by (with_reducible repeat (first | refine kdn ?_ _ | refine kdr ?_ | refine kal ?_ _)); exact BK225.out)) : gb225 ≠ gb226)); have n6_ := As.mk ((by rw [hg]; exact Nat.ne_of_gt (blk_lt (g := gb225) (o := .cells #[.bool a0_0, .slice A0_1 l0_1.length c0_1] 31 (0, 0)) (by (with_reducible repeat (first | refine kdn ?_ _ | refine kdr ?_ | refine kal ?_ _)); exact BK225.out)) : gb226 ≠ gb225)); clear BK225; clear HB; have BK225 := n0_; have HB := n1_; have BK226 := n2_; have GW226 := n3_; have GE226 := n4_; have NB225_226 := n5_; have NB226_225 := n6_; clear n0_ n1_ n2_ n3_ n4_ n5_ n6_; clear hb hbox hg) | ((with_reducible refine gate_dst (N := 4) rfl ?_); refine box_event ?hg (N := 4) ?hd (cs := #[.bool false, .slice none 0 0]) (t := 31) ?hr ?_; (case hd => rfl); (case hg => rfl); (case hr => first | (go_simp; done) | (go_simp; rfl)); intro gb227 hg w8 hbox hb; have n0_ := As.mk (kbw (g := gb225) (o := .cells #[.bool a0_0, .slice A0_1 l0_1.length c0_1] 31 (0, 0)) (by (with_reducible repeat (first | refine kdn ?_ _ | refine kdr ?_ | refine kal ?_ _)); exact BK225.out) hb); have n1_ := As.mk (kbw (g := gb226) (o := .cells #[.bool a1_0, .slice A1_1 l1_1.length c1_1] 31 (0, 0)) (by (with_reducible repeat (first | refine kdn ?_ _ | refine kdr ?_ | refine kal ?_ _)); exact BK226.out) hb); have n2_ := As.mk (bsp (by repeat (first | (with_reducible first | exact HB.out | apply bal | apply pwn | apply bdw | refine bst ?_ GE225.out | refine bst ?_ GE226.out) | exact HB.out)) hb); have n3_ := As.mk (hbox); have n4_ := As.mk ((by rw [hg]; exact (bsz (by repeat (first | (with_reducible first | exact HB.out | apply bal | apply pwn | apply bdw | refine bst ?_ GE225.out | refine bst ?_ GE226.out) | exact HB.out))) : w.heap.size ≤ gb227)); have n5_ := As.mk ((by rw [hg]; exact (bsz (by repeat (first | (with_reducible first | exact HB.out | apply bal | apply pwn | apply bdw | refine bst ?_ GE225.out | refine bst ?_ GE226.out) | exact HB.out))) : w.heap.size ≤ gb227)); have n6_ := As.mk ((by rw [hg]; exact Nat.ne_of_lt (blk_lt (g := gb225) (o := .cells #[.bool a0_0, .slice A0_1 l0_1.length c0_1] 31 (0, 0)) (by (with_reducible repeat (first | refine kdn ?_ _ | refine kdr ?_ | refine kal ?_ _)); exact BK225.out)) : gb225 ≠ gb227)); have n7_ := As.mk ((by rw [hg]; exact Nat.ne_of_gt (blk_lt (g := gb225) (o := .cells #[.bool a0_0, .slice A0_1 l0_1.length c0_1] 31 (0, 0)) (by (with_reducible repeat (first | refine kdn ?_ _ | refine kdr ?_ | refine kal ?_ _)); exact BK225.out)) : gb227 ≠ gb225)); have n8_ := As.mk ((by rw [hg]; exact Nat.ne_of_lt (blk_lt (g := gb226) (o := .cells #[.bool a1_0, .slice A1_1 l1_1.length c1_1] 31 (0, 0)) (by (with_reducible repeat (first | refine kdn ?_ _ | refine kdr ?_ | refine kal ?_ _)); exact BK226.out)) : gb226 ≠ gb227)); have n9_ := As.mk ((by rw [hg]; exact Nat.ne_of_gt (blk_lt (g := gb226) (o := .cells #[.bool a1_0, .slice A1_1 l1_1.length c1_1] 31 (0, 0)) (by (with_reducible repeat (first | refine kdn ?_ _ | refine kdr ?_ | refine kal ?_ _)); exact BK226.out)) : gb227 ≠ gb226)); clear BK225; clear BK226; clear HB; have BK225 := n0_; have BK226 := n1_; have HB := n2_; have BK227 := n3_; have GW227 := n4_; have GE227 := n5_; have NB225_227 := n6_; have NB227_225 := n7_; have NB226_227 := n8_; have NB227_226 := n9_; clear n0_ n1_ n2_ n3_ n4_ n5_ n6_ n7_ n8_ n9_; clear hb hbox hg; have hnb9 := NB225_226.out; have hnc9 := NB226_225.out; have hnb10 := NB225_227.out; have hnc10 := NB227_225.out; have hcz11_0 : w8.cell? ⟨gb225, 0, none⟩ = some (.bool a0_0) := (kcl BK225.out 0).trans rfl; have hcz11_1 : w8.cell? ⟨gb225, 1, none⟩ = some (.slice A0_1 l0_1.length c0_1) := (kcl BK225.out 1).trans rfl; have hfz11_0 := kfz BK225.out 0; have hfz11_1 := kfz BK225.out 1; have hnb12 := NB226_227.out; have hnc12 := NB227_226.out; have hcz13_0 : w8.cell? ⟨gb226, 0, none⟩ = some (.bool a1_0) := (kcl BK226.out 0).trans rfl; have hcz13_1 : w8.cell? ⟨gb226, 1, none⟩ = some (.slice A1_1 l1_1.length c1_1) := (kcl BK226.out 1).trans rfl; have hfz13_0 := kfz BK226.out 0; have hfz13_1 := kfz BK226.out 1) | ((with_reducible refine gate_dst (N := 22) rfl ?_); refine Kd.R_make (Kd.int .i64) _ 3 rfl (N := 22) rfl 40 _ _ rfl ji3 rfl rfl Tryz.underlying40 (.int .i64 0) 8 info3 rfl (by decide) (by omega) 0 (ok := fun _ => True) (okp := fun _ => True) rfl (fun _ hk => hk) trivial (of_decide_eq_true (by first | (with_reducible assumption) | assumption)) (Nat.le_trans (Nat.mul_le_mul_right _ (of_decide_eq_true (by first | (with_reducible assumption) | assumption) : ji3.toNat ≤ 35184372088832)) (by omega)) (Below.refl _ _) (Nat.le_refl _) ?_; intro v229 w14 ho15 hb hg_ hnew_; clear hg_ hnew_; (first | rw [← Ny228.out] at ho15 | (simp only [Int.reduceToNat] at ho15; rw [← Ny228.out] at ho15)); have n0_ := As.mk (Kd.R_lower ho15 (bsz (by repeat (first | (with_reducible first | exact HB.out | apply bal | apply pwn | apply bdw | refine bst ?_ GE225.out | refine bst ?_ GE226.out | refine bst ?_ GE227.out) | exact HB.out)))); have n1_ := As.mk (kbw (g := gb225) (o := .cells #[.bool a0_0, .slice A0_1 l0_1.length c0_1] 31 (0, 0)) (by (with_reducible repeat (first | refine kdn ?_ _ | refine kdr ?_ | refine kal ?_ _)); exact BK225.out) hb); have n2_ := As.mk (kbw (g := gb226) (o := .cells #[.bool a1_0, .slice A1_1 l1_1.length c1_1] 31 (0, 0)) (by (with_reducible repeat (first | refine kdn ?_ _ | refine kdr ?_ | refine kal ?_ _)); exact BK226.out) hb); have n3_ := As.mk (kbw (g := gb227) (o := .cells #[.bool false, .slice none 0 0] 31 (0, 0)) (by (with_reducible repeat (first | refine kdn ?_ _ | refine kdr ?_ | refine kal ?_ _)); exact BK227.out) hb); have n4_ := As.mk (bsp (by repeat (first | (with_reducible first | exact HB.out | apply bal | apply pwn | apply bdw | refine bst ?_ GE225.out | refine bst ?_ GE226.out | refine bst ?_ GE227.out) | exact HB.out)) hb); clear BK225; clear BK226; clear BK227; clear HB; have HO230 := n0_; have BK225 := n1_; have BK226 := n2_; have BK227 := n3_; have HB := n4_; clear n0_ n1_ n2_ n3_ n4_; clear hb ho15)); try go_wp2_with (first | ((with_reducible refine gate_dst (N := 2) rfl ?_); refine box_event ?hg (N := 2) ?hd (cs := #[.bool a0_0, .slice A0_1 l0_1.length c0_1]) (t := 31) ?hr ?_; (case hd => rfl); (case hg => rfl); (case hr => first | (go_simp; done) | (go_simp; rfl)); intro gb225 hg w6 hbox hb; have n0_ := As.mk (bsp (by repeat (first | (with_reducible first | exact HB.out | apply bal | apply pwn | apply bdw) | exact HB.out)) hb); have n1_ := As.mk (hbox); have n2_ := As.mk ((by rw [hg]; exact (bsz (by repeat (first | (with_reducible first | exact HB.out | apply bal | apply pwn | apply bdw) | exact HB.out))) : w.heap.size ≤ gb225)); have n3_ := As.mk ((by rw [hg]; exact (bsz (by repeat (first | (with_reducible first | exact HB.out | apply bal | apply pwn | apply bdw) | exact HB.out))) : w.heap.size ≤ gb225)); clear HB; have HB := n0_; have BK225 := n1_; have GW225 := n2_; have GE225 := n3_; clear n0_ n1_ n2_ n3_; clear hb hbox hg) | ((with_reducible refine gate_dst (N := 3) rfl ?_); refine box_event ?hg (N := 3) ?hd (cs := #[.bool a1_0, .slice A1_1 l1_1.length c1_1]) (t := 31) ?hr ?_; (case hd => rfl); (case hg => rfl); (case hr => first | (go_simp; done) | (go_simp; rfl)); intro gb226 hg w7 hbox hb; have n0_ := As.mk (kbw (g := gb225) (o := .cells #[.bool a0_0, .slice A0_1 l0_1.length c0_1] 31 (0, 0)) (by (with_reducible repeat (first | refine kdn ?_ _ | refine kdr ?_ | refine kal ?_ _)); exact BK225.out) hb); have n1_ := As.mk (bsp (by repeat (first | (with_reducible first | exact HB.out | apply bal | apply pwn | apply bdw | refine bst ?_ GE225.out) | exact HB.out)) hb); have n2_ := As.mk (hbox); have n3_ := As.mk ((by rw [hg]; exact (bsz (by repeat (first | (with_reducible first | exact HB.out | apply bal | apply pwn | apply bdw | refine bst ?_ GE225.out) | exact HB.out))) : w.heap.size ≤ gb226)); have n4_ := As.mk ((by rw [hg]; exact (bsz (by repeat (first | (with_reducible first | exact HB.out | apply bal | apply pwn | apply bdw | refine bst ?_ GE225.out) | exact HB.out))) : w.heap.size ≤ gb226)); have n5_ := As.mk ((by rw [hg]; exact Nat.ne_of_lt (blk_lt (g := gb225) (o := .cells #[.bool a0_0, .slice A0_1 l0_1.length c0_1] 31 (0, 0)) (by (with_reducible repeat (first | refine kdn ?_ _ | refine kdr ?_ | refine kal ?_ _)); exact BK225.out)) : gb225 ≠ gb226)); have n6_ := As.mk ((by rw [hg]; exact Nat.ne_of_gt (blk_lt (g := gb225) (o := .cells #[.bool a0_0, .slice A0_1 l0_1.length c0_1] 31 (0, 0)) (by (with_reducible repeat (first | refine kdn ?_ _ | refine kdr ?_ | refine kal ?_ _)); exact BK225.out)) : gb226 ≠ gb225)); clear BK225; clear HB; have BK225 := n0_; have HB := n1_; have BK226 := n2_; have GW226 := n3_; have GE226 := n4_; have NB225_226 := n5_; have NB226_225 := n6_; clear n0_ n1_ n2_ n3_ n4_ n5_ n6_; clear hb hbox hg) | ((with_reducible refine gate_dst (N := 4) rfl ?_); refine box_event ?hg (N := 4) ?hd (cs := #[.bool false, .slice none 0 0]) (t := 31) ?hr ?_; (case hd => rfl); (case hg => rfl); (case hr => first | (go_simp; done) | (go_simp; rfl)); intro gb227 hg w8 hbox hb; have n0_ := As.mk (kbw (g := gb225) (o := .cells #[.bool a0_0, .slice A0_1 l0_1.length c0_1] 31 (0, 0)) (by (with_reducible repeat (first | refine kdn ?_ _ | refine kdr ?_ | refine kal ?_ _)); exact BK225.out) hb); have n1_ := As.mk (kbw (g := gb226) (o := .cells #[.bool a1_0, .slice A1_1 l1_1.length c1_1] 31 (0, 0)) (by (with_reducible repeat (first | refine kdn ?_ _ | refine kdr ?_ | refine kal ?_ _)); exact BK226.out) hb); have n2_ := As.mk (bsp (by repeat (first | (with_reducible first | exact HB.out | apply bal | apply pwn | apply bdw | refine bst ?_ GE225.out | refine bst ?_ GE226.out) | exact HB.out)) hb); have n3_ := As.mk (hbox); have n4_ := As.mk ((by rw [hg]; exact (bsz (by repeat (first | (with_reducible first | exact HB.out | apply bal | apply pwn | apply bdw | refine bst ?_ GE225.out | refine bst ?_ GE226.out) | exact HB.out))) : w.heap.size ≤ gb227)); have n5_ := As.mk ((by rw [hg]; exact (bsz (by repeat (first | (with_reducible first | exact HB.out | apply bal | apply pwn | apply bdw | refine bst ?_ GE225.out | refine bst ?_ GE226.out) | exact HB.out))) : w.heap.size ≤ gb227)); have n6_ := As.mk ((by rw [hg]; exact Nat.ne_of_lt (blk_lt (g := gb225) (o := .cells #[.bool a0_0, .slice A0_1 l0_1.length c0_1] 31 (0, 0)) (by (with_reducible repeat (first | refine kdn ?_ _ | refine kdr ?_ | refine kal ?_ _)); exact BK225.out)) : gb225 ≠ gb227)); have n7_ := As.mk ((by rw [hg]; exact Nat.ne_of_gt (blk_lt (g := gb225) (o := .cells #[.bool a0_0, .slice A0_1 l0_1.length c0_1] 31 (0, 0)) (by (with_reducible repeat (first | refine kdn ?_ _ | refine kdr ?_ | refine kal ?_ _)); exact BK225.out)) : gb227 ≠ gb225)); have n8_ := As.mk ((by rw [hg]; exact Nat.ne_of_lt (blk_lt (g := gb226) (o := .cells #[.bool a1_0, .slice A1_1 l1_1.length c1_1] 31 (0, 0)) (by (with_reducible repeat (first | refine kdn ?_ _ | refine kdr ?_ | refine kal ?_ _)); exact BK226.out)) : gb226 ≠ gb227)); have n9_ := As.mk ((by rw [hg]; exact Nat.ne_of_gt (blk_lt (g := gb226) (o := .cells #[.bool a1_0, .slice A1_1 l1_1.length c1_1] 31 (0, 0)) (by (with_reducible repeat (first | refine kdn ?_ _ | refine kdr ?_ | refine kal ?_ _)); exact BK226.out)) : gb227 ≠ gb226)); clear BK225; clear BK226; clear HB; have BK225 := n0_; have BK226 := n1_; have HB := n2_; have BK227 := n3_; have GW227 := n4_; have GE227 := n5_; have NB225_227 := n6_; have NB227_225 := n7_; have NB226_227 := n8_; have NB227_226 := n9_; clear n0_ n1_ n2_ n3_ n4_ n5_ n6_ n7_ n8_ n9_; clear hb hbox hg; have hnb9 := NB225_226.out; have hnc9 := NB226_225.out; have hnb10 := NB225_227.out; have hnc10 := NB227_225.out; have hcz11_0 : w8.cell? ⟨gb225, 0, none⟩ = some (.bool a0_0) := (kcl BK225.out 0).trans rfl; have hcz11_1 : w8.cell? ⟨gb225, 1, none⟩ = some (.slice A0_1 l0_1.length c0_1) := (kcl BK225.out 1).trans rfl; have hfz11_0 := kfz BK225.out 0; have hfz11_1 := kfz BK225.out 1; have hnb12 := NB226_227.out; have hnc12 := NB227_226.out; have hcz13_0 : w8.cell? ⟨gb226, 0, none⟩ = some (.bool a1_0) := (kcl BK226.out 0).trans rfl; have hcz13_1 : w8.cell? ⟨gb226, 1, none⟩ = some (.slice A1_1 l1_1.length c1_1) := (kcl BK226.out 1).trans rfl; have hfz13_0 := kfz BK226.out 0; have hfz13_1 := kfz BK226.out 1) | ((with_reducible refine gate_dst (N := 22) rfl ?_); refine Kd.R_make (Kd.int .i64) _ 3 rfl (N := 22) rfl 40 _ _ rfl ji3 rfl rfl Tryz.underlying40 (.int .i64 0) 8 info3 rfl (by decide) (by omega) 0 (ok := fun _ => True) (okp := fun _ => True) rfl (fun _ hk => hk) trivial (of_decide_eq_true (by first | (with_reducible assumption) | assumption)) (Nat.le_trans (Nat.mul_le_mul_right _ (of_decide_eq_true (by first | (with_reducible assumption) | assumption) : ji3.toNat ≤ 35184372088832)) (by omega)) (Below.refl _ _) (Nat.le_refl _) ?_; intro v229 w14 ho15 hb hg_ hnew_; clear hg_ hnew_; (first | rw [← Ny228.out] at ho15 | (simp only [Int.reduceToNat] at ho15; rw [← Ny228.out] at ho15)); have n0_ := As.mk (Kd.R_lower ho15 (bsz (by repeat (first | (with_reducible first | exact HB.out | apply bal | apply pwn | apply bdw | refine bst ?_ GE225.out | refine bst ?_ GE226.out | refine bst ?_ GE227.out) | exact HB.out)))); have n1_ := As.mk (kbw (g := gb225) (o := .cells #[.bool a0_0, .slice A0_1 l0_1.length c0_1] 31 (0, 0)) (by (with_reducible repeat (first | refine kdn ?_ _ | refine kdr ?_ | refine kal ?_ _)); exact BK225.out) hb); have n2_ := As.mk (kbw (g := gb226) (o := .cells #[.bool a1_0, .slice A1_1 l1_1.length c1_1] 31 (0, 0)) (by (with_reducible repeat (first | refine kdn ?_ _ | refine kdr ?_ | refine kal ?_ _)); exact BK226.out) hb); have n3_ := As.mk (kbw (g := gb227) (o := .cells #[.bool false, .slice none 0 0] 31 (0, 0)) (by (with_reducible repeat (first | refine kdn ?_ _ | refine kdr ?_ | refine kal ?_ _)); exact BK227.out) hb); have n4_ := As.mk (bsp (by repeat (first | (with_reducible first | exact HB.out | apply bal | apply pwn | apply bdw | refine bst ?_ GE225.out | refine bst ?_ GE226.out | refine bst ?_ GE227.out) | exact HB.out)) hb); clear BK225; clear BK226; clear BK227; clear HB; have HO230 := n0_; have BK225 := n1_; have BK226 := n2_; have BK227 := n3_; have HB := n4_; clear n0_ n1_ n2_ n3_ n4_; clear hb ho15)))
      go_loopg [7] k (fun kq v7 w' => ∃ (x6_1 : List Int) (x7_1 : Int), v7 = .int .i64 x7_1 ∧ As (spec_Int_Mul.l0 kq (wrap64 ((l0_1.length : Int) + (l1_1.length : Int))) x6_1 x7_1 a0_0 l0_1 a1_0 l1_1 = some (r1, r2)) ∧ As (kq ≤ k) ∧ As (Kd.R (Kd.int .i64) 3 w' w.heap.size (fun _ => True) v229 x6_1) ∧ As (w'.heap[gb225]? = some (.cells #[.bool a0_0, (.slice A0_1 l0_1.length c0_1)] 31 (0, 0))) ∧ As (w'.heap[gb226]? = some (.cells #[.bool a1_0, (.slice A1_1 l1_1.length c1_1)] 31 (0, 0))) ∧ As (w'.heap[gb227]? = some (.cells #[.bool false, (.slice none 0 0)] 31 (0, 0))) ∧ As (Below w.heap.size w w'))
      case atStart => exact ⟨(y228), (0), (by first | rfl | (simp; done) | (simp [*]; done)), H', ⟨Nat.le_refl _⟩, ⟨by (with_reducible repeat (first | apply Kd.R_alloc | apply Kd.R_drewN | apply Kd.R_drew)); exact HO230.out⟩, ⟨by (with_reducible repeat (first | refine kdn ?_ _ | refine kdr ?_ | refine kal ?_ _)); exact BK225.out⟩, ⟨by (with_reducible repeat (first | refine kdn ?_ _ | refine kdr ?_ | refine kal ?_ _)); exact BK226.out⟩, ⟨by (with_reducible repeat (first | refine kdn ?_ _ | refine kdr ?_ | refine kal ?_ _)); exact BK227.out⟩, ⟨by repeat (first | (with_reducible first | exact HB.out | apply bal | apply pwn | apply bdw | refine bst ?_ GE225.out | refine bst ?_ GE226.out | refine bst ?_ GE227.out) | exact HB.out)⟩⟩
      case round =>
        clear H'
        try clear c1
        try clear p2
        try clear c4
        try clear c4b0
        try clear c4b1
        try clear c5
        try clear c5b0
        try clear c5b1
        try clear p6
        try clear c8
        try clear c9
        try clear c10
        try clear c12
        try clear hcz11_0
        try clear hcz11_1
        try clear hcz13_0
        try clear hcz13_1
        try clear hfz11_0
        try clear hfz11_1
        try clear hfz13_0
        try clear hfz13_1
        obtain ⟨x6_1, x7_1, rfl, HA, HK1, HO_6, BK225, BK226, BK227, HB⟩ := hrel
        cases gk with
        | zero => exact absurd HA.out (by simp [spec_Int_Mul.l0])
        | succ k1 =>
          have H := HA.out
          clear HA
          simp only [spec_Int_Mul.l0] at H
          by_cases c16 : x7_1 < (l0_1.length : Int)
          · rw [if_pos c16] at H
            have c16b0 : decide (x7_1 < (l0_1.length : Int)) = true := decide_eq_true c16
            clear c16
            have H' := As.mk H
            clear H
            have hnb17 := NB225_226.out
            have hnc17 := NB226_225.out
            have hnb18 := NB225_227.out
            have hnc18 := NB227_225.out
            have hcz19_0 : wr.cell? ⟨gb225, 0, none⟩ = some (.bool a0_0) := (kcl BK225.out 0).trans rfl
            have hcz19_1 : wr.cell? ⟨gb225, 1, none⟩ = some (.slice A0_1 l0_1.length c0_1) := (kcl BK225.out 1).trans rfl
            have hfz19_0 := kfz BK225.out 0
            have hfz19_1 := kfz BK225.out 1
            go_wp2
            repeat (go_quiet (fail); try go_wp2)
            go_loopg [8, 9] k1 (fun kq v8 v9 w' => ∃ (x6_2 : List Int) (x8_2 : Int) (x9_2 : Int), v8 = .int .i64 x8_2 ∧ v9 = .int .i64 x9_2 ∧ As (spec_Int_Mul.l1 kq (wrap64 ((l0_1.length : Int) + (l1_1.length : Int))) x6_2 x7_1 x8_2 x9_2 a0_0 l0_1 a1_0 l1_1 = some (r1, r2)) ∧ As (kq ≤ k1) ∧ As (Kd.R (Kd.int .i64) 3 w' w.heap.size (fun _ => True) v229 x6_2) ∧ As (w'.heap[gb225]? = some (.cells #[.bool a0_0, (.slice A0_1 l0_1.length c0_1)] 31 (0, 0))) ∧ As (w'.heap[gb226]? = some (.cells #[.bool a1_0, (.slice A1_1 l1_1.length c1_1)] 31 (0, 0))) ∧ As (w'.heap[gb227]? = some (.cells #[.bool false, (.slice none 0 0)] 31 (0, 0))) ∧ As (Below w.heap.size w w'))
            case atStart => exact ⟨(x6_1), (0), (0), (by first | rfl | (simp; done) | (simp [*]; done)), (by first | rfl | (simp; done) | (simp [*]; done)), H', ⟨Nat.le_refl _⟩, ⟨by (with_reducible repeat (first | apply Kd.R_alloc | apply Kd.R_drewN | apply Kd.R_drew)); exact HO_6.out⟩, ⟨by (with_reducible repeat (first | refine kdn ?_ _ | refine kdr ?_ | refine kal ?_ _)); exact BK225.out⟩, ⟨by (with_reducible repeat (first | refine kdn ?_ _ | refine kdr ?_ | refine kal ?_ _)); exact BK226.out⟩, ⟨by (with_reducible repeat (first | refine kdn ?_ _ | refine kdr ?_ | refine kal ?_ _)); exact BK227.out⟩, ⟨by repeat (first | (with_reducible first | exact HB.out | apply bal | apply pwn | apply bdw | refine bst ?_ GE225.out | refine bst ?_ GE226.out | refine bst ?_ GE227.out) | exact HB.out)⟩⟩
            case round =>
              clear H'
              try clear c1
              try clear p2
              try clear c4
              try clear c4b0
              try clear c4b1
              try clear c5
              try clear c5b0
              try clear c5b1
              try clear p6
              try clear c8
              try clear c9
              try clear c10
              try clear c12
              try clear c16
              try clear c16b0
              try clear c17
              try clear c18
              try clear hcz11_0
              try clear hcz11_1
              try clear hcz13_0
              try clear hcz13_1
              try clear hcz19_0
              try clear hcz19_1
              try clear hfz11_0
              try clear hfz11_1
              try clear hfz13_0
              try clear hfz13_1
              try clear hfz19_0
              try clear hfz19_1
              try clear p2
              try clear p6
              obtain ⟨x6_2, x8_2, x9_2, rfl, rfl, HA, HK2, HO_6, BK225, BK226, BK227, HB⟩ := hrel
              cases gk with
              | zero => exact absurd HA.out (by simp [spec_Int_Mul.l1])
              | succ k2 =>
                have H := HA.out
                clear HA
                simp only [spec_Int_Mul.l1] at H
                have HC20 := As.mk H
                clear H
                go_upto_region 8 with (fail)
                repeat (go_quiet (fail); go_upto_region 8 with (fail))
                go_cut [38] (fun v38 wc => ∃ (kq : Nat) (x38_19 : Bool), v38 = .bool x38_19 ∧ As (spec_Int_Mul.j2 kq (wrap64 ((l0_1.length : Int) + (l1_1.length : Int))) x6_2 x7_1 x8_2 x9_2 x38_19 a0_0 l0_1 a1_0 l1_1 = some (r1, r2)) ∧ As (kq ≤ k2) ∧ As (Kd.R (Kd.int .i64) 3 wc w.heap.size (fun _ => True) v229 x6_2) ∧ As (wc.heap[gb225]? = some (.cells #[.bool a0_0, (.slice A0_1 l0_1.length c0_1)] 31 (0, 0))) ∧ As (wc.heap[gb226]? = some (.cells #[.bool a1_0, (.slice A1_1 l1_1.length c1_1)] 31 (0, 0))) ∧ As (wc.heap[gb227]? = some (.cells #[.bool false, (.slice none 0 0)] 31 (0, 0))) ∧ As (Below w.heap.size w wc))
                case first =>
                  have H := HC20.out
                  clear HC20
                  by_cases c21 : x9_2 < (l1_1.length : Int)
                  · rw [if_pos c21] at H
                    have c21b0 : decide (x9_2 < (l1_1.length : Int)) = true := decide_eq_true c21
                    clear c21
                    (first | rw [c21b0] | (simp only [i64_w, i32_w]; rw [c21b0]) | skip)
                    have H' := As.mk H
                    clear H
                    have hnb22 := NB226_225.out
                    have hnc22 := NB225_226.out
                    have hnb23 := NB226_227.out
                    have hnc23 := NB227_226.out
                    have hcz24_0 : wr.cell? ⟨gb226, 0, none⟩ = some (.bool a1_0) := (kcl BK226.out 0).trans rfl
                    have hcz24_1 : wr.cell? ⟨gb226, 1, none⟩ = some (.slice A1_1 l1_1.length c1_1) := (kcl BK226.out 1).trans rfl
                    have hfz24_0 := kfz BK226.out 0
                    have hfz24_1 := kfz BK226.out 1
                    go_wp2
                    repeat (go_quiet (fail); try go_wp2)
                    go_meet
                    case rel => exact ⟨_, (true), (by first | rfl | (simp; done) | (simp [*]; done)), H', ⟨by have := HK1.out; have := HK2.out; first | omega | exact Nat.le_refl _⟩, ⟨by (with_reducible repeat (first | apply Kd.R_alloc | apply Kd.R_drewN | apply Kd.R_drew)); exact HO_6.out⟩, ⟨by (with_reducible repeat (first | refine kdn ?_ _ | refine kdr ?_ | refine kal ?_ _)); exact BK225.out⟩, ⟨by (with_reducible repeat (first | refine kdn ?_ _ | refine kdr ?_ | refine kal ?_ _)); exact BK226.out⟩, ⟨by (with_reducible repeat (first | refine kdn ?_ _ | refine kdr ?_ | refine kal ?_ _)); exact BK227.out⟩, ⟨by repeat (first | (with_reducible first | exact HB.out | apply bal | apply pwn | apply bdw | refine bst ?_ GE225.out | refine bst ?_ GE226.out | refine bst ?_ GE227.out) | exact HB.out)⟩⟩
                  · rw [if_neg c21] at H
                    have c21b0 : decide (x9_2 < (l1_1.length : Int)) = false := decide_eq_false c21
                    clear c21
                    (first | rw [c21b0] | (simp only [i64_w, i32_w]; rw [c21b0]) | skip)
                    have H' := As.mk H
                    clear H
                    have hnb25 := NB226_225.out
                    have hnc25 := NB225_226.out
                    have hnb26 := NB226_227.out
                    have hnc26 := NB227_226.out
                    have hcz27_0 : wr.cell? ⟨gb226, 0, none⟩ = some (.bool a1_0) := (kcl BK226.out 0).trans rfl
                    have hcz27_1 : wr.cell? ⟨gb226, 1, none⟩ = some (.slice A1_1 l1_1.length c1_1) := (kcl BK226.out 1).trans rfl
                    have hfz27_0 := kfz BK226.out 0
                    have hfz27_1 := kfz BK226.out 1
                    go_wp2
                    repeat (go_quiet (fail); try go_wp2)
                    go_meet
                    case rel => exact ⟨_, (decide (x8_2 > 0)), (by first | rfl | (simp; done) | (simp [*]; done)), H', ⟨by have := HK1.out; have := HK2.out; first | omega | exact Nat.le_refl _⟩, ⟨by (with_reducible repeat (first | apply Kd.R_alloc | apply Kd.R_drewN | apply Kd.R_drew)); exact HO_6.out⟩, ⟨by (with_reducible repeat (first | refine kdn ?_ _ | refine kdr ?_ | refine kal ?_ _)); exact BK225.out⟩, ⟨by (with_reducible repeat (first | refine kdn ?_ _ | refine kdr ?_ | refine kal ?_ _)); exact BK226.out⟩, ⟨by (with_reducible repeat (first | refine kdn ?_ _ | refine kdr ?_ | refine kal ?_ _)); exact BK227.out⟩, ⟨by repeat (first | (with_reducible first | exact HB.out | apply bal | apply pwn | apply bdw | refine bst ?_ GE225.out | refine bst ?_ GE226.out | refine bst ?_ GE227.out) | exact HB.out)⟩⟩
                case rest =>
                  clear HC20
                  try clear c1
                  try clear c2
                  try clear p2
                  try clear c4
                  try clear c4b0
                  try clear c4b1
                  try clear c5
                  try clear c5b0
                  try clear c5b1
                  try clear p6
                  try clear c8
                  try clear c9
                  try clear c10
                  try clear c12
                  try clear c16
                  try clear c16b0
                  try clear c17
                  try clear c18
                  try clear c21
                  try clear c21b0
                  try clear c22
                  try clear c23
                  try clear c25
                  try clear c26
                  try clear hcz11_0
                  try clear hcz11_1
                  try clear hcz13_0
                  try clear hcz13_1
                  try clear hcz19_0
                  try clear hcz19_1
                  try clear hcz24_0
                  try clear hcz24_1
                  try clear hcz27_0
                  try clear hcz27_1
                  try clear hfz11_0
                  try clear hfz11_1
                  try clear hfz13_0
                  try clear hfz13_1
                  try clear hfz19_0
                  try clear hfz19_1
                  try clear hfz24_0
                  try clear hfz24_1
                  try clear hfz27_0
                  try clear hfz27_1
                  try clear p2
                  try clear p6
                  obtain ⟨kq, x38_19, rfl, HA, HJ19, HO_6, BK225, BK226, BK227, HB⟩ := hcut
                  cases kq with
                  | zero => exact absurd HA.out (by simp [spec_Int_Mul.j2])
                  | succ kj19 =>
                    have H := HA.out
                    clear HA
                    simp only [spec_Int_Mul.j2] at H
                    by_cases c28 : x38_19 = true
                    · subst c28
                      have H1 : (if 0 ≤ (wrap64 (x7_1 + x9_2)) then (if (wrap64 (x7_1 + x9_2)) < (x6_2.length : Int) then ((spec_digit.f l0_1 x7_1).bind fun t232 => ((spec_digit.f l1_1 x9_2).bind fun t233 => (spec_Int_Mul.l1 kj19 (wrap64 ((l0_1.length : Int) + (l1_1.length : Int))) (x6_2.set ((wrap64 (x7_1 + x9_2)) : Int).toNat (Int.tmod (wrap64 ((wrap64 ((rd x6_2 (wrap64 (x7_1 + x9_2))) + (wrap64 (t232 * t233)))) + x8_2)) 256)) x7_1 (wrap64 (Int.tdiv (wrap64 ((wrap64 ((rd x6_2 (wrap64 (x7_1 + x9_2))) + (wrap64 (t232 * t233)))) + x8_2)) 256)) (wrap64 (x9_2 + 1)) a0_0 l0_1 a1_0 l1_1))) else (none)) else (none)) = some (r1, r2) := by rw [if_pos rfl] at H; exact H
                      clear H
                      have H := H1
                      clear H1
                      obtain ⟨ji29, hji29⟩ : ∃ j_ : Int, (wrap64 (x7_1 + x9_2)) = j_ := ⟨_, rfl⟩
                      replace H : (if 0 ≤ (ji29) then (if (ji29) < (x6_2.length : Int) then ((spec_digit.f l0_1 x7_1).bind fun t232 => ((spec_digit.f l1_1 x9_2).bind fun t233 => (spec_Int_Mul.l1 kj19 (wrap64 ((l0_1.length : Int) + (l1_1.length : Int))) (x6_2.set ((ji29) : Int).toNat (Int.tmod (wrap64 ((wrap64 ((rd x6_2 (ji29)) + (wrap64 (t232 * t233)))) + x8_2)) 256)) x7_1 (wrap64 (Int.tdiv (wrap64 ((wrap64 ((rd x6_2 (ji29)) + (wrap64 (t232 * t233)))) + x8_2)) 256)) (wrap64 (x9_2 + 1)) a0_0 l0_1 a1_0 l1_1))) else (none)) else (none)) = some (r1, r2) := by first | (rw [hji29] at H; exact H) | (simp only [hji29] at H ⊢; exact H)
                      have hji29w : (IntKind.i64.wrap (x7_1 + x9_2)) = ji29 := (i64_w _).trans hji29
                      by_cases c30 : 0 ≤ (ji29)
                      · rw [if_pos c30] at H
                        have c30b0 : decide (0 ≤ (ji29)) = true := decide_eq_true c30
                        clear c30
                        by_cases c31 : (ji29) < (x6_2.length : Int)
                        · rw [if_pos c31] at H
                          have c31b0 : decide ((ji29) < (x6_2.length : Int)) = true := decide_eq_true c31
                          clear c31
                          replace H := Option.bind_eq_some_iff.mp H
                          obtain ⟨t232, A320, H⟩ := H
                          replace H : ((spec_digit.f l1_1 x9_2).bind fun t233 => (spec_Int_Mul.l1 kj19 (wrap64 ((l0_1.length : Int) + (l1_1.length : Int))) (x6_2.set ((ji29) : Int).toNat (Int.tmod (wrap64 ((wrap64 ((rd x6_2 (ji29)) + (wrap64 (t232 * t233)))) + x8_2)) 256)) x7_1 (wrap64 (Int.tdiv (wrap64 ((wrap64 ((rd x6_2 (ji29)) + (wrap64 (t232 * t233)))) + x8_2)) 256)) (wrap64 (x9_2 + 1)) a0_0 l0_1 a1_0 l1_1)) = some (r1, r2) := H
                          have A32 := As.mk A320
                          clear A320
                          replace H := Option.bind_eq_some_iff.mp H
                          obtain ⟨t233, A330, H⟩ := H
                          replace H : (spec_Int_Mul.l1 kj19 (wrap64 ((l0_1.length : Int) + (l1_1.length : Int))) (x6_2.set ((ji29) : Int).toNat (Int.tmod (wrap64 ((wrap64 ((rd x6_2 (ji29)) + (wrap64 (t232 * t233)))) + x8_2)) 256)) x7_1 (wrap64 (Int.tdiv (wrap64 ((wrap64 ((rd x6_2 (ji29)) + (wrap64 (t232 * t233)))) + x8_2)) 256)) (wrap64 (x9_2 + 1)) a0_0 l0_1 a1_0 l1_1) = some (r1, r2) := H
                          have A33 := As.mk A330
                          clear A330
                          obtain ⟨y234, hy234⟩ : ∃ y_ : List Int, y_ = (x6_2.set ((ji29) : Int).toNat (Int.tmod (wrap64 ((wrap64 ((rd x6_2 (ji29)) + (wrap64 (t232 * t233)))) + x8_2)) 256)) := ⟨_, rfl⟩
                          replace H : (spec_Int_Mul.l1 kj19 (wrap64 ((l0_1.length : Int) + (l1_1.length : Int))) y234 x7_1 (wrap64 (Int.tdiv (wrap64 ((wrap64 ((rd x6_2 (ji29)) + (wrap64 (t232 * t233)))) + x8_2)) 256)) (wrap64 (x9_2 + 1)) a0_0 l0_1 a1_0 l1_1) = some (r1, r2) := by first | (rw [hy234]; with_reducible exact H) | (have H2_ := (Option.bind_some _ _).symm.trans H; rw [hy234]; with_reducible exact H2_) | (have H2_ := (Option.bind_some _ _).symm.trans H; with_reducible exact H2_) | with_reducible exact H | (rw [hy234]; exact H) | exact H
                          have Ny234 := As.mk hy234
                          clear hy234
                          have H' := As.mk H
                          clear H
                          obtain ⟨Ao35, co35, eo35⟩ := Kd.R_slice HO_6.out
                          subst eo35
                          have p231 : 0 ≤ ((ji29) : Int) := of_decide_eq_true (by first | (with_reducible assumption) | assumption)
                          have q231 : (ji29) < (x6_2.length : Int) := of_decide_eq_true (by first | (with_reducible assumption) | assumption)
                          obtain ⟨ad231, e231, hx231_0⟩ := Kd.at_int (Kd.R_reads' HO_6.out).2.2 (ji29) p231 q231
                          cases e231
                          replace p231 := eq_true p231
                          replace q231 := eq_true q231
                          have hnb36 := NB225_226.out
                          have hnc36 := NB226_225.out
                          have hnb37 := NB225_227.out
                          have hnc37 := NB227_225.out
                          have hcz38_0 : wc.cell? ⟨gb225, 0, none⟩ = some (.bool a0_0) := (kcl BK225.out 0).trans rfl
                          have hcz38_1 : wc.cell? ⟨gb225, 1, none⟩ = some (.slice A0_1 l0_1.length c0_1) := (kcl BK225.out 1).trans rfl
                          have hfz38_0 := kfz BK225.out 0
                          have hfz38_1 := kfz BK225.out 1
                          go_wp2_with (first | (go_at_call 84; (with_reducible refine (spec_digit.calls _ _ l0_1 x7_1 t232 _ ?side1 ?side2 A32.out).mono ?_); (case side1 => repeat (first | exact (Kd.C_below HR0_1.out HB.out) | (with_reducible refine Kd.C_alloc ?_ _) | (with_reducible refine Kd.C_drewN ?_ _) | (with_reducible refine Kd.C_drew ?_))); (case side2 => exact HC0_1.out); rintro e w' ⟨rfl, ⟨nd, rfl⟩⟩; (try first | exact ⟨rfl, _, World.drewN_drewN _ _ _⟩ | exact ⟨rfl, _, Eq.trans (World.drewN_drewN _ _ _) (congrArg (World.drewN _) (Nat.add_assoc _ _ _))⟩); have hnb39 := NB226_227.out; have hnc39 := NB227_226.out; have hcz40_0 : wc.cell? ⟨gb226, 0, none⟩ = some (.bool a1_0) := (kcl BK226.out 0).trans rfl; have hcz40_1 : wc.cell? ⟨gb226, 1, none⟩ = some (.slice A1_1 l1_1.length c1_1) := (kcl BK226.out 1).trans rfl; have hfz40_0 := kfz BK226.out 0; have hfz40_1 := kfz BK226.out 1) | (go_at_call 84; (with_reducible refine (spec_digit.calls _ _ l1_1 x9_2 t233 _ ?side1 ?side2 A33.out).mono ?_); (case side1 => repeat (first | exact (Kd.C_below HR1_1.out (by repeat (first | (with_reducible first | exact HB.out | apply bal | apply pwn | apply bdw | refine bst ?_ GE225.out | refine bst ?_ GE226.out | refine bst ?_ GE227.out) | exact HB.out))) | (with_reducible refine Kd.C_alloc ?_ _) | (with_reducible refine Kd.C_drewN ?_ _) | (with_reducible refine Kd.C_drew ?_))); (case side2 => exact HC1_1.out); rintro e w' ⟨rfl, ⟨nd, rfl⟩⟩; (try first | exact ⟨rfl, _, World.drewN_drewN _ _ _⟩ | exact ⟨rfl, _, Eq.trans (World.drewN_drewN _ _ _) (congrArg (World.drewN _) (Nat.add_assoc _ _ _))⟩); have p34 : 0 ≤ ((ji29) : Int) := of_decide_eq_true (by first | (with_reducible assumption) | assumption); have q34 : ((ji29) : Int) < ((x6_2.length : Int) : Int) := of_decide_eq_true (by first | (with_reducible assumption) | assumption); obtain ⟨go34, co34, eo34, gb34, gl34, cl34, HG34⟩ := Kd.R_form HO_6.out (by omega); (first | cases eo34 | (injection eo34 with ea_ en_ ec_; (first | subst ea_ | (injection ea_ with ea_; subst ea_)); subst ec_; clear en_)); have GB34 := As.mk gb34; have GG34 := As.mk HG34; clear gb34 gl34 HG34; (first | simp only [add_plain] at hx231_0 | skip); obtain ⟨hx34_0, hf34_0⟩ := Kd.R_celln 0 HO_6.out ((ji29) : Int) p34 q34; replace p34 := eq_true p34; replace q34 := eq_true q34; obtain ⟨hy41_, hz41_⟩ := Kd.R_celln 0 HO_6.out ((ji29) : Int) (of_decide_eq_true (by first | (with_reducible assumption) | assumption)) (of_decide_eq_true (by first | (with_reducible assumption) | assumption)); have HP41 := Kd.R_putg HO_6.out ((ji29) : Int) (Int.tmod (wrap64 ((wrap64 ((rd x6_2 (ji29)) + (wrap64 (t232 * t233)))) + x8_2)) 256)) | ((with_reducible refine gate_store (t := 3) (p := 65) rfl ?_); (try (rw [drewN_self wc]; generalize hq_ : World.drewN wc _ = wc; have n0_ := As.mk (Kd.R_at hq_ HO_6.out); have n1_ := As.mk (blk_at hq_ BK225.out); have n2_ := As.mk (blk_at hq_ BK226.out); have n3_ := As.mk (blk_at hq_ BK227.out); have n4_ := As.mk (below_at hq_ HB.out); clear hq_ HO_6 BK225 BK226 BK227 HB; have HO_6 := n0_; have BK225 := n1_; have BK226 := n2_; have BK227 := n3_; have HB := n4_; clear n0_ n1_ n2_ n3_ n4_; (try (obtain ⟨hy41_, hz41_⟩ := Kd.R_celln 0 HO_6.out ((ji29) : Int) (of_decide_eq_true (by first | (with_reducible assumption) | assumption)) (of_decide_eq_true (by first | (with_reducible assumption) | assumption)))); (try (have HP41 := Kd.R_putg HO_6.out ((ji29) : Int) (Int.tmod (wrap64 ((wrap64 ((rd x6_2 (ji29)) + (wrap64 (t232 * t233)))) + x8_2)) 256))))); refine store_event (t := 3) (p := 65) (v := ?vo_w42) (w1 := (wc.setCell ⟨go34, ((ji29) : Int).toNat, none⟩ (.int .i64 (Int.tmod (wrap64 ((wrap64 ((rd x6_2 (ji29)) + (wrap64 (t232 * t233)))) + x8_2)) 256)))) ?hg ?ho ?hn ?hr ?_; (case ho => rfl); (case hg => rfl); (case hn => rfl); (case hr => first | (go_simp; done) | (go_simp; rfl)); intro w42 hw; have hg : wc.grownBy w42 (some go34) := (by rw [hw]; exact HP41.2); have hp_ : Kd.R (Kd.int .i64) 3 w42 w.heap.size (fun _ => True) (.slice (some ⟨go34, 0, none⟩) x6_2.length co35) y234 := (by rw [hw, Ny234.out]; exact HP41.1); clear HP41; have n0_ := As.mk (hp_); have n1_ := As.mk (blk_grown (g := gb225) (o := .cells #[.bool a0_0, .slice A0_1 l0_1.length c0_1] 31 (0, 0)) (by (with_reducible repeat (first | refine kdn ?_ _ | refine kdr ?_ | refine kal ?_ _)); exact BK225.out) hg (Kd.R_ne HO_6.out BK225.out (by decide))); have n2_ := As.mk (blk_grown (g := gb226) (o := .cells #[.bool a1_0, .slice A1_1 l1_1.length c1_1] 31 (0, 0)) (by (with_reducible repeat (first | refine kdn ?_ _ | refine kdr ?_ | refine kal ?_ _)); exact BK226.out) hg (Kd.R_ne HO_6.out BK226.out (by decide))); have n3_ := As.mk (blk_grown (g := gb227) (o := .cells #[.bool false, .slice none 0 0] 31 (0, 0)) (by (with_reducible repeat (first | refine kdn ?_ _ | refine kdr ?_ | refine kal ?_ _)); exact BK227.out) hg (Kd.R_ne HO_6.out BK227.out (by decide))); have n4_ := As.mk ((by rw [hw]; exact bst (HB.out) GB34.out : Below w.heap.size w w42)); clear HO_6; clear BK225; clear BK226; clear BK227; clear HB; have HO_6 := n0_; have BK225 := n1_; have BK226 := n2_; have BK227 := n3_; have HB := n4_; clear n0_ n1_ n2_ n3_ n4_; clear hg hw hp_))
                          repeat (go_quiet (first | (go_at_call 84; (with_reducible refine (spec_digit.calls _ _ l0_1 x7_1 t232 _ ?side1 ?side2 A32.out).mono ?_); (case side1 => repeat (first | exact (Kd.C_below HR0_1.out HB.out) | (with_reducible refine Kd.C_alloc ?_ _) | (with_reducible refine Kd.C_drewN ?_ _) | (with_reducible refine Kd.C_drew ?_))); (case side2 => exact HC0_1.out); rintro e w' ⟨rfl, ⟨nd, rfl⟩⟩; (try first | exact ⟨rfl, _, World.drewN_drewN _ _ _⟩ | exact ⟨rfl, _, Eq.trans (World.drewN_drewN _ _ _) (congrArg (World.drewN _) (Nat.add_assoc _ _ _))⟩); have hnb39 := NB226_227.out; have hnc39 := NB227_226.out; have hcz40_0 : wc.cell? ⟨gb226, 0, none⟩ = some (.bool a1_0) := (kcl BK226.out 0).trans rfl; have hcz40_1 : wc.cell? ⟨gb226, 1, none⟩ = some (.slice A1_1 l1_1.length c1_1) := (kcl BK226.out 1).trans rfl; have hfz40_0 := kfz BK226.out 0; have hfz40_1 := kfz BK226.out 1) | (go_at_call 84; (with_reducible refine (spec_digit.calls _ _ l1_1 x9_2 t233 _ ?side1 ?side2 A33.out).mono ?_); (case side1 => repeat (first | exact (Kd.C_below HR1_1.out (by repeat (first | (with_reducible first | exact HB.out | apply bal | apply pwn | apply bdw | refine bst ?_ GE225.out | refine bst ?_ GE226.out | refine bst ?_ GE227.out) | exact HB.out))) | (with_reducible refine Kd.C_alloc ?_ _) | (with_reducible refine Kd.C_drewN ?_ _) | (with_reducible refine Kd.C_drew ?_))); (case side2 => exact HC1_1.out); rintro e w' ⟨rfl, ⟨nd, rfl⟩⟩; (try first | exact ⟨rfl, _, World.drewN_drewN _ _ _⟩ | exact ⟨rfl, _, Eq.trans (World.drewN_drewN _ _ _) (congrArg (World.drewN _) (Nat.add_assoc _ _ _))⟩); have p34 : 0 ≤ ((ji29) : Int) := of_decide_eq_true (by first | (with_reducible assumption) | assumption); have q34 : ((ji29) : Int) < ((x6_2.length : Int) : Int) := of_decide_eq_true (by first | (with_reducible assumption) | assumption); obtain ⟨go34, co34, eo34, gb34, gl34, cl34, HG34⟩ := Kd.R_form HO_6.out (by omega); (first | cases eo34 | (injection eo34 with ea_ en_ ec_; (first | subst ea_ | (injection ea_ with ea_; subst ea_)); subst ec_; clear en_)); have GB34 := As.mk gb34; have GG34 := As.mk HG34; clear gb34 gl34 HG34; (first | simp only [add_plain] at hx231_0 | skip); obtain ⟨hx34_0, hf34_0⟩ := Kd.R_celln 0 HO_6.out ((ji29) : Int) p34 q34; replace p34 := eq_true p34; replace q34 := eq_true q34; obtain ⟨hy41_, hz41_⟩ := Kd.R_celln 0 HO_6.out ((ji29) : Int) (of_decide_eq_true (by first | (with_reducible assumption) | assumption)) (of_decide_eq_true (by first | (with_reducible assumption) | assumption)); have HP41 := Kd.R_putg HO_6.out ((ji29) : Int) (Int.tmod (wrap64 ((wrap64 ((rd x6_2 (ji29)) + (wrap64 (t232 * t233)))) + x8_2)) 256)) | ((with_reducible refine gate_store (t := 3) (p := 65) rfl ?_); (try (rw [drewN_self wc]; generalize hq_ : World.drewN wc _ = wc; have n0_ := As.mk (Kd.R_at hq_ HO_6.out); have n1_ := As.mk (blk_at hq_ BK225.out); have n2_ := As.mk (blk_at hq_ BK226.out); have n3_ := As.mk (blk_at hq_ BK227.out); have n4_ := As.mk (below_at hq_ HB.out); clear hq_ HO_6 BK225 BK226 BK227 HB; have HO_6 := n0_; have BK225 := n1_; have BK226 := n2_; have BK227 := n3_; have HB := n4_; clear n0_ n1_ n2_ n3_ n4_; (try (obtain ⟨hy41_, hz41_⟩ := Kd.R_celln 0 HO_6.out ((ji29) : Int) (of_decide_eq_true (by first | (with_reducible assumption) | assumption)) (of_decide_eq_true (by first | (with_reducible assumption) | assumption)))); (try (have HP41 := Kd.R_putg HO_6.out ((ji29) : Int) (Int.tmod (wrap64 ((wrap64 ((rd x6_2 (ji29)) + (wrap64 (t232 * t233)))) + x8_2)) 256))))); refine store_event (t := 3) (p := 65) (v := ?vo_w42) (w1 := (wc.setCell ⟨go34, ((ji29) : Int).toNat, none⟩ (.int .i64 (Int.tmod (wrap64 ((wrap64 ((rd x6_2 (ji29)) + (wrap64 (t232 * t233)))) + x8_2)) 256)))) ?hg ?ho ?hn ?hr ?_; (case ho => rfl); (case hg => rfl); (case hn => rfl); (case hr => first | (go_simp; done) | (go_simp; rfl)); intro w42 hw; have hg : wc.grownBy w42 (some go34) := (by rw [hw]; exact HP41.2); have hp_ : Kd.R (Kd.int .i64) 3 w42 w.heap.size (fun _ => True) (.slice (some ⟨go34, 0, none⟩) x6_2.length co35) y234 := (by rw [hw, Ny234.out]; exact HP41.1); clear HP41; have n0_ := As.mk (hp_); have n1_ := As.mk (blk_grown (g := gb225) (o := .cells #[.bool a0_0, .slice A0_1 l0_1.length c0_1] 31 (0, 0)) (by (with_reducible repeat (first | refine kdn ?_ _ | refine kdr ?_ | refine kal ?_ _)); exact BK225.out) hg (Kd.R_ne HO_6.out BK225.out (by decide))); have n2_ := As.mk (blk_grown (g := gb226) (o := .cells #[.bool a1_0, .slice A1_1 l1_1.length c1_1] 31 (0, 0)) (by (with_reducible repeat (first | refine kdn ?_ _ | refine kdr ?_ | refine kal ?_ _)); exact BK226.out) hg (Kd.R_ne HO_6.out BK226.out (by decide))); have n3_ := As.mk (blk_grown (g := gb227) (o := .cells #[.bool false, .slice none 0 0] 31 (0, 0)) (by (with_reducible repeat (first | refine kdn ?_ _ | refine kdr ?_ | refine kal ?_ _)); exact BK227.out) hg (Kd.R_ne HO_6.out BK227.out (by decide))); have n4_ := As.mk ((by rw [hw]; exact bst (HB.out) GB34.out : Below w.heap.size w w42)); clear HO_6; clear BK225; clear BK226; clear BK227; clear HB; have HO_6 := n0_; have BK225 := n1_; have BK226 := n2_; have BK227 := n3_; have HB := n4_; clear n0_ n1_ n2_ n3_ n4_; clear hg hw hp_)); try go_wp2_with (first | (go_at_call 84; (with_reducible refine (spec_digit.calls _ _ l0_1 x7_1 t232 _ ?side1 ?side2 A32.out).mono ?_); (case side1 => repeat (first | exact (Kd.C_below HR0_1.out HB.out) | (with_reducible refine Kd.C_alloc ?_ _) | (with_reducible refine Kd.C_drewN ?_ _) | (with_reducible refine Kd.C_drew ?_))); (case side2 => exact HC0_1.out); rintro e w' ⟨rfl, ⟨nd, rfl⟩⟩; (try first | exact ⟨rfl, _, World.drewN_drewN _ _ _⟩ | exact ⟨rfl, _, Eq.trans (World.drewN_drewN _ _ _) (congrArg (World.drewN _) (Nat.add_assoc _ _ _))⟩); have hnb39 := NB226_227.out; have hnc39 := NB227_226.out; have hcz40_0 : wc.cell? ⟨gb226, 0, none⟩ = some (.bool a1_0) := (kcl BK226.out 0).trans rfl; have hcz40_1 : wc.cell? ⟨gb226, 1, none⟩ = some (.slice A1_1 l1_1.length c1_1) := (kcl BK226.out 1).trans rfl; have hfz40_0 := kfz BK226.out 0; have hfz40_1 := kfz BK226.out 1) | (go_at_call 84; (with_reducible refine (spec_digit.calls _ _ l1_1 x9_2 t233 _ ?side1 ?side2 A33.out).mono ?_); (case side1 => repeat (first | exact (Kd.C_below HR1_1.out (by repeat (first | (with_reducible first | exact HB.out | apply bal | apply pwn | apply bdw | refine bst ?_ GE225.out | refine bst ?_ GE226.out | refine bst ?_ GE227.out) | exact HB.out))) | (with_reducible refine Kd.C_alloc ?_ _) | (with_reducible refine Kd.C_drewN ?_ _) | (with_reducible refine Kd.C_drew ?_))); (case side2 => exact HC1_1.out); rintro e w' ⟨rfl, ⟨nd, rfl⟩⟩; (try first | exact ⟨rfl, _, World.drewN_drewN _ _ _⟩ | exact ⟨rfl, _, Eq.trans (World.drewN_drewN _ _ _) (congrArg (World.drewN _) (Nat.add_assoc _ _ _))⟩); have p34 : 0 ≤ ((ji29) : Int) := of_decide_eq_true (by first | (with_reducible assumption) | assumption); have q34 : ((ji29) : Int) < ((x6_2.length : Int) : Int) := of_decide_eq_true (by first | (with_reducible assumption) | assumption); obtain ⟨go34, co34, eo34, gb34, gl34, cl34, HG34⟩ := Kd.R_form HO_6.out (by omega); (first | cases eo34 | (injection eo34 with ea_ en_ ec_; (first | subst ea_ | (injection ea_ with ea_; subst ea_)); subst ec_; clear en_)); have GB34 := As.mk gb34; have GG34 := As.mk HG34; clear gb34 gl34 HG34; (first | simp only [add_plain] at hx231_0 | skip); obtain ⟨hx34_0, hf34_0⟩ := Kd.R_celln 0 HO_6.out ((ji29) : Int) p34 q34; replace p34 := eq_true p34; replace q34 := eq_true q34; obtain ⟨hy41_, hz41_⟩ := Kd.R_celln 0 HO_6.out ((ji29) : Int) (of_decide_eq_true (by first | (with_reducible assumption) | assumption)) (of_decide_eq_true (by first | (with_reducible assumption) | assumption)); have HP41 := Kd.R_putg HO_6.out ((ji29) : Int) (Int.tmod (wrap64 ((wrap64 ((rd x6_2 (ji29)) + (wrap64 (t232 * t233)))) + x8_2)) 256)) | ((with_reducible refine gate_store (t := 3) (p := 65) rfl ?_); (try (rw [drewN_self wc]; generalize hq_ : World.drewN wc _ = wc; have n0_ := As.mk (Kd.R_at hq_ HO_6.out); have n1_ := As.mk (blk_at hq_ BK225.out); have n2_ := As.mk (blk_at hq_ BK226.out); have n3_ := As.mk (blk_at hq_ BK227.out); have n4_ := As.mk (below_at hq_ HB.out); clear hq_ HO_6 BK225 BK226 BK227 HB; have HO_6 := n0_; have BK225 := n1_; have BK226 := n2_; have BK227 := n3_; have HB := n4_; clear n0_ n1_ n2_ n3_ n4_; (try (obtain ⟨hy41_, hz41_⟩ := Kd.R_celln 0 HO_6.out ((ji29) : Int) (of_decide_eq_true (by first | (with_reducible assumption) | assumption)) (of_decide_eq_true (by first | (with_reducible assumption) | assumption)))); (try (have HP41 := Kd.R_putg HO_6.out ((ji29) : Int) (Int.tmod (wrap64 ((wrap64 ((rd x6_2 (ji29)) + (wrap64 (t232 * t233)))) + x8_2)) 256))))); refine store_event (t := 3) (p := 65) (v := ?vo_w42) (w1 := (wc.setCell ⟨go34, ((ji29) : Int).toNat, none⟩ (.int .i64 (Int.tmod (wrap64 ((wrap64 ((rd x6_2 (ji29)) + (wrap64 (t232 * t233)))) + x8_2)) 256)))) ?hg ?ho ?hn ?hr ?_; (case ho => rfl); (case hg => rfl); (case hn => rfl); (case hr => first | (go_simp; done) | (go_simp; rfl)); intro w42 hw; have hg : wc.grownBy w42 (some go34) := (by rw [hw]; exact HP41.2); have hp_ : Kd.R (Kd.int .i64) 3 w42 w.heap.size (fun _ => True) (.slice (some ⟨go34, 0, none⟩) x6_2.length co35) y234 := (by rw [hw, Ny234.out]; exact HP41.1); clear HP41; have n0_ := As.mk (hp_); have n1_ := As.mk (blk_grown (g := gb225) (o := .cells #[.bool a0_0, .slice A0_1 l0_1.length c0_1] 31 (0, 0)) (by (with_reducible repeat (first | refine kdn ?_ _ | refine kdr ?_ | refine kal ?_ _)); exact BK225.out) hg (Kd.R_ne HO_6.out BK225.out (by decide))); have n2_ := As.mk (blk_grown (g := gb226) (o := .cells #[.bool a1_0, .slice A1_1 l1_1.length c1_1] 31 (0, 0)) (by (with_reducible repeat (first | refine kdn ?_ _ | refine kdr ?_ | refine kal ?_ _)); exact BK226.out) hg (Kd.R_ne HO_6.out BK226.out (by decide))); have n3_ := As.mk (blk_grown (g := gb227) (o := .cells #[.bool false, .slice none 0 0] 31 (0, 0)) (by (with_reducible repeat (first | refine kdn ?_ _ | refine kdr ?_ | refine kal ?_ _)); exact BK227.out) hg (Kd.R_ne HO_6.out BK227.out (by decide))); have n4_ := As.mk ((by rw [hw]; exact bst (HB.out) GB34.out : Below w.heap.size w w42)); clear HO_6; clear BK225; clear BK226; clear BK227; clear HB; have HO_6 := n0_; have BK225 := n1_; have BK226 := n2_; have BK227 := n3_; have HB := n4_; clear n0_ n1_ n2_ n3_ n4_; clear hg hw hp_)))
                          go_roundg kj19
                          case measure => have := HK1.out; have := HK2.out; have := HJ19.out; omega
                          case rel => exact ⟨(y234), (wrap64 (Int.tdiv (wrap64 ((wrap64 ((rd x6_2 (ji29)) + (wrap64 (t232 * t233)))) + x8_2)) 256)), (wrap64 (x9_2 + 1)), (by first | rfl | (simp; done) | (simp only [← hji29] <;> (first | rfl | simp)) | (simp [*]; done)), (by first | rfl | (simp; done) | (simp [*]; done)), H', ⟨by have := HK1.out; have := HK2.out; have := HJ19.out; omega⟩, ⟨by (with_reducible repeat (first | apply Kd.R_alloc | apply Kd.R_drewN | apply Kd.R_drew)); exact HO_6.out⟩, ⟨by (with_reducible repeat (first | refine kdn ?_ _ | refine kdr ?_ | refine kal ?_ _)); exact BK225.out⟩, ⟨by (with_reducible repeat (first | refine kdn ?_ _ | refine kdr ?_ | refine kal ?_ _)); exact BK226.out⟩, ⟨by (with_reducible repeat (first | refine kdn ?_ _ | refine kdr ?_ | refine kal ?_ _)); exact BK227.out⟩, ⟨by repeat (first | (with_reducible first | exact HB.out | apply bal | apply pwn | apply bdw | refine bst ?_ GE225.out | refine bst ?_ GE226.out | refine bst ?_ GE227.out) | exact HB.out)⟩⟩
                        · rw [if_neg c31] at H
                          exact absurd H (by simp)
                      · rw [if_neg c30] at H
                        exact absurd H (by simp)
                    · replace c28 := Bool.eq_false_iff.mpr c28
                      subst c28
                      have H1 : (spec_Int_Mul.l0 kj19 (wrap64 ((l0_1.length : Int) + (l1_1.length : Int))) x6_2 (wrap64 (x7_1 + 1)) a0_0 l0_1 a1_0 l1_1) = some (r1, r2) := by rw [if_neg (show ¬ (false = true) by decide)] at H; exact H
                      clear H
                      have H := H1
                      clear H1
                      have H' := As.mk H
                      clear H
                      go_wp2
                      repeat (go_quiet (fail); try go_wp2)
                      go_roundg kj19
                      case measure => have := HK1.out; have := HK2.out; have := HJ19.out; omega
                      case rel => exact ⟨(x6_2), (wrap64 (x7_1 + 1)), (by first | rfl | (simp; done) | (simp [*]; done)), H', ⟨by have := HK1.out; have := HK2.out; have := HJ19.out; omega⟩, ⟨by (with_reducible repeat (first | apply Kd.R_alloc | apply Kd.R_drewN | apply Kd.R_drew)); exact HO_6.out⟩, ⟨by (with_reducible repeat (first | refine kdn ?_ _ | refine kdr ?_ | refine kal ?_ _)); exact BK225.out⟩, ⟨by (with_reducible repeat (first | refine kdn ?_ _ | refine kdr ?_ | refine kal ?_ _)); exact BK226.out⟩, ⟨by (with_reducible repeat (first | refine kdn ?_ _ | refine kdr ?_ | refine kal ?_ _)); exact BK227.out⟩, ⟨by repeat (first | (with_reducible first | exact HB.out | apply bal | apply pwn | apply bdw | refine bst ?_ GE225.out | refine bst ?_ GE226.out | refine bst ?_ GE227.out) | exact HB.out)⟩⟩
          · rw [if_neg c16] at H
            have c16b0 : decide (x7_1 < (l0_1.length : Int)) = false := decide_eq_false c16
            clear c16
            obtain ⟨ji43, hji43⟩ : ∃ j_ : Int, (wrap64 ((l0_1.length : Int) + (l1_1.length : Int))) = j_ := ⟨_, rfl⟩
            replace H : (if 0 ≤ (ji43) then (if ((ji43) : Int).toNat ≤ 281474976710656 then (spec_Int_Mul.l2 k1 (ji43) x6_1 (List.replicate ((ji43) : Int).toNat 0) 0 a0_0 l0_1 a1_0 l1_1) else (none)) else (none)) = some (r1, r2) := by first | (rw [hji43] at H; exact H) | (simp only [hji43] at H ⊢; exact H)
            have hji43w : (IntKind.i64.wrap ((l0_1.length : Int) + (l1_1.length : Int))) = ji43 := (i64_w _).trans hji43
            by_cases c44 : 0 ≤ (ji43)
            · rw [if_pos c44] at H
              have c44b0 := eq_true c44
              have c44b1 : decide (0 ≤ (ji43)) = true := decide_eq_true c44
              clear c44
              by_cases c45 : ((ji43) : Int).toNat ≤ 281474976710656
              · rw [if_pos c45] at H
                have c45b0 := eq_true c45
                have c45b1 : decide (((ji43) : Int).toNat ≤ 281474976710656) = true := decide_eq_true c45
                clear c45
                obtain ⟨y235, hy235⟩ : ∃ y_ : List Int, y_ = (List.replicate ((ji43) : Int).toNat 0) := ⟨_, rfl⟩
                replace H : (spec_Int_Mul.l2 k1 (ji43) x6_1 y235 0 a0_0 l0_1 a1_0 l1_1) = some (r1, r2) := by first | (rw [hy235]; with_reducible exact H) | (have H2_ := (Option.bind_some _ _).symm.trans H; rw [hy235]; with_reducible exact H2_) | (have H2_ := (Option.bind_some _ _).symm.trans H; with_reducible exact H2_) | with_reducible exact H | (rw [hy235]; exact H) | exact H
                have Ny235 := As.mk hy235
                clear hy235
                have H' := As.mk H
                clear H
                have hnb46 := NB225_226.out
                have hnc46 := NB226_225.out
                have hnb47 := NB225_227.out
                have hnc47 := NB227_225.out
                have hcz48_0 : wr.cell? ⟨gb225, 0, none⟩ = some (.bool a0_0) := (kcl BK225.out 0).trans rfl
                have hcz48_1 : wr.cell? ⟨gb225, 1, none⟩ = some (.slice A0_1 l0_1.length c0_1) := (kcl BK225.out 1).trans rfl
                have hfz48_0 := kfz BK225.out 0
                have hfz48_1 := kfz BK225.out 1
                try rw [hji43]
                go_wp2_with (first | ((with_reducible refine gate_dst (N := 69) rfl ?_); refine Kd.R_make (Kd.int .u8) _ 5 rfl (N := 69) rfl 23 _ _ rfl (ji43) rfl rfl Tryz.underlying23 (.int .u8 0) 1 info5 rfl (by decide) (by omega) 0 (ok := fun _ => True) (okp := fun _ => True) rfl (fun _ hk => hk) trivial (of_decide_eq_true (by first | (with_reducible assumption) | assumption)) (Nat.le_trans (Nat.mul_le_mul_right _ (of_decide_eq_true (by first | (with_reducible assumption) | assumption) : (ji43).toNat ≤ 281474976710656)) (by omega)) (Below.refl _ _) (Nat.le_refl _) ?_; intro v236 w49 ho50 hb hg_ hnew_; clear hg_ hnew_; (first | rw [← Ny235.out] at ho50 | (simp only [Int.reduceToNat] at ho50; rw [← Ny235.out] at ho50)); have n0_ := As.mk (Kd.R_below (by (with_reducible repeat (first | apply Kd.R_alloc | apply Kd.R_drewN | apply Kd.R_drew)); exact HO_6.out) hb); have n1_ := As.mk (Kd.R_lower ho50 (bsz (by repeat (first | (with_reducible first | exact HB.out | apply bal | apply pwn | apply bdw | refine bst ?_ GE225.out | refine bst ?_ GE226.out | refine bst ?_ GE227.out) | exact HB.out)))); have n2_ := As.mk (kbw (g := gb225) (o := .cells #[.bool a0_0, .slice A0_1 l0_1.length c0_1] 31 (0, 0)) (by (with_reducible repeat (first | refine kdn ?_ _ | refine kdr ?_ | refine kal ?_ _)); exact BK225.out) hb); have n3_ := As.mk (kbw (g := gb226) (o := .cells #[.bool a1_0, .slice A1_1 l1_1.length c1_1] 31 (0, 0)) (by (with_reducible repeat (first | refine kdn ?_ _ | refine kdr ?_ | refine kal ?_ _)); exact BK226.out) hb); have n4_ := As.mk (kbw (g := gb227) (o := .cells #[.bool false, .slice none 0 0] 31 (0, 0)) (by (with_reducible repeat (first | refine kdn ?_ _ | refine kdr ?_ | refine kal ?_ _)); exact BK227.out) hb); have n5_ := As.mk (bsp (by repeat (first | (with_reducible first | exact HB.out | apply bal | apply pwn | apply bdw | refine bst ?_ GE225.out | refine bst ?_ GE226.out | refine bst ?_ GE227.out) | exact HB.out)) hb); clear HO_6; clear BK225; clear BK226; clear BK227; clear HB; have HO_6 := n0_; have HO237 := n1_; have BK225 := n2_; have BK226 := n3_; have BK227 := n4_; have HB := n5_; clear n0_ n1_ n2_ n3_ n4_ n5_; clear hb ho50))
                repeat (go_quiet (first | ((with_reducible refine gate_dst (N := 69) rfl ?_); refine Kd.R_make (Kd.int .u8) _ 5 rfl (N := 69) rfl 23 _ _ rfl (ji43) rfl rfl Tryz.underlying23 (.int .u8 0) 1 info5 rfl (by decide) (by omega) 0 (ok := fun _ => True) (okp := fun _ => True) rfl (fun _ hk => hk) trivial (of_decide_eq_true (by first | (with_reducible assumption) | assumption)) (Nat.le_trans (Nat.mul_le_mul_right _ (of_decide_eq_true (by first | (with_reducible assumption) | assumption) : (ji43).toNat ≤ 281474976710656)) (by omega)) (Below.refl _ _) (Nat.le_refl _) ?_; intro v236 w49 ho50 hb hg_ hnew_; clear hg_ hnew_; (first | rw [← Ny235.out] at ho50 | (simp only [Int.reduceToNat] at ho50; rw [← Ny235.out] at ho50)); have n0_ := As.mk (Kd.R_below (by (with_reducible repeat (first | apply Kd.R_alloc | apply Kd.R_drewN | apply Kd.R_drew)); exact HO_6.out) hb); have n1_ := As.mk (Kd.R_lower ho50 (bsz (by repeat (first | (with_reducible first | exact HB.out | apply bal | apply pwn | apply bdw | refine bst ?_ GE225.out | refine bst ?_ GE226.out | refine bst ?_ GE227.out) | exact HB.out)))); have n2_ := As.mk (kbw (g := gb225) (o := .cells #[.bool a0_0, .slice A0_1 l0_1.length c0_1] 31 (0, 0)) (by (with_reducible repeat (first | refine kdn ?_ _ | refine kdr ?_ | refine kal ?_ _)); exact BK225.out) hb); have n3_ := As.mk (kbw (g := gb226) (o := .cells #[.bool a1_0, .slice A1_1 l1_1.length c1_1] 31 (0, 0)) (by (with_reducible repeat (first | refine kdn ?_ _ | refine kdr ?_ | refine kal ?_ _)); exact BK226.out) hb); have n4_ := As.mk (kbw (g := gb227) (o := .cells #[.bool false, .slice none 0 0] 31 (0, 0)) (by (with_reducible repeat (first | refine kdn ?_ _ | refine kdr ?_ | refine kal ?_ _)); exact BK227.out) hb); have n5_ := As.mk (bsp (by repeat (first | (with_reducible first | exact HB.out | apply bal | apply pwn | apply bdw | refine bst ?_ GE225.out | refine bst ?_ GE226.out | refine bst ?_ GE227.out) | exact HB.out)) hb); clear HO_6; clear BK225; clear BK226; clear BK227; clear HB; have HO_6 := n0_; have HO237 := n1_; have BK225 := n2_; have BK226 := n3_; have BK227 := n4_; have HB := n5_; clear n0_ n1_ n2_ n3_ n4_ n5_; clear hb ho50)); try go_wp2_with (first | ((with_reducible refine gate_dst (N := 69) rfl ?_); refine Kd.R_make (Kd.int .u8) _ 5 rfl (N := 69) rfl 23 _ _ rfl (ji43) rfl rfl Tryz.underlying23 (.int .u8 0) 1 info5 rfl (by decide) (by omega) 0 (ok := fun _ => True) (okp := fun _ => True) rfl (fun _ hk => hk) trivial (of_decide_eq_true (by first | (with_reducible assumption) | assumption)) (Nat.le_trans (Nat.mul_le_mul_right _ (of_decide_eq_true (by first | (with_reducible assumption) | assumption) : (ji43).toNat ≤ 281474976710656)) (by omega)) (Below.refl _ _) (Nat.le_refl _) ?_; intro v236 w49 ho50 hb hg_ hnew_; clear hg_ hnew_; (first | rw [← Ny235.out] at ho50 | (simp only [Int.reduceToNat] at ho50; rw [← Ny235.out] at ho50)); have n0_ := As.mk (Kd.R_below (by (with_reducible repeat (first | apply Kd.R_alloc | apply Kd.R_drewN | apply Kd.R_drew)); exact HO_6.out) hb); have n1_ := As.mk (Kd.R_lower ho50 (bsz (by repeat (first | (with_reducible first | exact HB.out | apply bal | apply pwn | apply bdw | refine bst ?_ GE225.out | refine bst ?_ GE226.out | refine bst ?_ GE227.out) | exact HB.out)))); have n2_ := As.mk (kbw (g := gb225) (o := .cells #[.bool a0_0, .slice A0_1 l0_1.length c0_1] 31 (0, 0)) (by (with_reducible repeat (first | refine kdn ?_ _ | refine kdr ?_ | refine kal ?_ _)); exact BK225.out) hb); have n3_ := As.mk (kbw (g := gb226) (o := .cells #[.bool a1_0, .slice A1_1 l1_1.length c1_1] 31 (0, 0)) (by (with_reducible repeat (first | refine kdn ?_ _ | refine kdr ?_ | refine kal ?_ _)); exact BK226.out) hb); have n4_ := As.mk (kbw (g := gb227) (o := .cells #[.bool false, .slice none 0 0] 31 (0, 0)) (by (with_reducible repeat (first | refine kdn ?_ _ | refine kdr ?_ | refine kal ?_ _)); exact BK227.out) hb); have n5_ := As.mk (bsp (by repeat (first | (with_reducible first | exact HB.out | apply bal | apply pwn | apply bdw | refine bst ?_ GE225.out | refine bst ?_ GE226.out | refine bst ?_ GE227.out) | exact HB.out)) hb); clear HO_6; clear BK225; clear BK226; clear BK227; clear HB; have HO_6 := n0_; have HO237 := n1_; have BK225 := n2_; have BK226 := n3_; have BK227 := n4_; have HB := n5_; clear n0_ n1_ n2_ n3_ n4_ n5_; clear hb ho50)))
                go_loopg [12] k1 (fun kq v12 w' => ∃ (x11_2 : List Int) (x12_2 : Int), v12 = .int .i64 x12_2 ∧ As (spec_Int_Mul.l2 kq (ji43) x6_1 x11_2 x12_2 a0_0 l0_1 a1_0 l1_1 = some (r1, r2)) ∧ As (kq ≤ k1) ∧ As (Kd.R (Kd.int .i64) 3 w' w.heap.size (fun _ => True) v229 x6_1) ∧ As (Kd.R (Kd.int .u8) 5 w' w.heap.size (fun _ => True) v236 x11_2) ∧ As (w'.heap[gb225]? = some (.cells #[.bool a0_0, (.slice A0_1 l0_1.length c0_1)] 31 (0, 0))) ∧ As (w'.heap[gb226]? = some (.cells #[.bool a1_0, (.slice A1_1 l1_1.length c1_1)] 31 (0, 0))) ∧ As (w'.heap[gb227]? = some (.cells #[.bool false, (.slice none 0 0)] 31 (0, 0))) ∧ As (Below w.heap.size w w'))
                case atStart => exact ⟨(y235), (0), (by first | rfl | (simp; done) | (simp [*]; done)), H', ⟨Nat.le_refl _⟩, ⟨by (with_reducible repeat (first | apply Kd.R_alloc | apply Kd.R_drewN | apply Kd.R_drew)); exact HO_6.out⟩, ⟨by (with_reducible repeat (first | apply Kd.R_alloc | apply Kd.R_drewN | apply Kd.R_drew)); exact HO237.out⟩, ⟨by (with_reducible repeat (first | refine kdn ?_ _ | refine kdr ?_ | refine kal ?_ _)); exact BK225.out⟩, ⟨by (with_reducible repeat (first | refine kdn ?_ _ | refine kdr ?_ | refine kal ?_ _)); exact BK226.out⟩, ⟨by (with_reducible repeat (first | refine kdn ?_ _ | refine kdr ?_ | refine kal ?_ _)); exact BK227.out⟩, ⟨by repeat (first | (with_reducible first | exact HB.out | apply bal | apply pwn | apply bdw | refine bst ?_ GE225.out | refine bst ?_ GE226.out | refine bst ?_ GE227.out) | exact HB.out)⟩⟩
                case round =>
                  clear H'
                  try clear c1
                  try clear c2
                  try clear p2
                  try clear q2
                  try clear hx2
                  try clear c3
                  try clear p3
                  try clear q3
                  try clear hx3
                  try clear hf3
                  try clear c4
                  try clear c4b0
                  try clear c4b1
                  try clear c5
                  try clear c5b0
                  try clear c5b1
                  try clear p6
                  try clear c8
                  try clear c9
                  try clear c10
                  try clear c12
                  try clear c16
                  try clear c16b0
                  try clear c17
                  try clear c18
                  try clear c21
                  try clear c21b0
                  try clear c22
                  try clear c23
                  try clear p23
                  try clear q23
                  try clear hx23
                  try clear c25
                  try clear c26
                  try clear c28
                  try clear c30
                  try clear c30b0
                  try clear c31
                  try clear c31b0
                  try clear p34
                  try clear q34
                  try clear hx34
                  try clear hf34
                  try clear c36
                  try clear c37
                  try clear c39
                  try clear c44
                  try clear c44b0
                  try clear c44b1
                  try clear c45
                  try clear c45b0
                  try clear c45b1
                  try clear c46
                  try clear c47
                  try clear hcz11_0
                  try clear hcz11_1
                  try clear hcz13_0
                  try clear hcz13_1
                  try clear hcz19_0
                  try clear hcz19_1
                  try clear hcz24_0
                  try clear hcz24_1
                  try clear hcz27_0
                  try clear hcz27_1
                  try clear hcz38_0
                  try clear hcz38_1
                  try clear hcz40_0
                  try clear hcz40_1
                  try clear hcz48_0
                  try clear hcz48_1
                  try clear hfz11_0
                  try clear hfz11_1
                  try clear hfz13_0
                  try clear hfz13_1
                  try clear hfz19_0
                  try clear hfz19_1
                  try clear hfz24_0
                  try clear hfz24_1
                  try clear hfz27_0
                  try clear hfz27_1
                  try clear hfz38_0
                  try clear hfz38_1
                  try clear hfz40_0
                  try clear hfz40_1
                  try clear hfz48_0
                  try clear hfz48_1
                  try clear hx231_0
                  try clear hx34_0
                  try clear p2
                  try clear p231
                  try clear p34
                  try clear p6
                  try clear q231
                  try clear q34
                  obtain ⟨x11_2, x12_2, rfl, HA, HK2, HO_6, HO_11, BK225, BK226, BK227, HB⟩ := hrel
                  cases gk with
                  | zero => exact absurd HA.out (by simp [spec_Int_Mul.l2])
                  | succ k2 =>
                    have H := HA.out
                    clear HA
                    simp only [spec_Int_Mul.l2] at H
                    by_cases c51 : x12_2 < (ji43)
                    · rw [if_pos c51] at H
                      have c51b0 : decide (x12_2 < (ji43)) = true := decide_eq_true c51
                      clear c51
                      by_cases c52 : 0 ≤ x12_2
                      · rw [if_pos c52] at H
                        have c52b0 : decide (0 ≤ x12_2) = true := decide_eq_true c52
                        clear c52
                        by_cases c53 : x12_2 < (x6_1.length : Int)
                        · rw [if_pos c53] at H
                          have c53b0 : decide (x12_2 < (x6_1.length : Int)) = true := decide_eq_true c53
                          clear c53
                          obtain ⟨ji54, hji54⟩ : ∃ j_ : Int, (wrap64 ((wrap64 ((ji43) - 1)) - x12_2)) = j_ := ⟨_, rfl⟩
                          replace H : (if 0 ≤ (ji54) then (if (ji54) < (x11_2.length : Int) then (spec_Int_Mul.l2 k2 (ji43) x6_1 (x11_2.set ((ji54) : Int).toNat ((rd x6_1 x12_2) % 256)) (wrap64 (x12_2 + 1)) a0_0 l0_1 a1_0 l1_1) else (none)) else (none)) = some (r1, r2) := by first | (rw [hji54] at H; exact H) | (simp only [hji54] at H ⊢; exact H)
                          have hji54w : (IntKind.i64.wrap ((wrap64 ((ji43) - 1)) - x12_2)) = ji54 := (i64_w _).trans hji54
                          by_cases c55 : 0 ≤ (ji54)
                          · rw [if_pos c55] at H
                            have c55b0 : decide (0 ≤ (ji54)) = true := decide_eq_true c55
                            clear c55
                            by_cases c56 : (ji54) < (x11_2.length : Int)
                            · rw [if_pos c56] at H
                              have c56b0 : decide ((ji54) < (x11_2.length : Int)) = true := decide_eq_true c56
                              clear c56
                              obtain ⟨y239, hy239⟩ : ∃ y_ : List Int, y_ = (x11_2.set ((ji54) : Int).toNat ((rd x6_1 x12_2) % 256)) := ⟨_, rfl⟩
                              replace H : (spec_Int_Mul.l2 k2 (ji43) x6_1 y239 (wrap64 (x12_2 + 1)) a0_0 l0_1 a1_0 l1_1) = some (r1, r2) := by first | (rw [hy239]; with_reducible exact H) | (have H2_ := (Option.bind_some _ _).symm.trans H; rw [hy239]; with_reducible exact H2_) | (have H2_ := (Option.bind_some _ _).symm.trans H; with_reducible exact H2_) | with_reducible exact H | (rw [hy239]; exact H) | exact H
                              have Ny239 := As.mk hy239
                              clear hy239
                              have H' := As.mk H
                              clear H
                              obtain ⟨Ao58, co58, eo58⟩ := Kd.R_slice HO_6.out
                              subst eo58
                              have p238 : 0 ≤ (x12_2 : Int) := of_decide_eq_true (by first | (with_reducible assumption) | assumption)
                              have q238 : x12_2 < (x6_1.length : Int) := of_decide_eq_true (by first | (with_reducible assumption) | assumption)
                              obtain ⟨ad238, e238, hx238_0⟩ := Kd.at_int (Kd.R_reads' HO_6.out).2.2 x12_2 p238 q238
                              cases e238
                              replace p238 := eq_true p238
                              replace q238 := eq_true q238
                              have p57 : 0 ≤ ((ji54) : Int) := of_decide_eq_true (by first | (with_reducible assumption) | assumption)
                              have q57 : ((ji54) : Int) < ((x11_2.length : Int) : Int) := of_decide_eq_true (by first | (with_reducible assumption) | assumption)
                              obtain ⟨go57, co57, eo57, gb57, gl57, cl57, HG57⟩ := Kd.R_form HO_11.out (by omega)
                              (first | cases eo57 | (injection eo57 with ea_ en_ ec_; (first | subst ea_ | (injection ea_ with ea_; subst ea_)); subst ec_; clear en_))
                              have GB57 := As.mk gb57
                              have GG57 := As.mk HG57
                              clear gb57 gl57 HG57
                              obtain ⟨hx57_0, hf57_0⟩ := Kd.R_celln 0 HO_11.out ((ji54) : Int) p57 q57
                              replace p57 := eq_true p57
                              replace q57 := eq_true q57
                              have HP59 := Kd.R_putg HO_11.out ((ji54) : Int) ((rd x6_1 x12_2) % 256)
                              go_wp2_with (first | ((with_reducible refine gate_store (t := 5) (p := 85) rfl ?_); (try (rw [drewN_self wr]; generalize hq_ : World.drewN wr _ = wr; have n0_ := As.mk (Kd.R_at hq_ HO_6.out); have n1_ := As.mk (Kd.R_at hq_ HO_11.out); have n2_ := As.mk (blk_at hq_ BK225.out); have n3_ := As.mk (blk_at hq_ BK226.out); have n4_ := As.mk (blk_at hq_ BK227.out); have n5_ := As.mk (below_at hq_ HB.out); clear hq_ HO_6 HO_11 BK225 BK226 BK227 HB; have HO_6 := n0_; have HO_11 := n1_; have BK225 := n2_; have BK226 := n3_; have BK227 := n4_; have HB := n5_; clear n0_ n1_ n2_ n3_ n4_ n5_; (try (have HP59 := Kd.R_putg HO_11.out ((ji54) : Int) ((rd x6_1 x12_2) % 256))))); refine store_event (t := 5) (p := 85) (v := ?vo_w60) (w1 := (wr.setCell ⟨go57, ((ji54) : Int).toNat, none⟩ (.int .u8 ((rd x6_1 x12_2) % 256)))) ?hg ?ho ?hn ?hr ?_; (case ho => rfl); (case hg => rfl); (case hn => rfl); (case hr => first | (go_simp; done) | (go_simp; rfl)); intro w60 hw; have hg : wr.grownBy w60 (some go57) := (by rw [hw]; exact HP59.2); have hp_ : Kd.R (Kd.int .u8) 5 w60 w.heap.size (fun _ => True) (.slice (some ⟨go57, 0, none⟩) x11_2.length co57) y239 := (by rw [hw, Ny239.out]; exact HP59.1); clear HP59; have n0_ := As.mk (Kd.R_over' (v := (.slice (some ⟨go57, 0, none⟩) x11_2.length co57)) (by (with_reducible repeat (first | apply Kd.R_alloc | apply Kd.R_drewN | apply Kd.R_drew)); exact HO_6.out) (Kd.R_typed HO_11.out) (by decide) hg); have n1_ := As.mk (hp_); have n2_ := As.mk (blk_grown (g := gb225) (o := .cells #[.bool a0_0, .slice A0_1 l0_1.length c0_1] 31 (0, 0)) (by (with_reducible repeat (first | refine kdn ?_ _ | refine kdr ?_ | refine kal ?_ _)); exact BK225.out) hg (Kd.R_ne HO_11.out BK225.out (by decide))); have n3_ := As.mk (blk_grown (g := gb226) (o := .cells #[.bool a1_0, .slice A1_1 l1_1.length c1_1] 31 (0, 0)) (by (with_reducible repeat (first | refine kdn ?_ _ | refine kdr ?_ | refine kal ?_ _)); exact BK226.out) hg (Kd.R_ne HO_11.out BK226.out (by decide))); have n4_ := As.mk (blk_grown (g := gb227) (o := .cells #[.bool false, .slice none 0 0] 31 (0, 0)) (by (with_reducible repeat (first | refine kdn ?_ _ | refine kdr ?_ | refine kal ?_ _)); exact BK227.out) hg (Kd.R_ne HO_11.out BK227.out (by decide))); have n5_ := As.mk ((by rw [hw]; exact bst (HB.out) GB57.out : Below w.heap.size w w60)); clear HO_6; clear HO_11; clear BK225; clear BK226; clear BK227; clear HB; have HO_6 := n0_; have HO_11 := n1_; have BK225 := n2_; have BK226 := n3_; have BK227 := n4_; have HB := n5_; clear n0_ n1_ n2_ n3_ n4_ n5_; clear hg hw hp_))
                              repeat (go_quiet (first | ((with_reducible refine gate_store (t := 5) (p := 85) rfl ?_); (try (rw [drewN_self wr]; generalize hq_ : World.drewN wr _ = wr; have n0_ := As.mk (Kd.R_at hq_ HO_6.out); have n1_ := As.mk (Kd.R_at hq_ HO_11.out); have n2_ := As.mk (blk_at hq_ BK225.out); have n3_ := As.mk (blk_at hq_ BK226.out); have n4_ := As.mk (blk_at hq_ BK227.out); have n5_ := As.mk (below_at hq_ HB.out); clear hq_ HO_6 HO_11 BK225 BK226 BK227 HB; have HO_6 := n0_; have HO_11 := n1_; have BK225 := n2_; have BK226 := n3_; have BK227 := n4_; have HB := n5_; clear n0_ n1_ n2_ n3_ n4_ n5_; (try (have HP59 := Kd.R_putg HO_11.out ((ji54) : Int) ((rd x6_1 x12_2) % 256))))); refine store_event (t := 5) (p := 85) (v := ?vo_w60) (w1 := (wr.setCell ⟨go57, ((ji54) : Int).toNat, none⟩ (.int .u8 ((rd x6_1 x12_2) % 256)))) ?hg ?ho ?hn ?hr ?_; (case ho => rfl); (case hg => rfl); (case hn => rfl); (case hr => first | (go_simp; done) | (go_simp; rfl)); intro w60 hw; have hg : wr.grownBy w60 (some go57) := (by rw [hw]; exact HP59.2); have hp_ : Kd.R (Kd.int .u8) 5 w60 w.heap.size (fun _ => True) (.slice (some ⟨go57, 0, none⟩) x11_2.length co57) y239 := (by rw [hw, Ny239.out]; exact HP59.1); clear HP59; have n0_ := As.mk (Kd.R_over' (v := (.slice (some ⟨go57, 0, none⟩) x11_2.length co57)) (by (with_reducible repeat (first | apply Kd.R_alloc | apply Kd.R_drewN | apply Kd.R_drew)); exact HO_6.out) (Kd.R_typed HO_11.out) (by decide) hg); have n1_ := As.mk (hp_); have n2_ := As.mk (blk_grown (g := gb225) (o := .cells #[.bool a0_0, .slice A0_1 l0_1.length c0_1] 31 (0, 0)) (by (with_reducible repeat (first | refine kdn ?_ _ | refine kdr ?_ | refine kal ?_ _)); exact BK225.out) hg (Kd.R_ne HO_11.out BK225.out (by decide))); have n3_ := As.mk (blk_grown (g := gb226) (o := .cells #[.bool a1_0, .slice A1_1 l1_1.length c1_1] 31 (0, 0)) (by (with_reducible repeat (first | refine kdn ?_ _ | refine kdr ?_ | refine kal ?_ _)); exact BK226.out) hg (Kd.R_ne HO_11.out BK226.out (by decide))); have n4_ := As.mk (blk_grown (g := gb227) (o := .cells #[.bool false, .slice none 0 0] 31 (0, 0)) (by (with_reducible repeat (first | refine kdn ?_ _ | refine kdr ?_ | refine kal ?_ _)); exact BK227.out) hg (Kd.R_ne HO_11.out BK227.out (by decide))); have n5_ := As.mk ((by rw [hw]; exact bst (HB.out) GB57.out : Below w.heap.size w w60)); clear HO_6; clear HO_11; clear BK225; clear BK226; clear BK227; clear HB; have HO_6 := n0_; have HO_11 := n1_; have BK225 := n2_; have BK226 := n3_; have BK227 := n4_; have HB := n5_; clear n0_ n1_ n2_ n3_ n4_ n5_; clear hg hw hp_)); try go_wp2_with (first | ((with_reducible refine gate_store (t := 5) (p := 85) rfl ?_); (try (rw [drewN_self wr]; generalize hq_ : World.drewN wr _ = wr; have n0_ := As.mk (Kd.R_at hq_ HO_6.out); have n1_ := As.mk (Kd.R_at hq_ HO_11.out); have n2_ := As.mk (blk_at hq_ BK225.out); have n3_ := As.mk (blk_at hq_ BK226.out); have n4_ := As.mk (blk_at hq_ BK227.out); have n5_ := As.mk (below_at hq_ HB.out); clear hq_ HO_6 HO_11 BK225 BK226 BK227 HB; have HO_6 := n0_; have HO_11 := n1_; have BK225 := n2_; have BK226 := n3_; have BK227 := n4_; have HB := n5_; clear n0_ n1_ n2_ n3_ n4_ n5_; (try (have HP59 := Kd.R_putg HO_11.out ((ji54) : Int) ((rd x6_1 x12_2) % 256))))); refine store_event (t := 5) (p := 85) (v := ?vo_w60) (w1 := (wr.setCell ⟨go57, ((ji54) : Int).toNat, none⟩ (.int .u8 ((rd x6_1 x12_2) % 256)))) ?hg ?ho ?hn ?hr ?_; (case ho => rfl); (case hg => rfl); (case hn => rfl); (case hr => first | (go_simp; done) | (go_simp; rfl)); intro w60 hw; have hg : wr.grownBy w60 (some go57) := (by rw [hw]; exact HP59.2); have hp_ : Kd.R (Kd.int .u8) 5 w60 w.heap.size (fun _ => True) (.slice (some ⟨go57, 0, none⟩) x11_2.length co57) y239 := (by rw [hw, Ny239.out]; exact HP59.1); clear HP59; have n0_ := As.mk (Kd.R_over' (v := (.slice (some ⟨go57, 0, none⟩) x11_2.length co57)) (by (with_reducible repeat (first | apply Kd.R_alloc | apply Kd.R_drewN | apply Kd.R_drew)); exact HO_6.out) (Kd.R_typed HO_11.out) (by decide) hg); have n1_ := As.mk (hp_); have n2_ := As.mk (blk_grown (g := gb225) (o := .cells #[.bool a0_0, .slice A0_1 l0_1.length c0_1] 31 (0, 0)) (by (with_reducible repeat (first | refine kdn ?_ _ | refine kdr ?_ | refine kal ?_ _)); exact BK225.out) hg (Kd.R_ne HO_11.out BK225.out (by decide))); have n3_ := As.mk (blk_grown (g := gb226) (o := .cells #[.bool a1_0, .slice A1_1 l1_1.length c1_1] 31 (0, 0)) (by (with_reducible repeat (first | refine kdn ?_ _ | refine kdr ?_ | refine kal ?_ _)); exact BK226.out) hg (Kd.R_ne HO_11.out BK226.out (by decide))); have n4_ := As.mk (blk_grown (g := gb227) (o := .cells #[.bool false, .slice none 0 0] 31 (0, 0)) (by (with_reducible repeat (first | refine kdn ?_ _ | refine kdr ?_ | refine kal ?_ _)); exact BK227.out) hg (Kd.R_ne HO_11.out BK227.out (by decide))); have n5_ := As.mk ((by rw [hw]; exact bst (HB.out) GB57.out : Below w.heap.size w w60)); clear HO_6; clear HO_11; clear BK225; clear BK226; clear BK227; clear HB; have HO_6 := n0_; have HO_11 := n1_; have BK225 := n2_; have BK226 := n3_; have BK227 := n4_; have HB := n5_; clear n0_ n1_ n2_ n3_ n4_ n5_; clear hg hw hp_)))
                              go_roundg k2
                              case measure => have := HK1.out; have := HK2.out; omega
                              case rel => exact ⟨(y239), (wrap64 (x12_2 + 1)), (by first | rfl | (simp; done) | (simp [*]; done)), H', ⟨by have := HK1.out; have := HK2.out; omega⟩, ⟨by (with_reducible repeat (first | apply Kd.R_alloc | apply Kd.R_drewN | apply Kd.R_drew)); exact HO_6.out⟩, ⟨by (with_reducible repeat (first | apply Kd.R_alloc | apply Kd.R_drewN | apply Kd.R_drew)); exact HO_11.out⟩, ⟨by (with_reducible repeat (first | refine kdn ?_ _ | refine kdr ?_ | refine kal ?_ _)); exact BK225.out⟩, ⟨by (with_reducible repeat (first | refine kdn ?_ _ | refine kdr ?_ | refine kal ?_ _)); exact BK226.out⟩, ⟨by (with_reducible repeat (first | refine kdn ?_ _ | refine kdr ?_ | refine kal ?_ _)); exact BK227.out⟩, ⟨by repeat (first | (with_reducible first | exact HB.out | apply bal | apply pwn | apply bdw | refine bst ?_ GE225.out | refine bst ?_ GE226.out | refine bst ?_ GE227.out) | exact HB.out)⟩⟩
                            · rw [if_neg c56] at H
                              exact absurd H (by simp)
                          · rw [if_neg c55] at H
                            exact absurd H (by simp)
                        · rw [if_neg c53] at H
                          exact absurd H (by simp)
                      · rw [if_neg c52] at H
                        exact absurd H (by simp)
                    · rw [if_neg c51] at H
                      have c51b0 : decide (x12_2 < (ji43)) = false := decide_eq_false c51
                      clear c51
                      replace H := Option.bind_eq_some_iff.mp H
                      obtain ⟨⟨t240, t241⟩, A610, H⟩ := H
                      replace H : (some (t240, t241)) = some (r1, r2) := H
                      have A61 := As.mk A610
                      clear A610
                      simp only [Option.some.injEq, Prod.mk.injEq] at H
                      obtain ⟨rfl, rfl⟩ := H
                      have hnb62 := NB225_226.out
                      have hnc62 := NB226_225.out
                      have hnb63 := NB225_227.out
                      have hnc63 := NB227_225.out
                      have hcz64_0 : wr.cell? ⟨gb225, 0, none⟩ = some (.bool a0_0) := (kcl BK225.out 0).trans rfl
                      have hcz64_1 : wr.cell? ⟨gb225, 1, none⟩ = some (.slice A0_1 l0_1.length c0_1) := (kcl BK225.out 1).trans rfl
                      have hfz64_0 := kfz BK225.out 0
                      have hfz64_1 := kfz BK225.out 1
                      have hnb65 := NB226_227.out
                      have hnc65 := NB227_226.out
                      have hcz66_0 : wr.cell? ⟨gb226, 0, none⟩ = some (.bool a1_0) := (kcl BK226.out 0).trans rfl
                      have hcz66_1 : wr.cell? ⟨gb226, 1, none⟩ = some (.slice A1_1 l1_1.length c1_1) := (kcl BK226.out 1).trans rfl
                      have hfz66_0 := kfz BK226.out 0
                      have hfz66_1 := kfz BK226.out 1
                      obtain ⟨Ao67, co67, eo67⟩ := Kd.R_slice HO_11.out
                      subst eo67
                      replace A61 : As (spec_Of.f k2 (!(a0_0 == a1_0)) x11_2 = some (t240, t241)) := A61
                      go_wp2_with (first | (go_at_call 6; (with_reducible refine (spec_Of.calls k2 (!(a0_0 == a1_0)) _ _ x11_2 t240 t241 _ ?side1 ?side2 A61.out).mono ?_); (case side1 => repeat (first | exact (Kd.R_reads' HO_11.out).2.2 | (with_reducible refine Kd.C_alloc ?_ _) | (with_reducible refine Kd.C_drewN ?_ _) | (with_reducible refine Kd.C_drew ?_))); (case side2 => exact (Kd.R_reads' HO_11.out).2.1); rintro e w68 ⟨v242, rfl, ho0, hb⟩; have n0_ := As.mk (Kd.R_below (by (with_reducible repeat (first | apply Kd.R_alloc | apply Kd.R_drewN | apply Kd.R_drew)); exact HO_6.out) hb); have n1_ := As.mk (Kd.R_elder' (by (with_reducible repeat (first | apply Kd.R_alloc | apply Kd.R_drewN | apply Kd.R_drew)); exact HO_11.out) (Kd.R_base ho0) hb); have n2_ := As.mk (Kd.R_lower (Kd.R_new' ho0 (Kd.R_lt (by (with_reducible repeat (first | apply Kd.R_alloc | apply Kd.R_drewN | apply Kd.R_drew)); exact HO_11.out))) (bsz (by repeat (first | (with_reducible first | exact HB.out | apply bal | apply pwn | apply bdw | refine bst ?_ GE225.out | refine bst ?_ GE226.out | refine bst ?_ GE227.out) | exact HB.out)))); have n3_ := As.mk (kbw (g := gb225) (o := .cells #[.bool a0_0, .slice A0_1 l0_1.length c0_1] 31 (0, 0)) (by (with_reducible repeat (first | refine kdn ?_ _ | refine kdr ?_ | refine kal ?_ _)); exact BK225.out) hb); have n4_ := As.mk (kbw (g := gb226) (o := .cells #[.bool a1_0, .slice A1_1 l1_1.length c1_1] 31 (0, 0)) (by (with_reducible repeat (first | refine kdn ?_ _ | refine kdr ?_ | refine kal ?_ _)); exact BK226.out) hb); have n5_ := As.mk (kbw (g := gb227) (o := .cells #[.bool false, .slice none 0 0] 31 (0, 0)) (by (with_reducible repeat (first | refine kdn ?_ _ | refine kdr ?_ | refine kal ?_ _)); exact BK227.out) hb); have n6_ := As.mk (bsp (by repeat (first | (with_reducible first | exact HB.out | apply bal | apply pwn | apply bdw | refine bst ?_ GE225.out | refine bst ?_ GE226.out | refine bst ?_ GE227.out) | exact HB.out)) hb); clear HO_6; clear HO_11; clear BK225; clear BK226; clear BK227; clear HB; have HO_6 := n0_; have HO_11 := n1_; have HO243 := n2_; have BK225 := n3_; have BK226 := n4_; have BK227 := n5_; have HB := n6_; clear n0_ n1_ n2_ n3_ n4_ n5_ n6_; (try clear hb); (try clear hb2); (try clear hk); (try clear hi); (try clear ho0); have hcz69_0 : w68.cell? ⟨gb227, 0, none⟩ = some (.bool false) := (kcl BK227.out 0).trans rfl; have hcz69_1 : w68.cell? ⟨gb227, 1, none⟩ = some (.slice none 0 0) := (kcl BK227.out 1).trans rfl; have hfz69_0 := kfz BK227.out 0; have hfz69_1 := kfz BK227.out 1; obtain ⟨Ao70, co70, eo70⟩ := Kd.R_slice HO243.out; subst eo70))
                      repeat (go_quiet (first | (go_at_call 6; (with_reducible refine (spec_Of.calls k2 (!(a0_0 == a1_0)) _ _ x11_2 t240 t241 _ ?side1 ?side2 A61.out).mono ?_); (case side1 => repeat (first | exact (Kd.R_reads' HO_11.out).2.2 | (with_reducible refine Kd.C_alloc ?_ _) | (with_reducible refine Kd.C_drewN ?_ _) | (with_reducible refine Kd.C_drew ?_))); (case side2 => exact (Kd.R_reads' HO_11.out).2.1); rintro e w68 ⟨v242, rfl, ho0, hb⟩; have n0_ := As.mk (Kd.R_below (by (with_reducible repeat (first | apply Kd.R_alloc | apply Kd.R_drewN | apply Kd.R_drew)); exact HO_6.out) hb); have n1_ := As.mk (Kd.R_elder' (by (with_reducible repeat (first | apply Kd.R_alloc | apply Kd.R_drewN | apply Kd.R_drew)); exact HO_11.out) (Kd.R_base ho0) hb); have n2_ := As.mk (Kd.R_lower (Kd.R_new' ho0 (Kd.R_lt (by (with_reducible repeat (first | apply Kd.R_alloc | apply Kd.R_drewN | apply Kd.R_drew)); exact HO_11.out))) (bsz (by repeat (first | (with_reducible first | exact HB.out | apply bal | apply pwn | apply bdw | refine bst ?_ GE225.out | refine bst ?_ GE226.out | refine bst ?_ GE227.out) | exact HB.out)))); have n3_ := As.mk (kbw (g := gb225) (o := .cells #[.bool a0_0, .slice A0_1 l0_1.length c0_1] 31 (0, 0)) (by (with_reducible repeat (first | refine kdn ?_ _ | refine kdr ?_ | refine kal ?_ _)); exact BK225.out) hb); have n4_ := As.mk (kbw (g := gb226) (o := .cells #[.bool a1_0, .slice A1_1 l1_1.length c1_1] 31 (0, 0)) (by (with_reducible repeat (first | refine kdn ?_ _ | refine kdr ?_ | refine kal ?_ _)); exact BK226.out) hb); have n5_ := As.mk (kbw (g := gb227) (o := .cells #[.bool false, .slice none 0 0] 31 (0, 0)) (by (with_reducible repeat (first | refine kdn ?_ _ | refine kdr ?_ | refine kal ?_ _)); exact BK227.out) hb); have n6_ := As.mk (bsp (by repeat (first | (with_reducible first | exact HB.out | apply bal | apply pwn | apply bdw | refine bst ?_ GE225.out | refine bst ?_ GE226.out | refine bst ?_ GE227.out) | exact HB.out)) hb); clear HO_6; clear HO_11; clear BK225; clear BK226; clear BK227; clear HB; have HO_6 := n0_; have HO_11 := n1_; have HO243 := n2_; have BK225 := n3_; have BK226 := n4_; have BK227 := n5_; have HB := n6_; clear n0_ n1_ n2_ n3_ n4_ n5_ n6_; (try clear hb); (try clear hb2); (try clear hk); (try clear hi); (try clear ho0); have hcz69_0 : w68.cell? ⟨gb227, 0, none⟩ = some (.bool false) := (kcl BK227.out 0).trans rfl; have hcz69_1 : w68.cell? ⟨gb227, 1, none⟩ = some (.slice none 0 0) := (kcl BK227.out 1).trans rfl; have hfz69_0 := kfz BK227.out 0; have hfz69_1 := kfz BK227.out 1; obtain ⟨Ao70, co70, eo70⟩ := Kd.R_slice HO243.out; subst eo70)); try go_wp2_with (first | (go_at_call 6; (with_reducible refine (spec_Of.calls k2 (!(a0_0 == a1_0)) _ _ x11_2 t240 t241 _ ?side1 ?side2 A61.out).mono ?_); (case side1 => repeat (first | exact (Kd.R_reads' HO_11.out).2.2 | (with_reducible refine Kd.C_alloc ?_ _) | (with_reducible refine Kd.C_drewN ?_ _) | (with_reducible refine Kd.C_drew ?_))); (case side2 => exact (Kd.R_reads' HO_11.out).2.1); rintro e w68 ⟨v242, rfl, ho0, hb⟩; have n0_ := As.mk (Kd.R_below (by (with_reducible repeat (first | apply Kd.R_alloc | apply Kd.R_drewN | apply Kd.R_drew)); exact HO_6.out) hb); have n1_ := As.mk (Kd.R_elder' (by (with_reducible repeat (first | apply Kd.R_alloc | apply Kd.R_drewN | apply Kd.R_drew)); exact HO_11.out) (Kd.R_base ho0) hb); have n2_ := As.mk (Kd.R_lower (Kd.R_new' ho0 (Kd.R_lt (by (with_reducible repeat (first | apply Kd.R_alloc | apply Kd.R_drewN | apply Kd.R_drew)); exact HO_11.out))) (bsz (by repeat (first | (with_reducible first | exact HB.out | apply bal | apply pwn | apply bdw | refine bst ?_ GE225.out | refine bst ?_ GE226.out | refine bst ?_ GE227.out) | exact HB.out)))); have n3_ := As.mk (kbw (g := gb225) (o := .cells #[.bool a0_0, .slice A0_1 l0_1.length c0_1] 31 (0, 0)) (by (with_reducible repeat (first | refine kdn ?_ _ | refine kdr ?_ | refine kal ?_ _)); exact BK225.out) hb); have n4_ := As.mk (kbw (g := gb226) (o := .cells #[.bool a1_0, .slice A1_1 l1_1.length c1_1] 31 (0, 0)) (by (with_reducible repeat (first | refine kdn ?_ _ | refine kdr ?_ | refine kal ?_ _)); exact BK226.out) hb); have n5_ := As.mk (kbw (g := gb227) (o := .cells #[.bool false, .slice none 0 0] 31 (0, 0)) (by (with_reducible repeat (first | refine kdn ?_ _ | refine kdr ?_ | refine kal ?_ _)); exact BK227.out) hb); have n6_ := As.mk (bsp (by repeat (first | (with_reducible first | exact HB.out | apply bal | apply pwn | apply bdw | refine bst ?_ GE225.out | refine bst ?_ GE226.out | refine bst ?_ GE227.out) | exact HB.out)) hb); clear HO_6; clear HO_11; clear BK225; clear BK226; clear BK227; clear HB; have HO_6 := n0_; have HO_11 := n1_; have HO243 := n2_; have BK225 := n3_; have BK226 := n4_; have BK227 := n5_; have HB := n6_; clear n0_ n1_ n2_ n3_ n4_ n5_ n6_; (try clear hb); (try clear hb2); (try clear hk); (try clear hi); (try clear ho0); have hcz69_0 : w68.cell? ⟨gb227, 0, none⟩ = some (.bool false) := (kcl BK227.out 0).trans rfl; have hcz69_1 : w68.cell? ⟨gb227, 1, none⟩ = some (.slice none 0 0) := (kcl BK227.out 1).trans rfl; have hfz69_0 := kfz BK227.out 0; have hfz69_1 := kfz BK227.out 1; obtain ⟨Ao70, co70, eo70⟩ := Kd.R_slice HO243.out; subst eo70)))
                      refine bodyPost_ret (results_cell_row rfl _ _ gb227 31 #[.bool t240, .slice Ao70 t241.length co70] (0, 0) _ rfl (by (with_reducible repeat (first | refine kdn ?_ _ | refine kdr ?_ | refine kal ?_ _)); refine blk_put (cs := #[.bool t240, .slice none 0 0]) ?_ 1 _ rfl; (with_reducible repeat (first | refine kdn ?_ _ | refine kdr ?_ | refine kal ?_ _)); refine blk_put (cs := #[.bool false, .slice none 0 0]) ?_ 0 _ rfl; (with_reducible repeat (first | refine kdn ?_ _ | refine kdr ?_ | refine kal ?_ _)); exact BK227.out) Tryz.underlying31 rfl (by kernel_rfl)) rfl ?_
                      exact ⟨_, by first | rfl | (simp [errW_none, errW_some] <;> rfl) | (simp only [← hji3, ← hji43]; first | rfl | (simp [errW_none, errW_some] <;> rfl)) | (simp [*, errW_none, errW_some] <;> rfl), by (with_reducible repeat (first | apply Kd.R_alloc | apply Kd.R_drewN | apply Kd.R_drew)); exact Kd.R_mono (Kd.R_far (p := ⟨gb227, 1, none⟩) (Kd.R_far (p := ⟨gb227, 0, none⟩) (Kd.R_types HO243.out BK227.out (by decide)) (fun _ hk => hk.2) (.bool t240)) (fun _ hk => hk.2) (.slice Ao70 t241.length co70)) (fun _ hk => trivial), by repeat (first | (with_reducible first | exact HB.out | apply bal | apply pwn | apply bdw | refine bst ?_ GE225.out | refine bst ?_ GE226.out | refine bst ?_ GE227.out) | exact HB.out)⟩
              · rw [if_neg c45] at H
                exact absurd H (by simp)
            · rw [if_neg c44] at H
              exact absurd H (by simp)
    · rw [if_neg c5] at H
      exact absurd H (by simp)
  · rw [if_neg c4] at H
    exact absurd H (by simp)
end Go.Proofs.YtldejfallphhbaaGreatDoor.PNearest
