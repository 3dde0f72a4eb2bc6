/-
  A part of the proof of FnMathWhole (packed out of smaller texts by a program of this session; what the proof does not reach is left out).
-/
import Derived.Test.YtldejfallphhbaaGreatDoorZ3
import Derived.Test.YtldejfallphhbaaGreatDoorProg
import Derived.Test.YtldejfallphhbaaGreatDoorZ1
import Derived.Test.YtldejfallphhbaaGreatDoorZ2
import Derived.Below
import Derived.Deep.Draws
import Derived.Deep.AppendLies
import Derived.Maps.AppendAt
import Derived.OwnWalk
import Derived.Laws.BytesArg
import Derived.Laws.MakeOwn
import Derived.Laws.OwnMore
import Derived.Deep.OwnRows
import Derived.Tactics
import Derived.Lib.ConvBytes
import Derived.Laws.Slices
import Derived.WalkKit
import Derived.KernelRfl
import Derived.RowKit3
import Derived.Deep.LoopGhost
import Derived.Deep.QuietTactic
import Derived.BigQuiet
import Derived.WideLaws
import Derived.Deep.DeepCutAuto
import Derived.Deep.CutBlock
import Derived.Deep.RegionHeld3
import Derived.Laws.Rows
import Derived.Lib.AppendStr
import Derived.ArgAppend
import Derived.Laws.IdiomCopy
import Derived.OrdersHeld
import Derived.Laws.BitsLemmas
import Derived.RowKit
namespace Go.Proofs.YtldejfallphhbaaGreatDoor.PNearest
open Go.RowKit Go.Proofs.YtldejfallphhbaaGreatDoorW.PrintWords Go.Proofs.YtldejfallphhbaaGreatDoorW.PrintLast Go.Proofs.YtldejfallphhbaaGreatDoorW.PrintMore
attribute [local go_sem] max2_int min2_int max_two min_two max_three min_three max_four min_four
set_option linter.unusedVariables false
set_option linter.unusedSimpArgs false
def spec_Int_low.l0 : Nat → Int → Int → Bool → List Int → Option (Int)
  | 0, _, _, _, _ => none
  | k + 1, x3, x4, x343000, x343001 => if x4 ≥ 0 then ((spec_digit.f x343001 x4).bind fun t343 => (spec_Int_low.l0 k (Go.bits .or .u64 (IntKind.u64.wrap (x3 * 256)) (IntKind.u64.wrap (t343))) (wrap64 (x4 - 1)) x343000 x343001)) else (some x3)
def spec_Int_low.f (k : Nat) (a0_0 : Bool) (l0_1 : List Int) : Option (Int) := spec_Int_low.l0 k 0 7 a0_0 l0_1
theorem spec_Int_low.mono_l : ∀ k, (∀ y0 y1 y2 y3, LeO (spec_Int_low.l0 k y0 y1 y2 y3) (spec_Int_low.l0 (k + 1) y0 y1 y2 y3))
  | 0 => fun _ _ _ _ r h => by simp [spec_Int_low.l0] at h
  | k + 1 => by
    have ih0 := spec_Int_low.mono_l k
    · intro y0 y1 y2 y3
      unfold spec_Int_low.l0
      repeat' first
      | (with_reducible exact ih0 _ _ _ _)
      | (with_reducible exact LeO.refl _)
      | (with_reducible exact LeO.none _)
      | (with_reducible refine LeO.ite ?_ ?_)
      | (with_reducible refine LeO.bind ?_ (fun _ => ?_))
      | exact ih0 _ _ _ _
      | exact LeO.none _
      | refine LeO.ite ?_ ?_
      | refine LeO.bind ?_ (fun _ => ?_)
theorem spec_Int_low.mono : ∀ a0 a1 k, LeO (spec_Int_low.f k a0 a1) (spec_Int_low.f (k + 1) a0 a1) := by
  intro a0 a1 k
  have ih0 := spec_Int_low.mono_l k
  unfold spec_Int_low.f
  repeat' first
      | (with_reducible exact ih0 _ _ _ _)
      | (with_reducible exact LeO.refl _)
      | (with_reducible exact LeO.none _)
      | (with_reducible refine LeO.ite ?_ ?_)
      | (with_reducible refine LeO.bind ?_ (fun _ => ?_))
      | exact ih0 _ _ _ _
      | exact LeO.none _
      | refine LeO.ite ?_ ?_
      | refine LeO.bind ?_ (fun _ => ?_)
set_option maxHeartbeats 8000000 in
set_option maxRecDepth 100000 in
theorem spec_Int_low.calls (k : Nat) (a0_0 : Bool) (A0_1 : Option Addr) (c0_1 : Nat) (l0_1 : List Int) (r : Int) (w : World) (hr0_1 : Kd.C (Kd.int .u8) w A0_1 l0_1.length l0_1) (hc0_1 : l0_1.length ≤ c0_1) (h : spec_Int_low.f k a0_0 l0_1 = some r) :
    Calls Tryz.prog 67 #[.agg #[.bool a0_0, .slice A0_1 l0_1.length c0_1]] w fun e w' => e = .returned (.int .u64 r) ∧ Below w.heap.size w w' := by
  have hu31 := Tryz.underlying31
  have HR0_1 := As.mk hr0_1
  have HC0_1 := As.mk hc0_1
  clear hr0_1 hc0_1
  have HB := As.mk (Below.refl w.heap.size w)
  have H : (spec_Int_low.l0 k 0 7 a0_0 l0_1) = some r := h
  clear h
  have H' := As.mk H
  clear H
  go_enter Tryz.func67, Tryz.ntmps67
  go_wp2_with (first | ((with_reducible refine gate_dst (N := 1) rfl ?_); refine box_event ?hg (N := 1) ?hd (cs := #[.bool a0_0, .slice A0_1 l0_1.length c0_1]) (t := 31) ?hr ?_; (case hd => rfl); (case hg => rfl); (case hr => first | (go_simp; done) | (go_simp; rfl)); intro gb342 hg w2 hbox hb; have n0_ := As.mk (bsp (by repeat (first | (with_reducible first | exact HB.out | apply bal | apply pwn | apply bdw) | exact HB.out)) hb); have n1_ := As.mk (hbox); have n2_ := As.mk ((by rw [hg]; exact (bsz (by repeat (first | (with_reducible first | exact HB.out | apply bal | apply pwn | apply bdw) | exact HB.out))) : w.heap.size ≤ gb342)); have n3_ := As.mk ((by rw [hg]; exact (bsz (by repeat (first | (with_reducible first | exact HB.out | apply bal | apply pwn | apply bdw) | exact HB.out))) : w.heap.size ≤ gb342)); clear HB; have HB := n0_; have BK342 := n1_; have GW342 := n2_; have GE342 := n3_; clear n0_ n1_ n2_ n3_; clear hb hbox hg))
  go_loopg [3, 4] k (fun kq v3 v4 w' => ∃ (x3_1 : Int) (x4_1 : Int), v3 = .int .u64 x3_1 ∧ v4 = .int .i64 x4_1 ∧ As (spec_Int_low.l0 kq x3_1 x4_1 a0_0 l0_1 = some r) ∧ As (kq ≤ k) ∧ As (w'.heap[gb342]? = some (.cells #[.bool a0_0, (.slice A0_1 l0_1.length c0_1)] 31 (0, 0))) ∧ As (Below w.heap.size w w'))
  case atStart => exact ⟨(0), (7), (by first | rfl | (simp; done) | (simp [*]; done)), (by first | rfl | (simp; done) | (simp [*]; done)), H', ⟨Nat.le_refl _⟩, ⟨by (with_reducible repeat (first | refine kdn ?_ _ | refine kdr ?_ | refine kal ?_ _)); exact BK342.out⟩, ⟨by repeat (first | (with_reducible first | exact HB.out | apply bal | apply pwn | apply bdw | refine bst ?_ GE342.out) | exact HB.out)⟩⟩
  case round =>
    clear H'
    try clear p2
    obtain ⟨x3_1, x4_1, rfl, rfl, HA, HK1, BK342, HB⟩ := hrel
    cases gk with
    | zero => exact absurd HA.out (by simp [spec_Int_low.l0])
    | succ k1 =>
      have H := HA.out
      clear HA
      simp only [spec_Int_low.l0] at H
      by_cases c3 : x4_1 ≥ 0
      · rw [if_pos c3] at H
        have c3b0 : decide (0 ≤ x4_1) = true := decide_eq_true c3
        clear c3
        replace H := Option.bind_eq_some_iff.mp H
        obtain ⟨t343, A40, H⟩ := H
        replace H : (spec_Int_low.l0 k1 (Go.bits .or .u64 (IntKind.u64.wrap (x3_1 * 256)) (IntKind.u64.wrap (t343))) (wrap64 (x4_1 - 1)) a0_0 l0_1) = some r := H
        have A4 := As.mk A40
        clear A40
        have H' := As.mk H
        clear H
        have hcz5_0 : wr.cell? ⟨gb342, 0, none⟩ = some (.bool a0_0) := (kcl BK342.out 0).trans rfl
        have hcz5_1 : wr.cell? ⟨gb342, 1, none⟩ = some (.slice A0_1 l0_1.length c0_1) := (kcl BK342.out 1).trans rfl
        have hfz5_0 := kfz BK342.out 0
        have hfz5_1 := kfz BK342.out 1
        go_wp2_with (first | ((with_reducible refine gate_callee (f := 84) rfl ?_); refine goesL_ (some 14) rfl rfl Tryz.func84 (by kernel_rfl) rfl #[.slice A0_1 l0_1.length c0_1, .int .i64 x4_1] rfl (by (try simp only [List.map_toArray, List.map_cons, List.map_nil]); first | done | rfl | (simp only [List.length_drop, List.length_take]; rfl)) ?_; (with_reducible refine (spec_digit.calls _ _ l0_1 x4_1 t343 _ ?side1 ?side2 A4.out).mono ?_); (case side1 => repeat (first | exact (Kd.C_below HR0_1.out HB.out) | (with_reducible refine Kd.C_alloc ?_ _) | (with_reducible refine Kd.C_drewN ?_ _) | (with_reducible refine Kd.C_drew ?_))); (case side2 => exact HC0_1.out); rintro e w' ⟨rfl, ⟨nd, rfl⟩⟩; refine ⟨_, rfl, ?_⟩))
        go_roundg k1
        case measure => have := HK1.out; omega
        case rel => exact ⟨(Go.bits .or .u64 (IntKind.u64.wrap (x3_1 * 256)) (IntKind.u64.wrap (t343))), (wrap64 (x4_1 - 1)), (by first | rfl | (simp; done) | (simp [*]; done)), (by first | rfl | (simp; done) | (simp [*]; done)), H', ⟨by have := HK1.out; omega⟩, ⟨by (with_reducible repeat (first | refine kdn ?_ _ | refine kdr ?_ | refine kal ?_ _)); exact BK342.out⟩, ⟨by repeat (first | (with_reducible first | exact HB.out | apply bal | apply pwn | apply bdw | refine bst ?_ GE342.out) | exact HB.out)⟩⟩
      · rw [if_neg c3] at H
        have c3b0 : decide (0 ≤ x4_1) = false := decide_eq_false c3
        clear c3
        obtain rfl := Option.some.inj H
        go_wp2
        go_ret
        exact ⟨by first | rfl | (simp [errW_none, errW_some] <;> rfl) | (simp [*, errW_none, errW_some] <;> rfl), by repeat (first | (with_reducible first | exact HB.out | apply bal | apply pwn | apply bdw | refine bst ?_ GE342.out) | exact HB.out)⟩
end Go.Proofs.YtldejfallphhbaaGreatDoor.PNearest
namespace Go.Proofs.YtldejfallphhbaaGreatDoor.PIntVal
open Go.RowKit Go.Proofs.YtldejfallphhbaaGreatDoorW.PrintWords Go.Proofs.YtldejfallphhbaaGreatDoorW.PrintLast Go.Proofs.YtldejfallphhbaaGreatDoorW.PrintMore
attribute [local go_sem] max2_int min2_int max_two min_two max_three min_three max_four min_four
set_option linter.unusedVariables false
set_option linter.unusedSimpArgs false
def errW : Option Int → Value
  | none => .nilIface
  | some c => .iface 0 (.int .i64 c)
theorem errW_none : errW none = .nilIface := rfl
theorem errW_some (c : Int) : errW (some c) = .iface 0 (.int .i64 c) := rfl
theorem info5 : (Tryz.prog.info? 5).map (fun i => (i.zero, i.size, i.bytes)) = some (some (.int .u8 0), 1, 1) := by kernel_rfl
structure S28 where
  f0 : Int
  f1 : Bool
  f2 : (List Int)
  f3 : Int
  f4 : ByteArray
  f5 : (List S28)
def F28 (d : Kd S28) : Kd S28 := Kd.iso (Kd.pair (Kd.int .i64) (Kd.pair Kd.bool (Kd.pair (Kd.slice 5 (Kd.int .u8)) (Kd.pair (Kd.int .u64) (Kd.pair Kd.string (Kd.slice 28 d)))))) (fun x : S28 => (x.f0, x.f1, x.f2, x.f3, x.f4, x.f5))
theorem sub28 : Kd.Sub F28 [5, 28] := Kd.sub_iso _ (Kd.sub_pair (Kd.sub_const _ (by decide)) (Kd.sub_pair (Kd.sub_const _ (by decide)) (Kd.sub_pair (Kd.sub_const _ (by decide)) (Kd.sub_pair (Kd.sub_const _ (by decide)) (Kd.sub_pair (Kd.sub_const _ (by decide)) (Kd.sub_slice 28 (by decide) Kd.sub_id))))))
theorem sz28 : ∀ n, (Kd.upto F28 6 [5, 28] n).sz = 6 := Kd.upto_sz (fun _ => rfl)
def k28 : Kd S28 := Kd.fix F28 6 [5, 28] sz28 (Kd.upto_E sub28)
end Go.Proofs.YtldejfallphhbaaGreatDoor.PIntVal
namespace Go.Proofs.YtldejfallphhbaaGreatDoor.PIntVal
open Go.RowKit Go.Proofs.YtldejfallphhbaaGreatDoorW.PrintWords Go.Proofs.YtldejfallphhbaaGreatDoorW.PrintLast Go.Proofs.YtldejfallphhbaaGreatDoorW.PrintMore
attribute [local go_sem] max2_int min2_int max_two min_two max_three min_three max_four min_four
set_option linter.unusedVariables false
set_option linter.unusedSimpArgs false
def spec_IntVal.f (a0_0 : Bool) (l0_1 : List Int) : Option (Int × Bool × List Int × Int × ByteArray × (List (S28))) := (some (([] : List Int) : List Int)).bind fun y103 => (if y103.length + l0_1.length < 140737488355328 then (some (2, a0_0, (y103 ++ l0_1), 0, (⟨#[]⟩ : ByteArray), ([] : List (S28)))) else (none))
def spec_IntVal.T1 : Bool × List (List Nat × List Nat) := (true, [([], []), ([0], [0]), ([], []), ([], []), ([3], [3]), ([2, 4], [2, 4]), ([1, 5], [1, 5]), ([6, 5, 0, 1, 2, 3, 4, 5, 6], [6])])
def spec_IntVal.B1 : List Nat := [0, 1, 0, 0, 8, 28, 63, 127]
theorem spec_IntVal.tab1 : rtab .any (opsOf Tryz.f5 1) = spec_IntVal.T1 := by kernel_rfl
theorem spec_IntVal.bits1 : waitsOk spec_IntVal.T1.2 spec_IntVal.B1 = true := by kernel_rfl
set_option maxHeartbeats 8000000 in
set_option maxRecDepth 100000 in
theorem spec_IntVal.calls (a0_0 : Bool) (A0_1 : Option Addr) (c0_1 : Nat) (l0_1 : List Int) (r1 : Int) (r2 : Bool) (r3 : List Int) (r4 : Int) (r5 : ByteArray) (r6 : List (S28)) (w : World) (hr0_1 : Kd.C (Kd.int .u8) w A0_1 l0_1.length l0_1) (hc0_1 : l0_1.length ≤ c0_1) (h : spec_IntVal.f a0_0 l0_1 = some (r1, r2, r3, r4, r5, r6)) :
    Calls Tryz.prog 5 #[.agg #[.bool a0_0, .slice A0_1 l0_1.length c0_1]] w fun e w' => ∃ v2_ v5_ : Value, e = .returned (.agg #[.int .i64 r1, .bool r2, v2_, .int .u64 r4, .string r5, v5_]) ∧ Kd.R (Kd.int .u8) 5 w' w.heap.size (fun _ => True) v2_ r3 ∧ Kd.R k28 28 w' w.heap.size (fun k_ => some k_ ≠ (v2_ : Value).ownBlock) v5_ r6 ∧ Below w.heap.size w w' := by
  have hu31 := Tryz.underlying31
  have hu28 := Tryz.underlying28
  have HR0_1 := As.mk hr0_1
  have HC0_1 := As.mk hc0_1
  clear hr0_1 hc0_1
  have HB := As.mk (Below.refl w.heap.size w)
  have H : ((some (([] : List Int) : List Int)).bind fun y103 => (if y103.length + l0_1.length < 140737488355328 then (some (2, a0_0, (y103 ++ l0_1), 0, (⟨#[]⟩ : ByteArray), ([] : List (S28)))) else (none))) = some (r1, r2, r3, r4, r5, r6) := h
  clear h
  obtain ⟨y103, hy103⟩ : ∃ y_ : List Int, y_ = (([] : List Int)) := ⟨_, rfl⟩
  replace H : (if y103.length + l0_1.length < 140737488355328 then (some (2, a0_0, (y103 ++ l0_1), 0, (⟨#[]⟩ : ByteArray), ([] : List (S28)))) else (none)) = some (r1, r2, r3, r4, r5, r6) := by first | (rw [hy103]; with_reducible exact H) | (have H2_ := (Option.bind_some _ _).symm.trans H; rw [hy103]; with_reducible exact H2_) | (have H2_ := (Option.bind_some _ _).symm.trans H; with_reducible exact H2_) | with_reducible exact H | (rw [hy103]; exact H) | exact H
  have Ny103 := As.mk hy103
  clear hy103
  by_cases c2 : y103.length + l0_1.length < 140737488355328
  · rw [if_pos c2] at H
    have LMc2 := As.mk c2
    clear c2
    obtain ⟨y106, hy106⟩ : ∃ y_ : List Int, y_ = (y103 ++ l0_1) := ⟨_, rfl⟩
    replace H : (some (2, a0_0, y106, 0, (⟨#[]⟩ : ByteArray), ([] : List (S28)))) = some (r1, r2, r3, r4, r5, r6) := by first | (rw [hy106]; with_reducible exact H) | (have H2_ := (Option.bind_some _ _).symm.trans H; rw [hy106]; with_reducible exact H2_) | (have H2_ := (Option.bind_some _ _).symm.trans H; with_reducible exact H2_) | with_reducible exact H | (rw [hy106]; exact H) | exact H
    have Ny106 := As.mk hy106
    clear hy106
    simp only [Option.some.injEq, Prod.mk.injEq] at H
    obtain ⟨rfl, rfl, rfl, rfl, rfl, rfl⟩ := H
    go_enter Tryz.func5, Tryz.ntmps5
    try go_wp2_with (first | ((with_reducible refine gate_dst (N := 1) rfl ?_); refine box_event ?hg (N := 1) ?hd (cs := #[.bool a0_0, .slice A0_1 l0_1.length c0_1]) (t := 31) ?hr ?_; (case hd => rfl); (case hg => rfl); (case hr => first | (go_simp; done) | (go_simp; rfl)); intro gb101 hg w3 hbox hb; have n0_ := As.mk (bsp (by repeat (first | (with_reducible first | exact HB.out | apply bal | apply pwn | apply bdw) | exact HB.out)) hb); have n1_ := As.mk (hbox); have n2_ := As.mk ((by rw [hg]; exact (bsz (by repeat (first | (with_reducible first | exact HB.out | apply bal | apply pwn | apply bdw) | exact HB.out))) : w.heap.size ≤ gb101)); have n3_ := As.mk ((by rw [hg]; exact (bsz (by repeat (first | (with_reducible first | exact HB.out | apply bal | apply pwn | apply bdw) | exact HB.out))) : w.heap.size ≤ gb101)); clear HB; have HB := n0_; have BK101 := n1_; have GW101 := n2_; have GE101 := n3_; clear n0_ n1_ n2_ n3_; clear hb hbox hg) | ((with_reducible refine gate_dst (N := 2) rfl ?_); refine box_event ?hg (N := 2) ?hd (cs := #[.int .i64 0, .bool false, .slice none 0 0, .int .u64 0, .string (⟨#[]⟩ : ByteArray), .slice none 0 0]) (t := 28) ?hr ?_; (case hd => rfl); (case hg => rfl); (case hr => first | (go_simp; done) | (go_simp; rfl)); intro gb102 hg w4 hbox hb; have n0_ := As.mk (kbw (g := gb101) (o := .cells #[.bool a0_0, .slice A0_1 l0_1.length c0_1] 31 (0, 0)) (by (with_reducible repeat (first | refine kdn ?_ _ | refine kdr ?_ | refine kal ?_ _)); exact BK101.out) hb); have n1_ := As.mk (bsp (by repeat (first | (with_reducible first | exact HB.out | apply bal | apply pwn | apply bdw | refine bst ?_ GE101.out) | exact HB.out)) hb); have n2_ := As.mk (hbox); have n3_ := As.mk ((by rw [hg]; exact (bsz (by repeat (first | (with_reducible first | exact HB.out | apply bal | apply pwn | apply bdw | refine bst ?_ GE101.out) | exact HB.out))) : w.heap.size ≤ gb102)); have n4_ := As.mk ((by rw [hg]; exact (bsz (by repeat (first | (with_reducible first | exact HB.out | apply bal | apply pwn | apply bdw | refine bst ?_ GE101.out) | exact HB.out))) : w.heap.size ≤ gb102)); have n5_ := As.mk ((by rw [hg]; exact Nat.ne_of_lt (blk_lt (g := gb101) (o := .cells #[.bool a0_0, .slice A0_1 l0_1.length c0_1] 31 (0, 0)) (by (with_reducible repeat (first | refine kdn ?_ _ | refine kdr ?_ | refine kal ?_ _)); exact BK101.out)) : gb101 ≠ gb102)); have n6_ := As.mk ((by rw [hg]; exact Nat.ne_of_gt (blk_lt (g := gb101) (o := .cells #[.bool a0_0, .slice A0_1 l0_1.length c0_1] 31 (0, 0)) (by (with_reducible repeat (first | refine kdn ?_ _ | refine kdr ?_ | refine kal ?_ _)); exact BK101.out)) : gb102 ≠ gb101)); clear BK101; clear HB; have BK101 := n0_; have HB := n1_; have BK102 := n2_; have GW102 := n3_; have GE102 := n4_; have NB101_102 := n5_; have NB102_101 := n6_; clear n0_ n1_ n2_ n3_ n4_ n5_ n6_; clear hb hbox hg))
    have n0_ := As.mk (kdr BK101.out)
    have n1_ := As.mk (kdr BK102.out)
    have n2_ := As.mk (bdw HB.out)
    clear BK101
    clear BK102
    clear HB
    have BK101 := n0_
    have BK102 := n1_
    have HB := n2_
    clear n0_ n1_ n2_
    refine start_ (n := 8) (S := fun w' => w'.cell? ⟨gb101, 0, none⟩ = some (.bool a0_0) ∧ w'.cell? ⟨gb101, 1, none⟩ = some (.slice A0_1 l0_1.length c0_1)) (ds := []) #[false, false, false, false, false, false, false, false] (by kernel_rfl) rfl rfl ⟨(kcl BK101.out 0).trans rfl, (kcl BK101.out 1).trans rfl⟩ (fun hHeld => ?_); refine with_tabW spec_IntVal.tab1 spec_IntVal.bits1 (fun HT_ HW_ => ?_)
    generalize w4.drew = w5 at BK101 BK102 HB hHeld ⊢
    refine pure_ (i := 0) (N := some 3) (v := ?_) (a' := ?_) #[true, false, false, false, false, false, false, false] rfl rfl (any_of HT_.out (by kernel_rfl)) (fun _ _ _ h => h) (Or.inl ⟨by rfl, ?_⟩) ?_ ?_
    rotate_left
    · intro w'
      go_simp
      with_reducible rfl
    rotate_left
    · simp only [Act.put, List.setIfInBounds_toArray, List.set_cons_zero, List.set_cons_succ, i64_w, i32_w]
      rfl
    refine pure_ (i := 3) (N := some 6) (v := ?_) (a' := ?_) #[true, false, false, true, false, false, false, false] rfl rfl (any_of HT_.out (by kernel_rfl)) (fun _ _ _ h => h) (Or.inl ⟨by rfl, ?_⟩) ?_ ?_
    rotate_left
    · intro w'
      go_simp
      with_reducible rfl
    rotate_left
    · simp only [Act.put, List.setIfInBounds_toArray, List.set_cons_zero, List.set_cons_succ, i64_w, i32_w]
      rfl
    refine take_ (i := 1) (N := some 4) (v := ?_) (a' := ?_) #[true, true, false, true, false, false, false, false] rfl rfl (take_ofW HT_.out HW_.out (by kernel_rfl)) (fun _ _ _ h => h) (Or.inl ⟨by rfl, ?_⟩) hHeld ?_ ?_
    rotate_left
    · rintro w' ⟨s0, s1⟩
      go_simp
      with_reducible rfl
    rotate_left
    · simp only [Act.put, List.setIfInBounds_toArray, List.set_cons_zero, List.set_cons_succ, i64_w, i32_w]
      rfl
    refine take_ (i := 4) (N := some 7) (v := ?_) (a' := ?_) #[true, true, false, true, true, false, false, false] rfl rfl (take_ofW HT_.out HW_.out (by kernel_rfl)) (fun _ _ _ h => h) (Or.inl ⟨by rfl, ?_⟩) hHeld ?_ ?_
    rotate_left
    · rintro w' ⟨s0, s1⟩
      go_simp
      with_reducible rfl
    rotate_left
    · simp only [Act.put, List.setIfInBounds_toArray, List.set_cons_zero, List.set_cons_succ, i64_w, i32_w]
      rfl
    refine one_ (i := 2) (N := some 5) #[true, true, true, true, true, false, false, false] rfl rfl (one_of HT_.out (by kernel_rfl)) (by decide) (fun K hK => ?_)
    refine Kd.R_lit_step (Kd.int .u8) _ 5 ?hg (N := 5) ?hd (xs := ([] : List Int)) (inner := []) (ok := fun _ => True) (okp := fun _ => True) ?hr ?hp (fun _ hk => hk) trivial (Below.refl _ _) (Nat.le_refl _) (by simp) ?_; (case hd => rfl); (case hg => rfl); (case hr => first | (go_simp; done) | (go_simp; rfl)); (case hp => exact (Reps.none _ _))
    intro v104 w6 ho7 hb hg_ hnew_
    clear hg_ hnew_
    (first | rw [← Ny103.out] at ho7 | (simp only [Int.reduceToNat] at ho7; rw [← Ny103.out] at ho7))
    have n0_ := As.mk (Kd.R_lower ho7 (bsz (by repeat (first | (with_reducible first | exact HB.out | apply bal | apply pwn | apply bdw | refine bst ?_ GE101.out | refine bst ?_ GE102.out) | exact HB.out))))
    have n1_ := As.mk (kbw (g := gb101) (o := .cells #[.bool a0_0, .slice A0_1 l0_1.length c0_1] 31 (0, 0)) (by (with_reducible repeat (first | refine kdn ?_ _ | refine kdr ?_ | refine kal ?_ _)); exact BK101.out) hb)
    have n2_ := As.mk (kbw (g := gb102) (o := .cells #[.int .i64 0, .bool false, .slice none 0 0, .int .u64 0, .string (⟨#[]⟩ : ByteArray), .slice none 0 0] 28 (0, 0)) (by (with_reducible repeat (first | refine kdn ?_ _ | refine kdr ?_ | refine kal ?_ _)); exact BK102.out) hb)
    have n3_ := As.mk (bsp (by repeat (first | (with_reducible first | exact HB.out | apply bal | apply pwn | apply bdw | refine bst ?_ GE101.out | refine bst ?_ GE102.out) | exact HB.out)) hb)
    clear BK101
    clear BK102
    clear HB
    have HO105 := n0_
    have BK101 := n1_
    have BK102 := n2_
    have HB := n3_
    clear n0_ n1_ n2_ n3_
    clear hb ho7
    refine hK.out _ _ ⟨(kcl BK101.out 0).trans rfl, (kcl BK101.out 1).trans rfl⟩ (fun hHeld => ?_)
    clear hK K
    refine norm_ (a' := ?_) ?_ ?_
    rotate_left
    · show Act.put _ (some 5) _ = _
      simp only [Act.put, List.setIfInBounds_toArray, List.set_cons_zero, List.set_cons_succ, i64_w, i32_w]
      rfl
    refine one_ (i := 5) (N := some 8) #[true, true, true, true, true, true, false, false] rfl rfl (one_of HT_.out (by kernel_rfl)) (by decide) (fun K hK => ?_)
    refine Kd.R_append_rows_step (Kd.int .u8) (w0 := w) w.heap.size (by rfl) (.tmp 5) (.tmp 7) 23 5 (.int .u8 0) 1 rfl Tryz.underlying23 info5 rfl (by decide) (by omega) v104 y103 l0_1 _ _ _ (fun _ => True) (fun _ => False) rfl rfl ?aO ?aR (fun _ _ h => h) (fun _ h => h.elim) ?aF ?aB ?aS ?aL ?_
    (case aR => repeat (first | exact (Kd.C_below HR0_1.out HB.out) | (with_reducible refine Kd.C_alloc ?_ _) | (with_reducible refine Kd.C_drewN ?_ _) | (with_reducible refine Kd.C_drew ?_)))
    (case aB => exact (by repeat (first | (with_reducible first | exact HB.out | apply bal | apply pwn | apply bdw | refine bst ?_ GE101.out | refine bst ?_ GE102.out) | exact HB.out)))
    (case aF => exact (fun _ _ => trivial))
    (case aO => exact (by (with_reducible repeat (first | apply Kd.R_alloc | apply Kd.R_drewN | apply Kd.R_drew)); exact HO105.out))
    (case aS => exact (bsz (by repeat (first | (with_reducible first | exact HB.out | apply bal | apply pwn | apply bdw | refine bst ?_ GE101.out | refine bst ?_ GE102.out) | exact HB.out))))
    (case aL => have := LMc2.out; omega)
    intro v107 w8 ho hb hg hat
    rw [← Ny106.out] at ho
    have n0_ := As.mk (blk_grown (g := gb101) (o := .cells #[.bool a0_0, .slice A0_1 l0_1.length c0_1] 31 (0, 0)) (by (with_reducible repeat (first | refine kdn ?_ _ | refine kdr ?_ | refine kal ?_ _)); exact BK101.out) hg (Kd.R_ne HO105.out BK101.out (by decide)))
    have n1_ := As.mk (blk_grown (g := gb102) (o := .cells #[.int .i64 0, .bool false, .slice none 0 0, .int .u64 0, .string (⟨#[]⟩ : ByteArray), .slice none 0 0] 28 (0, 0)) (by (with_reducible repeat (first | refine kdn ?_ _ | refine kdr ?_ | refine kal ?_ _)); exact BK102.out) hg (Kd.R_ne HO105.out BK102.out (by decide)))
    have n2_ := As.mk (hb)
    have n3_ := As.mk (ho)
    clear BK101
    clear BK102
    clear HB
    clear HO105
    have BK101 := n0_
    have BK102 := n1_
    have HB := n2_
    have HO108 := n3_
    clear n0_ n1_ n2_ n3_
    clear ho hb hg hat
    obtain ⟨Ao9, co9, eo9⟩ := Kd.R_slice HO108.out
    (first | subst eo9 | (injection eo9 with f1_ f2_ f3_; have f4_ := f1_.symm; have f5_ := f3_.symm; clear f1_ f2_ f3_; subst f4_; subst f5_))
    refine hK.out _ _ ⟨(kcl BK101.out 0).trans rfl, (kcl BK101.out 1).trans rfl⟩ (fun hHeld => ?_)
    clear hK K
    refine norm_ (a' := ?_) ?_ ?_
    rotate_left
    · show Act.put _ (some 8) _ = _
      simp only [Act.put, List.setIfInBounds_toArray, List.set_cons_zero, List.set_cons_succ, i64_w, i32_w]
      rfl
    refine pure_ (i := 6) (N := some 9) (v := ?_) (a' := ?_) #[true, true, true, true, true, true, true, false] rfl rfl (any_of HT_.out (by kernel_rfl)) (fun _ _ _ h => h) (Or.inl ⟨by rfl, ?_⟩) ?_ ?_
    rotate_left
    · intro w'
      go_simp
      with_reducible rfl
    rotate_left
    · simp only [Act.put, List.setIfInBounds_toArray, List.set_cons_zero, List.set_cons_succ, i64_w, i32_w]
      rfl
    refine one_ (i := 7) (N := none) #[true, true, true, true, true, true, true, true] rfl rfl (one_of HT_.out (by kernel_rfl)) (by decide) (fun K hK => ?_)
    have hs10 : w8.cell? ⟨gb102, 0, none⟩ = some (.int .i64 0) := (kcl BK102.out 0).trans rfl
    have hfs10 := kfz BK102.out 0
    have hns10_0 := NB101_102.out
    have hms10_0 := NB102_101.out
    have hs11 : w8.cell? ⟨gb102, 1, none⟩ = some (.bool false) := (kcl BK102.out 1).trans rfl
    have hfs11 := kfz BK102.out 1
    have hns11_0 := NB101_102.out
    have hms11_0 := NB102_101.out
    have hs12 : w8.cell? ⟨gb102, 2, none⟩ = some (.slice none 0 0) := (kcl BK102.out 2).trans rfl
    have hfs12 := kfz BK102.out 2
    have hns12_0 := NB101_102.out
    have hms12_0 := NB102_101.out
    have hs13 : w8.cell? ⟨gb102, 3, none⟩ = some (.int .u64 0) := (kcl BK102.out 3).trans rfl
    have hfs13 := kfz BK102.out 3
    have hns13_0 := NB101_102.out
    have hms13_0 := NB102_101.out
    have hs14 : w8.cell? ⟨gb102, 4, none⟩ = some (.string (⟨#[]⟩ : ByteArray)) := (kcl BK102.out 4).trans rfl
    have hfs14 := kfz BK102.out 4
    have hns14_0 := NB101_102.out
    have hms14_0 := NB102_101.out
    have hs15 : w8.cell? ⟨gb102, 5, none⟩ = some (.slice none 0 0) := (kcl BK102.out 5).trans rfl
    have hfs15 := kfz BK102.out 5
    have hns15_0 := NB101_102.out
    have hms15_0 := NB102_101.out
    refine skip_ (w1 := ?_) (by rfl) rfl ?_ ?_
    rotate_left
    · go_simp
      rfl
    refine hK.out _ _ ⟨((cell_far (p := ⟨gb102, _, none⟩) NB101_102.out _).trans (((cell_far (p := ⟨gb102, _, none⟩) NB101_102.out _).trans (((cell_far (p := ⟨gb102, _, none⟩) NB101_102.out _).trans (((cell_far (p := ⟨gb102, _, none⟩) NB101_102.out _).trans (((cell_far (p := ⟨gb102, _, none⟩) NB101_102.out _).trans (((cell_far (p := ⟨gb102, _, none⟩) NB101_102.out _).trans (hHeld.1)))))))))))), ((cell_far (p := ⟨gb102, _, none⟩) NB101_102.out _).trans (((cell_far (p := ⟨gb102, _, none⟩) NB101_102.out _).trans (((cell_far (p := ⟨gb102, _, none⟩) NB101_102.out _).trans (((cell_far (p := ⟨gb102, _, none⟩) NB101_102.out _).trans (((cell_far (p := ⟨gb102, _, none⟩) NB101_102.out _).trans (((cell_far (p := ⟨gb102, _, none⟩) NB101_102.out _).trans (hHeld.2))))))))))))⟩ (fun hHeld => ?_)
    clear hK K
    refine done_ (done_of HT_.out (by kernel_rfl)) ?_
    try go_wp2
    refine bodyPost_ret (results_cell_row rfl _ _ gb102 28 #[.int .i64 2, .bool a0_0, .slice Ao9 y106.length co9, .int .u64 0, .string (⟨#[]⟩ : ByteArray), .slice none 0 0] (0, 0) _ rfl (by (with_reducible repeat (first | refine kdn ?_ _ | refine kdr ?_ | refine kal ?_ _)); refine blk_put (cs := #[.int .i64 2, .bool a0_0, .slice Ao9 y106.length co9, .int .u64 0, .string (⟨#[]⟩ : ByteArray), .slice none 0 0]) ?_ 5 _ rfl; (with_reducible repeat (first | refine kdn ?_ _ | refine kdr ?_ | refine kal ?_ _)); refine blk_put (cs := #[.int .i64 2, .bool a0_0, .slice Ao9 y106.length co9, .int .u64 0, .string (⟨#[]⟩ : ByteArray), .slice none 0 0]) ?_ 4 _ rfl; (with_reducible repeat (first | refine kdn ?_ _ | refine kdr ?_ | refine kal ?_ _)); refine blk_put (cs := #[.int .i64 2, .bool a0_0, .slice Ao9 y106.length co9, .int .u64 0, .string (⟨#[]⟩ : ByteArray), .slice none 0 0]) ?_ 3 _ rfl; (with_reducible repeat (first | refine kdn ?_ _ | refine kdr ?_ | refine kal ?_ _)); refine blk_put (cs := #[.int .i64 2, .bool a0_0, .slice none 0 0, .int .u64 0, .string (⟨#[]⟩ : ByteArray), .slice none 0 0]) ?_ 2 _ rfl; (with_reducible repeat (first | refine kdn ?_ _ | refine kdr ?_ | refine kal ?_ _)); refine blk_put (cs := #[.int .i64 2, .bool false, .slice none 0 0, .int .u64 0, .string (⟨#[]⟩ : ByteArray), .slice none 0 0]) ?_ 1 _ rfl; (with_reducible repeat (first | refine kdn ?_ _ | refine kdr ?_ | refine kal ?_ _)); refine blk_put (cs := #[.int .i64 0, .bool false, .slice none 0 0, .int .u64 0, .string (⟨#[]⟩ : ByteArray), .slice none 0 0]) ?_ 0 _ rfl; (with_reducible repeat (first | refine kdn ?_ _ | refine kdr ?_ | refine kal ?_ _)); exact BK102.out) Tryz.underlying28 rfl (by kernel_rfl)) rfl ?_
    exact ⟨_, _, by first | rfl | (simp [errW_none, errW_some] <;> rfl) | (simp [*, errW_none, errW_some] <;> rfl), by (with_reducible repeat (first | apply Kd.R_alloc | apply Kd.R_drewN | apply Kd.R_drew)); exact Kd.R_mono (Kd.R_far (p := ⟨gb102, 5, none⟩) (Kd.R_far (p := ⟨gb102, 4, none⟩) (Kd.R_far (p := ⟨gb102, 3, none⟩) (Kd.R_far (p := ⟨gb102, 2, none⟩) (Kd.R_far (p := ⟨gb102, 1, none⟩) (Kd.R_far (p := ⟨gb102, 0, none⟩) (Kd.R_types HO108.out BK102.out (by decide)) (fun _ hk => hk.2) (.int .i64 2)) (fun _ hk => hk.2) (.bool a0_0)) (fun _ hk => hk.2) (.slice Ao9 y106.length co9)) (fun _ hk => hk.2) (.int .u64 0)) (fun _ hk => hk.2) (.string (⟨#[]⟩ : ByteArray))) (fun _ hk => hk.2) (.slice none 0 0)) (fun _ hk => trivial), by first | exact Kd.R_nil _ _ _ _ _ | exact Kd.N_nil _ _ _ _ _ | exact Kd.V_nil _ _ _ _ _ | exact Kd.Q_nil _ _ _ _ _ | exact Kd.S_nil _ _ _ _ _, by repeat (first | (with_reducible first | exact HB.out | apply bal | apply pwn | apply bdw | refine bst ?_ GE101.out | refine bst ?_ GE102.out) | exact HB.out)⟩
  · rw [if_neg c2] at H
    exact absurd H (by simp)
end Go.Proofs.YtldejfallphhbaaGreatDoor.PIntVal
namespace Go.Proofs.YtldejfallphhbaaGreatDoor.PIntVal
open Go.RowKit Go.Proofs.YtldejfallphhbaaGreatDoorW.PrintWords Go.Proofs.YtldejfallphhbaaGreatDoorW.PrintLast Go.Proofs.YtldejfallphhbaaGreatDoorW.PrintMore
attribute [local go_sem] max2_int min2_int max_two min_two max_three min_three max_four min_four
set_option linter.unusedVariables false
set_option linter.unusedSimpArgs false
end Go.Proofs.YtldejfallphhbaaGreatDoor.PIntVal
