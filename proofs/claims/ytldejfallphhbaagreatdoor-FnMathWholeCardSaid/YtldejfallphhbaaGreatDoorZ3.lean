/-
  A part of the proof of FnMathWhole (packed out of smaller texts by a program of this session; what the proof does not reach is left out).
-/
import Derived.Test.YtldejfallphhbaaGreatDoorProg
import Derived.Test.YtldejfallphhbaaGreatDoorZ1
import Derived.Test.YtldejfallphhbaaGreatDoorZ2
import Derived.Below
import Derived.Deep.Draws
import Derived.Deep.AppendLies
import Derived.Maps.AppendAt
import Derived.OwnWalk
import Derived.Laws.BytesArg
import Derived.Laws.MakeOwn
import Derived.Laws.OwnMore
import Derived.Deep.OwnRows
import Derived.Tactics
import Derived.Lib.ConvBytes
import Derived.Laws.Slices
import Derived.WalkKit
import Derived.KernelRfl
import Derived.RowKit3
import Derived.Deep.LoopGhost
import Derived.Deep.QuietTactic
import Derived.BigQuiet
import Derived.WideLaws
import Derived.Deep.DeepCutAuto
import Derived.Deep.CutBlock
import Derived.Deep.RegionHeld3
import Derived.Laws.Rows
import Derived.Lib.AppendStr
import Derived.ArgAppend
import Derived.Laws.IdiomCopy
import Derived.OrdersHeld
import Derived.Laws.BitsLemmas
import Derived.RowKit
namespace Go.Proofs.YtldejfallphhbaaGreatDoor.PNearest
open Go.RowKit Go.Proofs.YtldejfallphhbaaGreatDoorW.PrintWords Go.Proofs.YtldejfallphhbaaGreatDoorW.PrintLast Go.Proofs.YtldejfallphhbaaGreatDoorW.PrintMore
attribute [local go_sem] max2_int min2_int max_two min_two max_three min_three max_four min_four
set_option linter.unusedVariables false
set_option linter.unusedSimpArgs false
def errW : Option Int → Value
  | none => .nilIface
  | some c => .iface 0 (.int .i64 c)
theorem errW_none : errW none = .nilIface := rfl
theorem errW_some (c : Int) : errW (some c) = .iface 0 (.int .i64 c) := rfl
theorem info3 : (Tryz.prog.info? 3).map (fun i => (i.zero, i.size, i.bytes)) = some (some (.int .i64 0), 1, 8) := by kernel_rfl
theorem info5 : (Tryz.prog.info? 5).map (fun i => (i.zero, i.size, i.bytes)) = some (some (.int .u8 0), 1, 1) := by kernel_rfl
end Go.Proofs.YtldejfallphhbaaGreatDoor.PNearest
namespace Go.Proofs.YtldejfallphhbaaGreatDoor.PNearest
open Go.RowKit Go.Proofs.YtldejfallphhbaaGreatDoorW.PrintWords Go.Proofs.YtldejfallphhbaaGreatDoorW.PrintLast Go.Proofs.YtldejfallphhbaaGreatDoorW.PrintMore
attribute [local go_sem] max2_int min2_int max_two min_two max_three min_three max_four min_four
set_option linter.unusedVariables false
set_option linter.unusedSimpArgs false
def spec_cut.l0 : Nat → List Int → Int → Option (List Int)
  | 0, _, _ => none
  | k + 1, x0, x3 => if x3 < (x0.length : Int) then (if 0 ≤ x3 then (if (rd x0 x3) = 0 then (spec_cut.l0 k x0 (wrap64 (x3 + 1))) else ((some (([] : List Int) : List Int)).bind fun y102 => (if x3 ≤ (x0.length : Int) then (if y102.length + (x0.drop (x3 : Int).toNat).length < 140737488355328 then (some (y102 ++ (x0.drop (x3 : Int).toNat))) else (none)) else (none)))) else (none)) else ((some (([] : List Int) : List Int)).bind fun y109 => (if 0 ≤ x3 then (if x3 ≤ (x0.length : Int) then (if y109.length + (x0.drop (x3 : Int).toNat).length < 140737488355328 then (some (y109 ++ (x0.drop (x3 : Int).toNat))) else (none)) else (none)) else (none)))
def spec_cut.f (k : Nat) (l0 : List Int) : Option (List Int) := spec_cut.l0 k l0 0
theorem spec_cut.mono_l : ∀ k, (∀ y0 y1, LeO (spec_cut.l0 k y0 y1) (spec_cut.l0 (k + 1) y0 y1))
  | 0 => fun _ _ r h => by simp [spec_cut.l0] at h
  | k + 1 => by
    have ih0 := spec_cut.mono_l k
    · intro y0 y1
      unfold spec_cut.l0
      repeat' first
      | (with_reducible exact ih0 _ _)
      | (with_reducible exact LeO.refl _)
      | (with_reducible exact LeO.none _)
      | (with_reducible refine LeO.ite ?_ ?_)
      | (with_reducible refine LeO.bind ?_ (fun _ => ?_))
      | exact ih0 _ _
      | exact LeO.none _
      | refine LeO.ite ?_ ?_
      | refine LeO.bind ?_ (fun _ => ?_)
theorem spec_cut.mono : ∀ a0 k, LeO (spec_cut.f k a0) (spec_cut.f (k + 1) a0) := by
  intro a0 k
  have ih0 := spec_cut.mono_l k
  unfold spec_cut.f
  repeat' first
      | (with_reducible exact ih0 _ _)
      | (with_reducible exact LeO.refl _)
      | (with_reducible exact LeO.none _)
      | (with_reducible refine LeO.ite ?_ ?_)
      | (with_reducible refine LeO.bind ?_ (fun _ => ?_))
      | exact ih0 _ _
      | exact LeO.none _
      | refine LeO.ite ?_ ?_
      | refine LeO.bind ?_ (fun _ => ?_)
set_option maxHeartbeats 8000000 in
set_option maxRecDepth 100000 in
theorem spec_cut.calls (k : Nat) (A0 : Option Addr) (c0 : Nat) (l0 : List Int) (r : List Int) (w : World) (hr0 : Kd.C (Kd.int .u8) w A0 l0.length l0) (hc0 : l0.length ≤ c0) (h : spec_cut.f k l0 = some r) :
    Calls Tryz.prog 15 #[.slice A0 l0.length c0] w fun e w' => ∃ v0_ : Value, e = .returned (v0_) ∧ Kd.R (Kd.int .u8) 5 w' w.heap.size (fun _ => True) v0_ r ∧ Below w.heap.size w w' := by
  have HR0 := As.mk hr0
  have HC0 := As.mk hc0
  clear hr0 hc0
  have HB := As.mk (Below.refl w.heap.size w)
  have H : (spec_cut.l0 k l0 0) = some r := h
  clear h
  have H' := As.mk H
  clear H
  go_enter Tryz.func15, Tryz.ntmps15
  go_wp2
  go_loopg [3] k (fun kq v3 w' => ∃ (x3_1 : Int), v3 = .int .i64 x3_1 ∧ As (spec_cut.l0 kq l0 x3_1 = some r) ∧ As (kq ≤ k) ∧ As (Below w.heap.size w w'))
  case atStart => exact ⟨(0), (by first | rfl | (simp; done) | (simp [*]; done)), H', ⟨Nat.le_refl _⟩, ⟨by repeat (first | (with_reducible first | exact HB.out | apply bal | apply pwn | apply bdw) | exact HB.out)⟩⟩
  case round =>
    clear H'
    try clear c1
    obtain ⟨x3_1, rfl, HA, HK1, HB⟩ := hrel
    cases gk with
    | zero => exact absurd HA.out (by simp [spec_cut.l0])
    | succ k1 =>
      have H := HA.out
      clear HA
      simp only [spec_cut.l0] at H
      by_cases c2 : x3_1 < (l0.length : Int)
      · rw [if_pos c2] at H
        have c2b0 : decide (x3_1 < (l0.length : Int)) = true := decide_eq_true c2
        clear c2
        by_cases c3 : 0 ≤ x3_1
        · rw [if_pos c3] at H
          have c3b0 : decide (0 ≤ x3_1) = true := decide_eq_true c3
          clear c3
          by_cases c4 : (rd l0 x3_1) = 0
          · rw [if_pos c4] at H
            have c4b0 : ((rd l0 x3_1) == 0) = true := beq_iff_eq.mpr c4
            have c4b1 : ((rd l0 x3_1) != 0) = false := bne_eq_false_iff_eq.mpr c4
            clear c4
            have H' := As.mk H
            clear H
            have p101 : 0 ≤ (x3_1 : Int) := of_decide_eq_true (by first | (with_reducible assumption) | assumption)
            have q101 : x3_1 < (l0.length : Int) := of_decide_eq_true (by first | (with_reducible assumption) | assumption)
            obtain ⟨ad101, e101, hx101_0⟩ := Kd.at_int HR0.out x3_1 p101 q101
            cases e101
            replace hx101_0 := (HB.out.cell (World.block_lt_of_cell? w _ hx101_0)).trans hx101_0
            replace p101 := eq_true p101
            replace q101 := eq_true q101
            go_wp2
            go_roundg k1
            case measure => have := HK1.out; omega
            case rel => exact ⟨(wrap64 (x3_1 + 1)), (by first | rfl | (simp; done) | (simp [*]; done)), H', ⟨by have := HK1.out; omega⟩, ⟨by repeat (first | (with_reducible first | exact HB.out | apply bal | apply pwn | apply bdw) | exact HB.out)⟩⟩
          · rw [if_neg c4] at H
            have c4b0 : ((rd l0 x3_1) == 0) = false := beq_eq_false_iff_ne.mpr c4
            have c4b1 : ((rd l0 x3_1) != 0) = true := bne_iff_ne.mpr c4
            obtain ⟨y102, hy102⟩ : ∃ y_ : List Int, y_ = (([] : List Int)) := ⟨_, rfl⟩
            replace H : (if x3_1 ≤ (l0.length : Int) then (if y102.length + (l0.drop (x3_1 : Int).toNat).length < 140737488355328 then (some (y102 ++ (l0.drop (x3_1 : Int).toNat))) else (none)) else (none)) = some r := by first | (rw [hy102]; with_reducible exact H) | (have H2_ := (Option.bind_some _ _).symm.trans H; rw [hy102]; with_reducible exact H2_) | (have H2_ := (Option.bind_some _ _).symm.trans H; with_reducible exact H2_) | with_reducible exact H | (rw [hy102]; exact H) | exact H
            have Ny102 := As.mk hy102
            clear hy102
            have c5b0 := eq_true (of_decide_eq_true (by first | (with_reducible assumption) | assumption) : 0 ≤ x3_1)
            by_cases c6 : x3_1 ≤ (l0.length : Int)
            · rw [if_pos c6] at H
              have c6b0 := eq_true c6
              have c6b1 : decide (x3_1 ≤ (l0.length : Int)) = true := decide_eq_true c6
              clear c6
              by_cases c7 : y102.length + (l0.drop (x3_1 : Int).toNat).length < 140737488355328
              · rw [if_pos c7] at H
                have LMc7 := As.mk c7
                clear c7
                obtain ⟨y106, hy106⟩ : ∃ y_ : List Int, y_ = (y102 ++ (l0.drop (x3_1 : Int).toNat)) := ⟨_, rfl⟩
                replace H : (some y106) = some r := by first | (rw [hy106]; with_reducible exact H) | (have H2_ := (Option.bind_some _ _).symm.trans H; rw [hy106]; with_reducible exact H2_) | (have H2_ := (Option.bind_some _ _).symm.trans H; with_reducible exact H2_) | with_reducible exact H | (rw [hy106]; exact H) | exact H
                have Ny106 := As.mk hy106
                clear hy106
                obtain rfl := Option.some.inj H
                have p101 : 0 ≤ (x3_1 : Int) := of_decide_eq_true (by first | (with_reducible assumption) | assumption)
                have q101 : x3_1 < (l0.length : Int) := of_decide_eq_true (by first | (with_reducible assumption) | assumption)
                obtain ⟨ad101, e101, hx101_0⟩ := Kd.at_int HR0.out x3_1 p101 q101
                cases e101
                replace hx101_0 := (HB.out.cell (World.block_lt_of_cell? w _ hx101_0)).trans hx101_0
                replace p101 := eq_true p101
                replace q101 := eq_true q101
                go_wp2_with (first | ((with_reducible refine gate_dst (N := 17) rfl ?_); refine Kd.R_lit (Kd.int .u8) _ 5 ?hg (N := 17) ?hd (xs := ([] : List Int)) (inner := []) (ok := fun _ => True) (okp := fun _ => True) ?hr ?hp (fun _ hk => hk) trivial (Below.refl _ _) (Nat.le_refl _) (by simp) ?_; (case hd => rfl); (case hg => rfl); (case hr => first | (go_simp; done) | (go_simp; rfl)); (case hp => exact (Reps.none _ _)); intro v103 w8 ho9 hb hg_ hnew_; clear hg_ hnew_; (first | rw [← Ny102.out] at ho9 | (simp only [Int.reduceToNat] at ho9; rw [← Ny102.out] at ho9)); have n0_ := As.mk (Kd.R_lower ho9 (bsz (by repeat (first | (with_reducible first | exact HB.out | apply bal | apply pwn | apply bdw) | exact HB.out)))); have n1_ := As.mk (bsp (by repeat (first | (with_reducible first | exact HB.out | apply bal | apply pwn | apply bdw) | exact HB.out)) hb); clear HB; have HO104 := n0_; have HB := n1_; clear n0_ n1_; clear hb ho9; obtain ⟨i010, hi010, _, hsz10, _⟩ := info_parts info5; obtain ⟨A10, hcut10, hA10, hC10⟩ := print_drop_of (P := Tryz.prog) (Value.int .u8) 0 23 5 .i64 Tryz.underlying23 hi010 hsz10 (some ad101) c0 l0 x3_1 (of_decide_eq_true (by first | (with_reducible assumption) | assumption)) (of_decide_eq_true (by first | (with_reducible assumption) | assumption)) HC0.out; have HR105 := As.mk (Kd.C_of_reads (h1 := fun _ => rfl) (hA10 _ (Kd.reads_of_C HR0.out))); have HC105 := As.mk hC10; clear hA10 hC10 hi010 hsz10) | ((with_reducible refine gate_builtin (b := .append) (xs := #[.tmp 17, .tmp 20]) rfl ?_); at_builtin; refine Kd.R_append_rows (Kd.int .u8) (w0 := w) w.heap.size rfl (.tmp 17) (.tmp 20) 23 5 (.int .u8 0) 1 rfl Tryz.underlying23 info5 rfl (by decide) (by omega) v103 y102 (l0.drop (x3_1 : Int).toNat) _ _ _ (fun _ => True) (fun _ => False) rfl rfl ?aO ?aR (fun _ _ h => h) (fun _ h => h.elim) ?aF ?aB ?aS ?aL ?_; (case aR => first | (rw [← show (l0.drop (x3_1 : Int).toNat).length = (l0.length - x3_1.toNat) from List.length_drop]; repeat (first | exact (Kd.C_below HR105.out HB.out) | (with_reducible refine Kd.C_alloc ?_ _) | (with_reducible refine Kd.C_drewN ?_ _) | (with_reducible refine Kd.C_drew ?_))) | (repeat (first | exact (Kd.C_below HR105.out HB.out) | (with_reducible refine Kd.C_alloc ?_ _) | (with_reducible refine Kd.C_drewN ?_ _) | (with_reducible refine Kd.C_drew ?_)))); (case aB => exact (by repeat (first | (with_reducible first | exact HB.out | apply bal | apply pwn | apply bdw) | exact HB.out))); (case aF => exact (fun _ _ => trivial)); (case aO => exact (by (with_reducible repeat (first | apply Kd.R_alloc | apply Kd.R_drewN | apply Kd.R_drew)); exact HO104.out)); (case aS => exact (bsz (by repeat (first | (with_reducible first | exact HB.out | apply bal | apply pwn | apply bdw) | exact HB.out)))); (case aL => have := LMc7.out; have hlx_ := (show (l0.drop (x3_1 : Int).toNat).length = (l0.length - x3_1.toNat) from List.length_drop); omega); intro v107 w11 ho hb hg hat; rw [← Ny106.out] at ho; have n0_ := As.mk (hb); have n1_ := As.mk (ho); clear HB; clear HO104; have HB := n0_; have HO108 := n1_; clear n0_ n1_; clear ho hb hg hat))
                go_ret
                exact ⟨_, by first | rfl | (simp [errW_none, errW_some] <;> rfl) | (simp [*, errW_none, errW_some] <;> rfl), by (with_reducible repeat (first | apply Kd.R_alloc | apply Kd.R_drewN | apply Kd.R_drew)); exact HO108.out, by repeat (first | (with_reducible first | exact HB.out | apply bal | apply pwn | apply bdw) | exact HB.out)⟩
              · rw [if_neg c7] at H
                exact absurd H (by simp)
            · rw [if_neg c6] at H
              exact absurd H (by simp)
        · rw [if_neg c3] at H
          exact absurd H (by simp)
      · rw [if_neg c2] at H
        have c2b0 : decide (x3_1 < (l0.length : Int)) = false := decide_eq_false c2
        clear c2
        obtain ⟨y109, hy109⟩ : ∃ y_ : List Int, y_ = (([] : List Int)) := ⟨_, rfl⟩
        replace H : (if 0 ≤ x3_1 then (if x3_1 ≤ (l0.length : Int) then (if y109.length + (l0.drop (x3_1 : Int).toNat).length < 140737488355328 then (some (y109 ++ (l0.drop (x3_1 : Int).toNat))) else (none)) else (none)) else (none)) = some r := by first | (rw [hy109]; with_reducible exact H) | (have H2_ := (Option.bind_some _ _).symm.trans H; rw [hy109]; with_reducible exact H2_) | (have H2_ := (Option.bind_some _ _).symm.trans H; with_reducible exact H2_) | with_reducible exact H | (rw [hy109]; exact H) | exact H
        have Ny109 := As.mk hy109
        clear hy109
        by_cases c12 : 0 ≤ x3_1
        · rw [if_pos c12] at H
          have c12b0 := eq_true c12
          have c12b1 : decide (0 ≤ x3_1) = true := decide_eq_true c12
          clear c12
          by_cases c13 : x3_1 ≤ (l0.length : Int)
          · rw [if_pos c13] at H
            have c13b0 := eq_true c13
            have c13b1 : decide (x3_1 ≤ (l0.length : Int)) = true := decide_eq_true c13
            clear c13
            by_cases c14 : y109.length + (l0.drop (x3_1 : Int).toNat).length < 140737488355328
            · rw [if_pos c14] at H
              have LMc14 := As.mk c14
              clear c14
              obtain ⟨y113, hy113⟩ : ∃ y_ : List Int, y_ = (y109 ++ (l0.drop (x3_1 : Int).toNat)) := ⟨_, rfl⟩
              replace H : (some y113) = some r := by first | (rw [hy113]; with_reducible exact H) | (have H2_ := (Option.bind_some _ _).symm.trans H; rw [hy113]; with_reducible exact H2_) | (have H2_ := (Option.bind_some _ _).symm.trans H; with_reducible exact H2_) | with_reducible exact H | (rw [hy113]; exact H) | exact H
              have Ny113 := As.mk hy113
              clear hy113
              obtain rfl := Option.some.inj H
              go_wp2_with (first | ((with_reducible refine gate_dst (N := 17) rfl ?_); refine Kd.R_lit (Kd.int .u8) _ 5 ?hg (N := 17) ?hd (xs := ([] : List Int)) (inner := []) (ok := fun _ => True) (okp := fun _ => True) ?hr ?hp (fun _ hk => hk) trivial (Below.refl _ _) (Nat.le_refl _) (by simp) ?_; (case hd => rfl); (case hg => rfl); (case hr => first | (go_simp; done) | (go_simp; rfl)); (case hp => exact (Reps.none _ _)); intro v110 w15 ho16 hb hg_ hnew_; clear hg_ hnew_; (first | rw [← Ny109.out] at ho16 | (simp only [Int.reduceToNat] at ho16; rw [← Ny109.out] at ho16)); have n0_ := As.mk (Kd.R_lower ho16 (bsz (by repeat (first | (with_reducible first | exact HB.out | apply bal | apply pwn | apply bdw) | exact HB.out)))); have n1_ := As.mk (bsp (by repeat (first | (with_reducible first | exact HB.out | apply bal | apply pwn | apply bdw) | exact HB.out)) hb); clear HB; have HO111 := n0_; have HB := n1_; clear n0_ n1_; clear hb ho16; obtain ⟨i017, hi017, _, hsz17, _⟩ := info_parts info5; obtain ⟨A17, hcut17, hA17, hC17⟩ := print_drop_of (P := Tryz.prog) (Value.int .u8) 0 23 5 .i64 Tryz.underlying23 hi017 hsz17 A0 c0 l0 x3_1 (of_decide_eq_true (by first | (with_reducible assumption) | assumption)) (of_decide_eq_true (by first | (with_reducible assumption) | assumption)) HC0.out; have HR112 := As.mk (Kd.C_of_reads (h1 := fun _ => rfl) (hA17 _ (Kd.reads_of_C HR0.out))); have HC112 := As.mk hC17; clear hA17 hC17 hi017 hsz17) | ((with_reducible refine gate_builtin (b := .append) (xs := #[.tmp 17, .tmp 20]) rfl ?_); at_builtin; refine Kd.R_append_rows (Kd.int .u8) (w0 := w) w.heap.size rfl (.tmp 17) (.tmp 20) 23 5 (.int .u8 0) 1 rfl Tryz.underlying23 info5 rfl (by decide) (by omega) v110 y109 (l0.drop (x3_1 : Int).toNat) _ _ _ (fun _ => True) (fun _ => False) rfl rfl ?aO ?aR (fun _ _ h => h) (fun _ h => h.elim) ?aF ?aB ?aS ?aL ?_; (case aR => first | (rw [← show (l0.drop (x3_1 : Int).toNat).length = (l0.length - x3_1.toNat) from List.length_drop]; repeat (first | exact (Kd.C_below HR112.out HB.out) | (with_reducible refine Kd.C_alloc ?_ _) | (with_reducible refine Kd.C_drewN ?_ _) | (with_reducible refine Kd.C_drew ?_))) | (repeat (first | exact (Kd.C_below HR112.out HB.out) | (with_reducible refine Kd.C_alloc ?_ _) | (with_reducible refine Kd.C_drewN ?_ _) | (with_reducible refine Kd.C_drew ?_)))); (case aB => exact (by repeat (first | (with_reducible first | exact HB.out | apply bal | apply pwn | apply bdw) | exact HB.out))); (case aF => exact (fun _ _ => trivial)); (case aO => exact (by (with_reducible repeat (first | apply Kd.R_alloc | apply Kd.R_drewN | apply Kd.R_drew)); exact HO111.out)); (case aS => exact (bsz (by repeat (first | (with_reducible first | exact HB.out | apply bal | apply pwn | apply bdw) | exact HB.out)))); (case aL => have := LMc14.out; have hlx_ := (show (l0.drop (x3_1 : Int).toNat).length = (l0.length - x3_1.toNat) from List.length_drop); omega); intro v114 w18 ho hb hg hat; rw [← Ny113.out] at ho; have n0_ := As.mk (hb); have n1_ := As.mk (ho); clear HB; clear HO111; have HB := n0_; have HO115 := n1_; clear n0_ n1_; clear ho hb hg hat))
              go_ret
              exact ⟨_, by first | rfl | (simp [errW_none, errW_some] <;> rfl) | (simp [*, errW_none, errW_some] <;> rfl), by (with_reducible repeat (first | apply Kd.R_alloc | apply Kd.R_drewN | apply Kd.R_drew)); exact HO115.out, by repeat (first | (with_reducible first | exact HB.out | apply bal | apply pwn | apply bdw) | exact HB.out)⟩
            · rw [if_neg c14] at H
              exact absurd H (by simp)
          · rw [if_neg c13] at H
            exact absurd H (by simp)
        · rw [if_neg c12] at H
          exact absurd H (by simp)
def spec_Of.f (k : Nat) (a0 : Bool) (l1 : List Int) : Option (Bool × List Int) := (spec_cut.f k l1).bind fun t117 => (if a0 = true then (some (decide ((t117.length : Int) > 0), t117)) else (some (false, t117)))
theorem spec_Of.mono : ∀ a0 a1 k, LeO (spec_Of.f k a0 a1) (spec_Of.f (k + 1) a0 a1) := by
  intro a0 a1 k
  unfold spec_Of.f
  repeat' first
      | (with_reducible exact spec_cut.mono _ _)
      | (with_reducible exact LeO.refl _)
      | (with_reducible exact LeO.none _)
      | (with_reducible refine LeO.ite ?_ ?_)
      | (with_reducible refine LeO.bind ?_ (fun _ => ?_))
      | exact spec_cut.mono _ _
      | exact LeO.none _
      | refine LeO.ite ?_ ?_
      | refine LeO.bind ?_ (fun _ => ?_)
set_option maxHeartbeats 8000000 in
set_option maxRecDepth 100000 in
theorem spec_Of.calls (k : Nat) (a0 : Bool) (A1 : Option Addr) (c1 : Nat) (l1 : List Int) (r1 : Bool) (r2 : List Int) (w : World) (hr1 : Kd.C (Kd.int .u8) w A1 l1.length l1) (hc1 : l1.length ≤ c1) (h : spec_Of.f k a0 l1 = some (r1, r2)) :
    Calls Tryz.prog 6 #[.bool a0, .slice A1 l1.length c1] w fun e w' => ∃ v1_ : Value, e = .returned (.agg #[.bool r1, v1_]) ∧ Kd.R (Kd.int .u8) 5 w' w.heap.size (fun _ => True) v1_ r2 ∧ Below w.heap.size w w' := by
  have hu31 := Tryz.underlying31
  have HR1 := As.mk hr1
  have HC1 := As.mk hc1
  clear hr1 hc1
  have HB := As.mk (Below.refl w.heap.size w)
  have H : ((spec_cut.f k l1).bind fun t117 => (if a0 = true then (some (decide ((t117.length : Int) > 0), t117)) else (some (false, t117)))) = some (r1, r2) := h
  clear h
  replace H := Option.bind_eq_some_iff.mp H
  obtain ⟨t117, A30, H⟩ := H
  replace H : (if a0 = true then (some (decide ((t117.length : Int) > 0), t117)) else (some (false, t117))) = some (r1, r2) := H
  have A3 := As.mk A30
  clear A30
  by_cases c4 : a0 = true
  · subst c4
    have H1 : (some (decide ((t117.length : Int) > 0), t117)) = some (r1, r2) := by rw [if_pos rfl] at H; exact H
    clear H
    have H := H1
    clear H1
    simp only [Option.some.injEq, Prod.mk.injEq] at H
    obtain ⟨rfl, rfl⟩ := H
    go_enter Tryz.func6, Tryz.ntmps6
    go_wp2_with (first | ((with_reducible refine gate_dst (N := 4) rfl ?_); (try (refine gate_guard (by rfl) ?_; dsimp only)); refine box_event ?hg (N := 4) ?hd (cs := #[.bool false, .slice none 0 0]) (t := 31) ?hr ?_; (case hd => rfl); (case hg => rfl); (case hr => first | (go_simp; done) | (go_simp; rfl)); intro gb116 hg w5 hbox hb; have n0_ := As.mk (bsp (by repeat (first | (with_reducible first | exact HB.out | apply bal | apply pwn | apply bdw) | exact HB.out)) hb); have n1_ := As.mk (hbox); have n2_ := As.mk ((by rw [hg]; exact (bsz (by repeat (first | (with_reducible first | exact HB.out | apply bal | apply pwn | apply bdw) | exact HB.out))) : w.heap.size ≤ gb116)); have n3_ := As.mk ((by rw [hg]; exact (bsz (by repeat (first | (with_reducible first | exact HB.out | apply bal | apply pwn | apply bdw) | exact HB.out))) : w.heap.size ≤ gb116)); clear HB; have HB := n0_; have BK116 := n1_; have GW116 := n2_; have GE116 := n3_; clear n0_ n1_ n2_ n3_; clear hb hbox hg) | ((with_reducible refine gate_callee (f := 15) rfl ?_); refine goesL_ (some 7) rfl rfl Tryz.func15 (by kernel_rfl) rfl #[.slice A1 l1.length c1] rfl (by (try simp only [List.map_toArray, List.map_cons, List.map_nil]); first | done | rfl | (simp only [List.length_drop, List.length_take]; rfl)) ?_; (with_reducible refine (spec_cut.calls k _ _ l1 t117 _ ?side1 ?side2 A3.out).mono ?_); (case side1 => repeat (first | exact (Kd.C_below HR1.out HB.out) | (with_reducible refine Kd.C_alloc ?_ _) | (with_reducible refine Kd.C_drewN ?_ _) | (with_reducible refine Kd.C_drew ?_))); (case side2 => exact HC1.out); rintro e w6 ⟨v118, rfl, ho0, hb⟩; refine ⟨_, rfl, ?_⟩; have n0_ := As.mk (Kd.R_lower ho0 (bsz (by repeat (first | (with_reducible first | exact HB.out | apply bal | apply pwn | apply bdw | refine bst ?_ GE116.out) | exact HB.out)))); have n1_ := As.mk (kbw (g := gb116) (o := .cells #[.bool false, .slice none 0 0] 31 (0, 0)) (by (with_reducible repeat (first | refine kdn ?_ _ | refine kdr ?_ | refine kal ?_ _)); exact BK116.out) hb); have n2_ := As.mk (bsp (by repeat (first | (with_reducible first | exact HB.out | apply bal | apply pwn | apply bdw | refine bst ?_ GE116.out) | exact HB.out)) hb); clear BK116; clear HB; have HO119 := n0_; have BK116 := n1_; have HB := n2_; clear n0_ n1_ n2_; (try clear hb); (try clear hb2); (try clear hk); (try clear hi); (try clear ho0); obtain ⟨Ao7, co7, eo7⟩ := Kd.R_slice HO119.out; subst eo7; have hcz8_0 : w6.cell? ⟨gb116, 0, none⟩ = some (.bool false) := (kcl BK116.out 0).trans rfl; have hcz8_1 : w6.cell? ⟨gb116, 1, none⟩ = some (.slice none 0 0) := (kcl BK116.out 1).trans rfl; have hfz8_0 := kfz BK116.out 0; have hfz8_1 := kfz BK116.out 1))
    refine bodyPost_ret (results_cell_row rfl _ _ gb116 31 #[.bool (decide (0 < t117.length)), .slice Ao7 t117.length co7] (0, 0) _ rfl (by (with_reducible repeat (first | refine kdn ?_ _ | refine kdr ?_ | refine kal ?_ _)); refine blk_put (cs := #[.bool (decide (0 < t117.length)), .slice none 0 0]) ?_ 1 _ rfl; (with_reducible repeat (first | refine kdn ?_ _ | refine kdr ?_ | refine kal ?_ _)); refine blk_put (cs := #[.bool false, .slice none 0 0]) ?_ 0 _ rfl; (with_reducible repeat (first | refine kdn ?_ _ | refine kdr ?_ | refine kal ?_ _)); exact BK116.out) Tryz.underlying31 rfl (by kernel_rfl)) rfl ?_
    exact ⟨_, by first | rfl | (simp [errW_none, errW_some] <;> rfl) | (simp [*, errW_none, errW_some] <;> rfl), by (with_reducible repeat (first | apply Kd.R_alloc | apply Kd.R_drewN | apply Kd.R_drew)); exact Kd.R_mono (Kd.R_far (p := ⟨gb116, 1, none⟩) (Kd.R_far (p := ⟨gb116, 0, none⟩) (Kd.R_types HO119.out BK116.out (by decide)) (fun _ hk => hk.2) (.bool (decide (0 < t117.length)))) (fun _ hk => hk.2) (.slice Ao7 t117.length co7)) (fun _ hk => trivial), by repeat (first | (with_reducible first | exact HB.out | apply bal | apply pwn | apply bdw | refine bst ?_ GE116.out) | exact HB.out)⟩
  · replace c4 := Bool.eq_false_iff.mpr c4
    subst c4
    have H1 : (some (false, t117)) = some (r1, r2) := by rw [if_neg (show ¬ (false = true) by decide)] at H; exact H
    clear H
    have H := H1
    clear H1
    simp only [Option.some.injEq, Prod.mk.injEq] at H
    obtain ⟨rfl, rfl⟩ := H
    go_enter Tryz.func6, Tryz.ntmps6
    go_wp2_with (first | ((with_reducible refine gate_dst (N := 4) rfl ?_); (try (refine gate_guard (by rfl) ?_; dsimp only)); refine box_event ?hg (N := 4) ?hd (cs := #[.bool false, .slice none 0 0]) (t := 31) ?hr ?_; (case hd => rfl); (case hg => rfl); (case hr => first | (go_simp; done) | (go_simp; rfl)); intro gb116 hg w9 hbox hb; have n0_ := As.mk (bsp (by repeat (first | (with_reducible first | exact HB.out | apply bal | apply pwn | apply bdw) | exact HB.out)) hb); have n1_ := As.mk (hbox); have n2_ := As.mk ((by rw [hg]; exact (bsz (by repeat (first | (with_reducible first | exact HB.out | apply bal | apply pwn | apply bdw) | exact HB.out))) : w.heap.size ≤ gb116)); have n3_ := As.mk ((by rw [hg]; exact (bsz (by repeat (first | (with_reducible first | exact HB.out | apply bal | apply pwn | apply bdw) | exact HB.out))) : w.heap.size ≤ gb116)); clear HB; have HB := n0_; have BK116 := n1_; have GW116 := n2_; have GE116 := n3_; clear n0_ n1_ n2_ n3_; clear hb hbox hg) | ((with_reducible refine gate_callee (f := 15) rfl ?_); refine goesL_ (some 7) rfl rfl Tryz.func15 (by kernel_rfl) rfl #[.slice A1 l1.length c1] rfl (by (try simp only [List.map_toArray, List.map_cons, List.map_nil]); first | done | rfl | (simp only [List.length_drop, List.length_take]; rfl)) ?_; (with_reducible refine (spec_cut.calls k _ _ l1 t117 _ ?side1 ?side2 A3.out).mono ?_); (case side1 => repeat (first | exact (Kd.C_below HR1.out HB.out) | (with_reducible refine Kd.C_alloc ?_ _) | (with_reducible refine Kd.C_drewN ?_ _) | (with_reducible refine Kd.C_drew ?_))); (case side2 => exact HC1.out); rintro e w10 ⟨v118, rfl, ho0, hb⟩; refine ⟨_, rfl, ?_⟩; have n0_ := As.mk (Kd.R_lower ho0 (bsz (by repeat (first | (with_reducible first | exact HB.out | apply bal | apply pwn | apply bdw | refine bst ?_ GE116.out) | exact HB.out)))); have n1_ := As.mk (kbw (g := gb116) (o := .cells #[.bool false, .slice none 0 0] 31 (0, 0)) (by (with_reducible repeat (first | refine kdn ?_ _ | refine kdr ?_ | refine kal ?_ _)); exact BK116.out) hb); have n2_ := As.mk (bsp (by repeat (first | (with_reducible first | exact HB.out | apply bal | apply pwn | apply bdw | refine bst ?_ GE116.out) | exact HB.out)) hb); clear BK116; clear HB; have HO119 := n0_; have BK116 := n1_; have HB := n2_; clear n0_ n1_ n2_; (try clear hb); (try clear hb2); (try clear hk); (try clear hi); (try clear ho0); obtain ⟨Ao11, co11, eo11⟩ := Kd.R_slice HO119.out; subst eo11; have hcz12_0 : w10.cell? ⟨gb116, 0, none⟩ = some (.bool false) := (kcl BK116.out 0).trans rfl; have hcz12_1 : w10.cell? ⟨gb116, 1, none⟩ = some (.slice none 0 0) := (kcl BK116.out 1).trans rfl; have hfz12_0 := kfz BK116.out 0; have hfz12_1 := kfz BK116.out 1))
    refine bodyPost_ret (results_cell_row rfl _ _ gb116 31 #[.bool false, .slice Ao11 t117.length co11] (0, 0) _ rfl (by (with_reducible repeat (first | refine kdn ?_ _ | refine kdr ?_ | refine kal ?_ _)); refine blk_put (cs := #[.bool false, .slice none 0 0]) ?_ 1 _ rfl; (with_reducible repeat (first | refine kdn ?_ _ | refine kdr ?_ | refine kal ?_ _)); refine blk_put (cs := #[.bool false, .slice none 0 0]) ?_ 0 _ rfl; (with_reducible repeat (first | refine kdn ?_ _ | refine kdr ?_ | refine kal ?_ _)); exact BK116.out) Tryz.underlying31 rfl (by kernel_rfl)) rfl ?_
    exact ⟨_, by first | rfl | (simp [errW_none, errW_some] <;> rfl) | (simp [*, errW_none, errW_some] <;> rfl), by (with_reducible repeat (first | apply Kd.R_alloc | apply Kd.R_drewN | apply Kd.R_drew)); exact Kd.R_mono (Kd.R_far (p := ⟨gb116, 1, none⟩) (Kd.R_far (p := ⟨gb116, 0, none⟩) (Kd.R_types HO119.out BK116.out (by decide)) (fun _ hk => hk.2) (.bool false)) (fun _ hk => hk.2) (.slice Ao11 t117.length co11)) (fun _ hk => trivial), by repeat (first | (with_reducible first | exact HB.out | apply bal | apply pwn | apply bdw | refine bst ?_ GE116.out) | exact HB.out)⟩
def spec_Int_Zero.f (a0_0 : Bool) (l0_1 : List Int) : Option (Bool) := some ((l0_1.length : Int) == 0)
set_option maxHeartbeats 8000000 in
set_option maxRecDepth 100000 in
theorem spec_Int_Zero.calls (a0_0 : Bool) (A0_1 : Option Addr) (c0_1 : Nat) (l0_1 : List Int) (r : Bool) (w : World) (hr0_1 : Kd.C (Kd.int .u8) w A0_1 l0_1.length l0_1) (hc0_1 : l0_1.length ≤ c0_1) (h : spec_Int_Zero.f a0_0 l0_1 = some r) :
    Calls Tryz.prog 81 #[.agg #[.bool a0_0, .slice A0_1 l0_1.length c0_1]] w fun e w' => e = .returned (.bool r) ∧ Below w.heap.size w w' := by
  have hu31 := Tryz.underlying31
  have HR0_1 := As.mk hr0_1
  have HC0_1 := As.mk hc0_1
  clear hr0_1 hc0_1
  have HB := As.mk (Below.refl w.heap.size w)
  have H : (some ((l0_1.length : Int) == 0)) = some r := h
  clear h
  obtain rfl := Option.some.inj H
  go_enter Tryz.func81, Tryz.ntmps81
  go_wp2_with (first | ((with_reducible refine gate_dst (N := 1) rfl ?_); refine box_event ?hg (N := 1) ?hd (cs := #[.bool a0_0, .slice A0_1 l0_1.length c0_1]) (t := 31) ?hr ?_; (case hd => rfl); (case hg => rfl); (case hr => first | (go_simp; done) | (go_simp; rfl)); intro gb120 hg w2 hbox hb; have n0_ := As.mk (bsp (by repeat (first | (with_reducible first | exact HB.out | apply bal | apply pwn | apply bdw) | exact HB.out)) hb); have n1_ := As.mk (hbox); have n2_ := As.mk ((by rw [hg]; exact (bsz (by repeat (first | (with_reducible first | exact HB.out | apply bal | apply pwn | apply bdw) | exact HB.out))) : w.heap.size ≤ gb120)); have n3_ := As.mk ((by rw [hg]; exact (bsz (by repeat (first | (with_reducible first | exact HB.out | apply bal | apply pwn | apply bdw) | exact HB.out))) : w.heap.size ≤ gb120)); clear HB; have HB := n0_; have BK120 := n1_; have GW120 := n2_; have GE120 := n3_; clear n0_ n1_ n2_ n3_; clear hb hbox hg; have hcz3_0 : w2.cell? ⟨gb120, 0, none⟩ = some (.bool a0_0) := (kcl BK120.out 0).trans rfl; have hcz3_1 : w2.cell? ⟨gb120, 1, none⟩ = some (.slice A0_1 l0_1.length c0_1) := (kcl BK120.out 1).trans rfl; have hfz3_0 := kfz BK120.out 0; have hfz3_1 := kfz BK120.out 1))
  go_ret
  exact ⟨by first | rfl | (simp [errW_none, errW_some] <;> rfl) | (simp [*, errW_none, errW_some] <;> rfl), by repeat (first | (with_reducible first | exact HB.out | apply bal | apply pwn | apply bdw | refine bst ?_ GE120.out) | exact HB.out)⟩
def spec_Int_Sign.f (a0_0 : Bool) (l0_1 : List Int) : Option (Int) := (spec_Int_Zero.f a0_0 l0_1).bind fun t122 => (if t122 = true then (some 0) else (if a0_0 = true then (some (-1)) else (some 1)))
set_option maxHeartbeats 8000000 in
set_option maxRecDepth 100000 in
theorem spec_Int_Sign.calls (a0_0 : Bool) (A0_1 : Option Addr) (c0_1 : Nat) (l0_1 : List Int) (r : Int) (w : World) (hr0_1 : Kd.C (Kd.int .u8) w A0_1 l0_1.length l0_1) (hc0_1 : l0_1.length ≤ c0_1) (h : spec_Int_Sign.f a0_0 l0_1 = some r) :
    Calls Tryz.prog 51 #[.agg #[.bool a0_0, .slice A0_1 l0_1.length c0_1]] w fun e w' => e = .returned (.int .i64 r) ∧ Below w.heap.size w w' := by
  have hu31 := Tryz.underlying31
  have HR0_1 := As.mk hr0_1
  have HC0_1 := As.mk hc0_1
  clear hr0_1 hc0_1
  have HB := As.mk (Below.refl w.heap.size w)
  have H : ((spec_Int_Zero.f a0_0 l0_1).bind fun t122 => (if t122 = true then (some 0) else (if a0_0 = true then (some (-1)) else (some 1)))) = some r := h
  clear h
  replace H := Option.bind_eq_some_iff.mp H
  obtain ⟨t122, A20, H⟩ := H
  replace H : (if t122 = true then (some 0) else (if a0_0 = true then (some (-1)) else (some 1))) = some r := H
  have A2 := As.mk A20
  clear A20
  by_cases c3 : t122 = true
  · subst c3
    have H1 : (some 0) = some r := by rw [if_pos rfl] at H; exact H
    clear H
    have H := H1
    clear H1
    obtain rfl := Option.some.inj H
    go_enter Tryz.func51, Tryz.ntmps51
    go_wp2_with (first | ((with_reducible refine gate_dst (N := 1) rfl ?_); refine box_event ?hg (N := 1) ?hd (cs := #[.bool a0_0, .slice A0_1 l0_1.length c0_1]) (t := 31) ?hr ?_; (case hd => rfl); (case hg => rfl); (case hr => first | (go_simp; done) | (go_simp; rfl)); intro gb121 hg w4 hbox hb; have n0_ := As.mk (bsp (by repeat (first | (with_reducible first | exact HB.out | apply bal | apply pwn | apply bdw) | exact HB.out)) hb); have n1_ := As.mk (hbox); have n2_ := As.mk ((by rw [hg]; exact (bsz (by repeat (first | (with_reducible first | exact HB.out | apply bal | apply pwn | apply bdw) | exact HB.out))) : w.heap.size ≤ gb121)); have n3_ := As.mk ((by rw [hg]; exact (bsz (by repeat (first | (with_reducible first | exact HB.out | apply bal | apply pwn | apply bdw) | exact HB.out))) : w.heap.size ≤ gb121)); clear HB; have HB := n0_; have BK121 := n1_; have GW121 := n2_; have GE121 := n3_; clear n0_ n1_ n2_ n3_; clear hb hbox hg; have hcz5_0 : w4.cell? ⟨gb121, 0, none⟩ = some (.bool a0_0) := (kcl BK121.out 0).trans rfl; have hcz5_1 : w4.cell? ⟨gb121, 1, none⟩ = some (.slice A0_1 l0_1.length c0_1) := (kcl BK121.out 1).trans rfl; have hfz5_0 := kfz BK121.out 0; have hfz5_1 := kfz BK121.out 1) | ((with_reducible refine gate_callee (f := 81) rfl ?_); refine goesL_ (some 4) rfl rfl Tryz.func81 (by kernel_rfl) rfl #[.agg #[.bool a0_0, .slice A0_1 l0_1.length c0_1]] rfl (by (try simp only [List.map_toArray, List.map_cons, List.map_nil]); first | done | rfl | (simp only [List.length_drop, List.length_take]; rfl)) ?_; (with_reducible refine (spec_Int_Zero.calls a0_0 _ _ l0_1 true _ ?side1 ?side2 A2.out).mono ?_); (case side1 => repeat (first | exact (Kd.C_below HR0_1.out HB.out) | (with_reducible refine Kd.C_alloc ?_ _) | (with_reducible refine Kd.C_drewN ?_ _) | (with_reducible refine Kd.C_drew ?_))); (case side2 => exact HC0_1.out); rintro e w6 ⟨rfl, hb⟩; refine ⟨_, rfl, ?_⟩; have n0_ := As.mk (kbw (g := gb121) (o := .cells #[.bool a0_0, .slice A0_1 l0_1.length c0_1] 31 (0, 0)) (by (with_reducible repeat (first | refine kdn ?_ _ | refine kdr ?_ | refine kal ?_ _)); exact BK121.out) hb); have n1_ := As.mk (bsp (by repeat (first | (with_reducible first | exact HB.out | apply bal | apply pwn | apply bdw | refine bst ?_ GE121.out) | exact HB.out)) hb); clear BK121; clear HB; have BK121 := n0_; have HB := n1_; clear n0_ n1_; (try clear hb); (try clear hb2); (try clear hk); (try clear hi)))
    go_ret
    exact ⟨by first | rfl | (simp [errW_none, errW_some] <;> rfl) | (simp [*, errW_none, errW_some] <;> rfl), by repeat (first | (with_reducible first | exact HB.out | apply bal | apply pwn | apply bdw | refine bst ?_ GE121.out) | exact HB.out)⟩
  · replace c3 := Bool.eq_false_iff.mpr c3
    subst c3
    have H1 : (if a0_0 = true then (some (-1)) else (some 1)) = some r := by rw [if_neg (show ¬ (false = true) by decide)] at H; exact H
    clear H
    have H := H1
    clear H1
    by_cases c7 : a0_0 = true
    · subst c7
      have H1 : (some (-1)) = some r := by rw [if_pos rfl] at H; exact H
      clear H
      have H := H1
      clear H1
      obtain rfl := Option.some.inj H
      go_enter Tryz.func51, Tryz.ntmps51
      go_wp2_with (first | ((with_reducible refine gate_dst (N := 1) rfl ?_); refine box_event ?hg (N := 1) ?hd (cs := #[.bool true, .slice A0_1 l0_1.length c0_1]) (t := 31) ?hr ?_; (case hd => rfl); (case hg => rfl); (case hr => first | (go_simp; done) | (go_simp; rfl)); intro gb121 hg w8 hbox hb; have n0_ := As.mk (bsp (by repeat (first | (with_reducible first | exact HB.out | apply bal | apply pwn | apply bdw) | exact HB.out)) hb); have n1_ := As.mk (hbox); have n2_ := As.mk ((by rw [hg]; exact (bsz (by repeat (first | (with_reducible first | exact HB.out | apply bal | apply pwn | apply bdw) | exact HB.out))) : w.heap.size ≤ gb121)); have n3_ := As.mk ((by rw [hg]; exact (bsz (by repeat (first | (with_reducible first | exact HB.out | apply bal | apply pwn | apply bdw) | exact HB.out))) : w.heap.size ≤ gb121)); clear HB; have HB := n0_; have BK121 := n1_; have GW121 := n2_; have GE121 := n3_; clear n0_ n1_ n2_ n3_; clear hb hbox hg; have hcz9_0 : w8.cell? ⟨gb121, 0, none⟩ = some (.bool true) := (kcl BK121.out 0).trans rfl; have hcz9_1 : w8.cell? ⟨gb121, 1, none⟩ = some (.slice A0_1 l0_1.length c0_1) := (kcl BK121.out 1).trans rfl; have hfz9_0 := kfz BK121.out 0; have hfz9_1 := kfz BK121.out 1) | ((with_reducible refine gate_callee (f := 81) rfl ?_); refine goesL_ (some 4) rfl rfl Tryz.func81 (by kernel_rfl) rfl #[.agg #[.bool true, .slice A0_1 l0_1.length c0_1]] rfl (by (try simp only [List.map_toArray, List.map_cons, List.map_nil]); first | done | rfl | (simp only [List.length_drop, List.length_take]; rfl)) ?_; (with_reducible refine (spec_Int_Zero.calls true _ _ l0_1 false _ ?side1 ?side2 A2.out).mono ?_); (case side1 => repeat (first | exact (Kd.C_below HR0_1.out HB.out) | (with_reducible refine Kd.C_alloc ?_ _) | (with_reducible refine Kd.C_drewN ?_ _) | (with_reducible refine Kd.C_drew ?_))); (case side2 => exact HC0_1.out); rintro e w10 ⟨rfl, hb⟩; refine ⟨_, rfl, ?_⟩; have n0_ := As.mk (kbw (g := gb121) (o := .cells #[.bool true, .slice A0_1 l0_1.length c0_1] 31 (0, 0)) (by (with_reducible repeat (first | refine kdn ?_ _ | refine kdr ?_ | refine kal ?_ _)); exact BK121.out) hb); have n1_ := As.mk (bsp (by repeat (first | (with_reducible first | exact HB.out | apply bal | apply pwn | apply bdw | refine bst ?_ GE121.out) | exact HB.out)) hb); clear BK121; clear HB; have BK121 := n0_; have HB := n1_; clear n0_ n1_; (try clear hb); (try clear hb2); (try clear hk); (try clear hi); have hcz11_0 : w10.cell? ⟨gb121, 0, none⟩ = some (.bool true) := (kcl BK121.out 0).trans rfl; have hcz11_1 : w10.cell? ⟨gb121, 1, none⟩ = some (.slice A0_1 l0_1.length c0_1) := (kcl BK121.out 1).trans rfl; have hfz11_0 := kfz BK121.out 0; have hfz11_1 := kfz BK121.out 1))
      go_ret
      exact ⟨by first | rfl | (simp [errW_none, errW_some] <;> rfl) | (simp [*, errW_none, errW_some] <;> rfl), by repeat (first | (with_reducible first | exact HB.out | apply bal | apply pwn | apply bdw | refine bst ?_ GE121.out) | exact HB.out)⟩
    · replace c7 := Bool.eq_false_iff.mpr c7
      subst c7
      have H1 : (some 1) = some r := by rw [if_neg (show ¬ (false = true) by decide)] at H; exact H
      clear H
      have H := H1
      clear H1
      obtain rfl := Option.some.inj H
      go_enter Tryz.func51, Tryz.ntmps51
      go_wp2_with (first | ((with_reducible refine gate_dst (N := 1) rfl ?_); refine box_event ?hg (N := 1) ?hd (cs := #[.bool false, .slice A0_1 l0_1.length c0_1]) (t := 31) ?hr ?_; (case hd => rfl); (case hg => rfl); (case hr => first | (go_simp; done) | (go_simp; rfl)); intro gb121 hg w12 hbox hb; have n0_ := As.mk (bsp (by repeat (first | (with_reducible first | exact HB.out | apply bal | apply pwn | apply bdw) | exact HB.out)) hb); have n1_ := As.mk (hbox); have n2_ := As.mk ((by rw [hg]; exact (bsz (by repeat (first | (with_reducible first | exact HB.out | apply bal | apply pwn | apply bdw) | exact HB.out))) : w.heap.size ≤ gb121)); have n3_ := As.mk ((by rw [hg]; exact (bsz (by repeat (first | (with_reducible first | exact HB.out | apply bal | apply pwn | apply bdw) | exact HB.out))) : w.heap.size ≤ gb121)); clear HB; have HB := n0_; have BK121 := n1_; have GW121 := n2_; have GE121 := n3_; clear n0_ n1_ n2_ n3_; clear hb hbox hg; have hcz13_0 : w12.cell? ⟨gb121, 0, none⟩ = some (.bool false) := (kcl BK121.out 0).trans rfl; have hcz13_1 : w12.cell? ⟨gb121, 1, none⟩ = some (.slice A0_1 l0_1.length c0_1) := (kcl BK121.out 1).trans rfl; have hfz13_0 := kfz BK121.out 0; have hfz13_1 := kfz BK121.out 1) | ((with_reducible refine gate_callee (f := 81) rfl ?_); refine goesL_ (some 4) rfl rfl Tryz.func81 (by kernel_rfl) rfl #[.agg #[.bool false, .slice A0_1 l0_1.length c0_1]] rfl (by (try simp only [List.map_toArray, List.map_cons, List.map_nil]); first | done | rfl | (simp only [List.length_drop, List.length_take]; rfl)) ?_; (with_reducible refine (spec_Int_Zero.calls false _ _ l0_1 false _ ?side1 ?side2 A2.out).mono ?_); (case side1 => repeat (first | exact (Kd.C_below HR0_1.out HB.out) | (with_reducible refine Kd.C_alloc ?_ _) | (with_reducible refine Kd.C_drewN ?_ _) | (with_reducible refine Kd.C_drew ?_))); (case side2 => exact HC0_1.out); rintro e w14 ⟨rfl, hb⟩; refine ⟨_, rfl, ?_⟩; have n0_ := As.mk (kbw (g := gb121) (o := .cells #[.bool false, .slice A0_1 l0_1.length c0_1] 31 (0, 0)) (by (with_reducible repeat (first | refine kdn ?_ _ | refine kdr ?_ | refine kal ?_ _)); exact BK121.out) hb); have n1_ := As.mk (bsp (by repeat (first | (with_reducible first | exact HB.out | apply bal | apply pwn | apply bdw | refine bst ?_ GE121.out) | exact HB.out)) hb); clear BK121; clear HB; have BK121 := n0_; have HB := n1_; clear n0_ n1_; (try clear hb); (try clear hb2); (try clear hk); (try clear hi); have hcz15_0 : w14.cell? ⟨gb121, 0, none⟩ = some (.bool false) := (kcl BK121.out 0).trans rfl; have hcz15_1 : w14.cell? ⟨gb121, 1, none⟩ = some (.slice A0_1 l0_1.length c0_1) := (kcl BK121.out 1).trans rfl; have hfz15_0 := kfz BK121.out 0; have hfz15_1 := kfz BK121.out 1))
      go_ret
      exact ⟨by first | rfl | (simp [errW_none, errW_some] <;> rfl) | (simp [*, errW_none, errW_some] <;> rfl), by repeat (first | (with_reducible first | exact HB.out | apply bal | apply pwn | apply bdw | refine bst ?_ GE121.out) | exact HB.out)⟩
def spec_order.l0 : Nat → List Int → List Int → Int → Option (Int)
  | 0, _, _, _ => none
  | k + 1, x0, x1, x5 => if x5 < (x0.length : Int) then (if 0 ≤ x5 then (if x5 < (x1.length : Int) then (if (rd x0 x5) = (rd x1 x5) then (spec_order.l0 k x0 x1 (wrap64 (x5 + 1))) else (if (rd x0 x5) < (rd x1 x5) then (some (-1)) else (some 1))) else (none)) else (none)) else (some 0)
def spec_order.f (k : Nat) (l0 : List Int) (l1 : List Int) : Option (Int) := if (l0.length : Int) = (l1.length : Int) then (spec_order.l0 k l0 l1 0) else (if (l0.length : Int) < (l1.length : Int) then (some (-1)) else (some 1))
theorem spec_order.mono_l : ∀ k, (∀ y0 y1 y2, LeO (spec_order.l0 k y0 y1 y2) (spec_order.l0 (k + 1) y0 y1 y2))
  | 0 => fun _ _ _ r h => by simp [spec_order.l0] at h
  | k + 1 => by
    have ih0 := spec_order.mono_l k
    · intro y0 y1 y2
      unfold spec_order.l0
      repeat' first
      | (with_reducible exact ih0 _ _ _)
      | (with_reducible exact LeO.refl _)
      | (with_reducible exact LeO.none _)
      | (with_reducible refine LeO.ite ?_ ?_)
      | (with_reducible refine LeO.bind ?_ (fun _ => ?_))
      | exact ih0 _ _ _
      | exact LeO.none _
      | refine LeO.ite ?_ ?_
      | refine LeO.bind ?_ (fun _ => ?_)
theorem spec_order.mono : ∀ a0 a1 k, LeO (spec_order.f k a0 a1) (spec_order.f (k + 1) a0 a1) := by
  intro a0 a1 k
  have ih0 := spec_order.mono_l k
  unfold spec_order.f
  repeat' first
      | (with_reducible exact ih0 _ _ _)
      | (with_reducible exact LeO.refl _)
      | (with_reducible exact LeO.none _)
      | (with_reducible refine LeO.ite ?_ ?_)
      | (with_reducible refine LeO.bind ?_ (fun _ => ?_))
      | exact ih0 _ _ _
      | exact LeO.none _
      | refine LeO.ite ?_ ?_
      | refine LeO.bind ?_ (fun _ => ?_)
set_option maxHeartbeats 8000000 in
set_option maxRecDepth 100000 in
theorem spec_order.calls (k : Nat) (A0 : Option Addr) (c0 : Nat) (l0 : List Int) (A1 : Option Addr) (c1 : Nat) (l1 : List Int) (r : Int) (w : World) (hr0 : Kd.C (Kd.int .u8) w A0 l0.length l0) (hc0 : l0.length ≤ c0) (hr1 : Kd.C (Kd.int .u8) w A1 l1.length l1) (hc1 : l1.length ≤ c1) (h : spec_order.f k l0 l1 = some r) :
    Calls Tryz.prog 52 #[.slice A0 l0.length c0, .slice A1 l1.length c1] w fun e w' => e = .returned (.int .i64 r) ∧ Drawn0 w w' := by
  have HR0 := As.mk hr0
  have HC0 := As.mk hc0
  clear hr0 hc0
  have HR1 := As.mk hr1
  have HC1 := As.mk hc1
  clear hr1 hc1
  have H : (if (l0.length : Int) = (l1.length : Int) then (spec_order.l0 k l0 l1 0) else (if (l0.length : Int) < (l1.length : Int) then (some (-1)) else (some 1))) = some r := h
  clear h
  by_cases c3 : (l0.length : Int) = (l1.length : Int)
  · rw [if_pos c3] at H
    have c3b0 : ((l0.length : Int) == (l1.length : Int)) = true := beq_iff_eq.mpr c3
    have c3b1 : ((l0.length : Int) != (l1.length : Int)) = false := bne_eq_false_iff_eq.mpr c3
    have c3b2 : (l0.length == l1.length) = true := by first | simpa using c3 | (simp at c3 ⊢; omega)
    clear c3
    have H' := As.mk H
    clear H
    go_enter Tryz.func52, Tryz.ntmps52
    go_wp2
    repeat (go_quiet (fail); try go_wp2)
    go_loopg [5] k (fun kq v5 w' => ∃ (x5_1 : Int), v5 = .int .i64 x5_1 ∧ As (spec_order.l0 kq l0 l1 x5_1 = some r) ∧ As (kq ≤ k) ∧ Drawn0 w w')
    case atStart => exact ⟨(0), (by first | rfl | (simp; done) | (simp [*]; done)), H', ⟨Nat.le_refl _⟩, by repeat (first | exact Drawn0.refl _ | apply Drawn0.step)⟩
    case round =>
      clear H'
      try clear c1
      try clear p2
      try clear c3
      try clear c3b0
      try clear c3b1
      try clear c3b2
      obtain ⟨x5_1, rfl, HA, HK1, ⟨m1, rfl⟩⟩ := hrel
      cases gk with
      | zero => exact absurd HA.out (by simp [spec_order.l0])
      | succ k1 =>
        have H := HA.out
        clear HA
        simp only [spec_order.l0] at H
        by_cases c4 : x5_1 < (l0.length : Int)
        · rw [if_pos c4] at H
          have c4b0 : decide (x5_1 < (l0.length : Int)) = true := decide_eq_true c4
          clear c4
          by_cases c5 : 0 ≤ x5_1
          · rw [if_pos c5] at H
            have c5b0 : decide (0 ≤ x5_1) = true := decide_eq_true c5
            clear c5
            by_cases c6 : x5_1 < (l1.length : Int)
            · rw [if_pos c6] at H
              have c6b0 : decide (x5_1 < (l1.length : Int)) = true := decide_eq_true c6
              clear c6
              by_cases c7 : (rd l0 x5_1) = (rd l1 x5_1)
              · rw [if_pos c7] at H
                have c7b0 : ((rd l0 x5_1) == (rd l1 x5_1)) = true := beq_iff_eq.mpr c7
                have c7b1 : ((rd l0 x5_1) != (rd l1 x5_1)) = false := bne_eq_false_iff_eq.mpr c7
                clear c7
                have H' := As.mk H
                clear H
                have p123 : 0 ≤ (x5_1 : Int) := of_decide_eq_true (by first | (with_reducible assumption) | assumption)
                have q123 : x5_1 < (l0.length : Int) := of_decide_eq_true (by first | (with_reducible assumption) | assumption)
                obtain ⟨ad123, e123, hx123_0⟩ := Kd.at_int HR0.out x5_1 p123 q123
                cases e123
                replace p123 := eq_true p123
                replace q123 := eq_true q123
                have p124 : 0 ≤ (x5_1 : Int) := of_decide_eq_true (by first | (with_reducible assumption) | assumption)
                have q124 : x5_1 < (l1.length : Int) := of_decide_eq_true (by first | (with_reducible assumption) | assumption)
                obtain ⟨ad124, e124, hx124_0⟩ := Kd.at_int HR1.out x5_1 p124 q124
                cases e124
                replace p124 := eq_true p124
                replace q124 := eq_true q124
                go_wp2
                repeat (go_quiet (fail); try go_wp2)
                go_roundg k1
                case measure => have := HK1.out; omega
                case rel => exact ⟨(wrap64 (x5_1 + 1)), (by first | rfl | (simp; done) | (simp [*]; done)), H', ⟨by have := HK1.out; omega⟩, by repeat (first | exact Drawn0.refl _ | apply Drawn0.step)⟩
              · rw [if_neg c7] at H
                have c7b0 : ((rd l0 x5_1) == (rd l1 x5_1)) = false := beq_eq_false_iff_ne.mpr c7
                have c7b1 : ((rd l0 x5_1) != (rd l1 x5_1)) = true := bne_iff_ne.mpr c7
                by_cases c8 : (rd l0 x5_1) < (rd l1 x5_1)
                · rw [if_pos c8] at H
                  have c8b0 : decide ((rd l0 x5_1) < (rd l1 x5_1)) = true := decide_eq_true c8
                  clear c8
                  obtain rfl := Option.some.inj H
                  have p123 : 0 ≤ (x5_1 : Int) := of_decide_eq_true (by first | (with_reducible assumption) | assumption)
                  have q123 : x5_1 < (l0.length : Int) := of_decide_eq_true (by first | (with_reducible assumption) | assumption)
                  obtain ⟨ad123, e123, hx123_0⟩ := Kd.at_int HR0.out x5_1 p123 q123
                  cases e123
                  replace p123 := eq_true p123
                  replace q123 := eq_true q123
                  have p124 : 0 ≤ (x5_1 : Int) := of_decide_eq_true (by first | (with_reducible assumption) | assumption)
                  have q124 : x5_1 < (l1.length : Int) := of_decide_eq_true (by first | (with_reducible assumption) | assumption)
                  obtain ⟨ad124, e124, hx124_0⟩ := Kd.at_int HR1.out x5_1 p124 q124
                  cases e124
                  replace p124 := eq_true p124
                  replace q124 := eq_true q124
                  have p125 : 0 ≤ (x5_1 : Int) := of_decide_eq_true (by first | (with_reducible assumption) | assumption)
                  have q125 : x5_1 < (l0.length : Int) := of_decide_eq_true (by first | (with_reducible assumption) | assumption)
                  obtain ⟨ad125, e125, hx125_0⟩ := Kd.at_int HR0.out x5_1 p125 q125
                  obtain rfl : ad123 = ad125 := (by injection e125)
                  replace p125 := eq_true p125
                  replace q125 := eq_true q125
                  have p126 : 0 ≤ (x5_1 : Int) := of_decide_eq_true (by first | (with_reducible assumption) | assumption)
                  have q126 : x5_1 < (l1.length : Int) := of_decide_eq_true (by first | (with_reducible assumption) | assumption)
                  obtain ⟨ad126, e126, hx126_0⟩ := Kd.at_int HR1.out x5_1 p126 q126
                  obtain rfl : ad124 = ad126 := (by injection e126)
                  replace p126 := eq_true p126
                  replace q126 := eq_true q126
                  go_wp2
                  repeat (go_quiet (fail); try go_wp2)
                  go_ret
                  exact ⟨by first | rfl | (simp; done) | (simp [*]; done), by repeat (first | exact Drawn0.refl _ | apply Drawn0.step)⟩
                · rw [if_neg c8] at H
                  have c8b0 : decide ((rd l0 x5_1) < (rd l1 x5_1)) = false := decide_eq_false c8
                  clear c8
                  obtain rfl := Option.some.inj H
                  have p123 : 0 ≤ (x5_1 : Int) := of_decide_eq_true (by first | (with_reducible assumption) | assumption)
                  have q123 : x5_1 < (l0.length : Int) := of_decide_eq_true (by first | (with_reducible assumption) | assumption)
                  obtain ⟨ad123, e123, hx123_0⟩ := Kd.at_int HR0.out x5_1 p123 q123
                  cases e123
                  replace p123 := eq_true p123
                  replace q123 := eq_true q123
                  have p124 : 0 ≤ (x5_1 : Int) := of_decide_eq_true (by first | (with_reducible assumption) | assumption)
                  have q124 : x5_1 < (l1.length : Int) := of_decide_eq_true (by first | (with_reducible assumption) | assumption)
                  obtain ⟨ad124, e124, hx124_0⟩ := Kd.at_int HR1.out x5_1 p124 q124
                  cases e124
                  replace p124 := eq_true p124
                  replace q124 := eq_true q124
                  have p125 : 0 ≤ (x5_1 : Int) := of_decide_eq_true (by first | (with_reducible assumption) | assumption)
                  have q125 : x5_1 < (l0.length : Int) := of_decide_eq_true (by first | (with_reducible assumption) | assumption)
                  obtain ⟨ad125, e125, hx125_0⟩ := Kd.at_int HR0.out x5_1 p125 q125
                  obtain rfl : ad123 = ad125 := (by injection e125)
                  replace p125 := eq_true p125
                  replace q125 := eq_true q125
                  have p126 : 0 ≤ (x5_1 : Int) := of_decide_eq_true (by first | (with_reducible assumption) | assumption)
                  have q126 : x5_1 < (l1.length : Int) := of_decide_eq_true (by first | (with_reducible assumption) | assumption)
                  obtain ⟨ad126, e126, hx126_0⟩ := Kd.at_int HR1.out x5_1 p126 q126
                  obtain rfl : ad124 = ad126 := (by injection e126)
                  replace p126 := eq_true p126
                  replace q126 := eq_true q126
                  go_wp2
                  repeat (go_quiet (fail); try go_wp2)
                  go_ret
                  exact ⟨by first | rfl | (simp; done) | (simp [*]; done), by repeat (first | exact Drawn0.refl _ | apply Drawn0.step)⟩
            · rw [if_neg c6] at H
              exact absurd H (by simp)
          · rw [if_neg c5] at H
            exact absurd H (by simp)
        · rw [if_neg c4] at H
          have c4b0 : decide (x5_1 < (l0.length : Int)) = false := decide_eq_false c4
          clear c4
          obtain rfl := Option.some.inj H
          go_wp2
          repeat (go_quiet (fail); try go_wp2)
          go_ret
          exact ⟨by first | rfl | (simp; done) | (simp [*]; done), by repeat (first | exact Drawn0.refl _ | apply Drawn0.step)⟩
  · rw [if_neg c3] at H
    have c3b0 : ((l0.length : Int) == (l1.length : Int)) = false := beq_eq_false_iff_ne.mpr c3
    have c3b1 : ((l0.length : Int) != (l1.length : Int)) = true := bne_iff_ne.mpr c3
    have c3b2 : (l0.length == l1.length) = false := by first | simpa using c3 | (simp at c3 ⊢; omega)
    by_cases c9 : (l0.length : Int) < (l1.length : Int)
    · rw [if_pos c9] at H
      have c9b0 : decide ((l0.length : Int) < (l1.length : Int)) = true := decide_eq_true c9
      have c9b1 : decide (l0.length < l1.length) = true := decide_eq_true (Int.ofNat_lt.mp c9)
      clear c9
      obtain rfl := Option.some.inj H
      go_enter Tryz.func52, Tryz.ntmps52
      go_wp2
      repeat (go_quiet (fail); try go_wp2)
      go_ret
      exact ⟨by first | rfl | (simp; done) | (simp [*]; done), by repeat (first | exact Drawn0.refl _ | apply Drawn0.step)⟩
    · rw [if_neg c9] at H
      have c9b0 : decide ((l0.length : Int) < (l1.length : Int)) = false := decide_eq_false c9
      have c9b1 : decide (l0.length < l1.length) = false := decide_eq_false (fun h => c9 (Int.ofNat_lt.mpr h))
      clear c9
      obtain rfl := Option.some.inj H
      go_enter Tryz.func52, Tryz.ntmps52
      go_wp2
      repeat (go_quiet (fail); try go_wp2)
      go_ret
      exact ⟨by first | rfl | (simp; done) | (simp [*]; done), by repeat (first | exact Drawn0.refl _ | apply Drawn0.step)⟩
end Go.Proofs.YtldejfallphhbaaGreatDoor.PNearest
namespace Go.Proofs.YtldejfallphhbaaGreatDoor.PNearest
open Go.RowKit Go.Proofs.YtldejfallphhbaaGreatDoorW.PrintWords Go.Proofs.YtldejfallphhbaaGreatDoorW.PrintLast Go.Proofs.YtldejfallphhbaaGreatDoorW.PrintMore
attribute [local go_sem] max2_int min2_int max_two min_two max_three min_three max_four min_four
set_option linter.unusedVariables false
set_option linter.unusedSimpArgs false
def spec_Int_Cmp.f (k : Nat) (a0_0 : Bool) (l0_1 : List Int) (a1_0 : Bool) (l1_1 : List Int) : Option (Int) := (spec_Int_Sign.f a0_0 l0_1).bind fun t129 => ((spec_Int_Sign.f a1_0 l1_1).bind fun t130 => (if t129 = t130 then (if a0_0 = true then ((spec_order.f k l1_1 l0_1).bind fun t133 => (some t133)) else ((spec_order.f k l0_1 l1_1).bind fun t134 => (some t134))) else ((spec_Int_Sign.f a0_0 l0_1).bind fun t131 => ((spec_Int_Sign.f a1_0 l1_1).bind fun t132 => (if t131 < t132 then (some (-1)) else (some 1))))))
theorem spec_Int_Cmp.mono : ∀ a0 a1 a2 a3 k, LeO (spec_Int_Cmp.f k a0 a1 a2 a3) (spec_Int_Cmp.f (k + 1) a0 a1 a2 a3) := by
  intro a0 a1 a2 a3 k
  unfold spec_Int_Cmp.f
  repeat' first
      | (with_reducible exact spec_order.mono _ _ _)
      | (with_reducible exact LeO.refl _)
      | (with_reducible exact LeO.none _)
      | (with_reducible refine LeO.ite ?_ ?_)
      | (with_reducible refine LeO.bind ?_ (fun _ => ?_))
      | exact spec_order.mono _ _ _
      | exact LeO.none _
      | refine LeO.ite ?_ ?_
      | refine LeO.bind ?_ (fun _ => ?_)
set_option maxHeartbeats 8000000 in
set_option maxRecDepth 100000 in
theorem spec_Int_Cmp.calls (k : Nat) (a0_0 : Bool) (A0_1 : Option Addr) (c0_1 : Nat) (l0_1 : List Int) (a1_0 : Bool) (A1_1 : Option Addr) (c1_1 : Nat) (l1_1 : List Int) (r : Int) (w : World) (hr0_1 : Kd.C (Kd.int .u8) w A0_1 l0_1.length l0_1) (hc0_1 : l0_1.length ≤ c0_1) (hr1_1 : Kd.C (Kd.int .u8) w A1_1 l1_1.length l1_1) (hc1_1 : l1_1.length ≤ c1_1) (h : spec_Int_Cmp.f k a0_0 l0_1 a1_0 l1_1 = some r) :
    Calls Tryz.prog 26 #[.agg #[.bool a0_0, .slice A0_1 l0_1.length c0_1], .agg #[.bool a1_0, .slice A1_1 l1_1.length c1_1]] w fun e w' => e = .returned (.int .i64 r) ∧ Below w.heap.size w w' := by
  have hu31 := Tryz.underlying31
  have HR0_1 := As.mk hr0_1
  have HC0_1 := As.mk hc0_1
  clear hr0_1 hc0_1
  have HR1_1 := As.mk hr1_1
  have HC1_1 := As.mk hc1_1
  clear hr1_1 hc1_1
  have HB := As.mk (Below.refl w.heap.size w)
  have H : ((spec_Int_Sign.f a0_0 l0_1).bind fun t129 => ((spec_Int_Sign.f a1_0 l1_1).bind fun t130 => (if t129 = t130 then (if a0_0 = true then ((spec_order.f k l1_1 l0_1).bind fun t133 => (some t133)) else ((spec_order.f k l0_1 l1_1).bind fun t134 => (some t134))) else ((spec_Int_Sign.f a0_0 l0_1).bind fun t131 => ((spec_Int_Sign.f a1_0 l1_1).bind fun t132 => (if t131 < t132 then (some (-1)) else (some 1))))))) = some r := h
  clear h
  replace H := Option.bind_eq_some_iff.mp H
  obtain ⟨t129, A30, H⟩ := H
  replace H : ((spec_Int_Sign.f a1_0 l1_1).bind fun t130 => (if t129 = t130 then (if a0_0 = true then ((spec_order.f k l1_1 l0_1).bind fun t133 => (some t133)) else ((spec_order.f k l0_1 l1_1).bind fun t134 => (some t134))) else ((spec_Int_Sign.f a0_0 l0_1).bind fun t131 => ((spec_Int_Sign.f a1_0 l1_1).bind fun t132 => (if t131 < t132 then (some (-1)) else (some 1)))))) = some r := H
  have A3 := As.mk A30
  clear A30
  replace H := Option.bind_eq_some_iff.mp H
  obtain ⟨t130, A40, H⟩ := H
  replace H : (if t129 = t130 then (if a0_0 = true then ((spec_order.f k l1_1 l0_1).bind fun t133 => (some t133)) else ((spec_order.f k l0_1 l1_1).bind fun t134 => (some t134))) else ((spec_Int_Sign.f a0_0 l0_1).bind fun t131 => ((spec_Int_Sign.f a1_0 l1_1).bind fun t132 => (if t131 < t132 then (some (-1)) else (some 1))))) = some r := H
  have A4 := As.mk A40
  clear A40
  by_cases c5 : t129 = t130
  · rw [if_pos c5] at H
    have c5b0 : (t129 == t130) = true := beq_iff_eq.mpr c5
    have c5b1 : (t129 != t130) = false := bne_eq_false_iff_eq.mpr c5
    clear c5
    by_cases c6 : a0_0 = true
    · subst c6
      have H1 : ((spec_order.f k l1_1 l0_1).bind fun t133 => (some t133)) = some r := by rw [if_pos rfl] at H; exact H
      clear H
      have H := H1
      clear H1
      replace H := Option.bind_eq_some_iff.mp H
      obtain ⟨t133, A70, H⟩ := H
      replace H : (some t133) = some r := H
      have A7 := As.mk A70
      clear A70
      obtain rfl := Option.some.inj H
      go_enter Tryz.func26, Tryz.ntmps26
      try go_wp2_with (first | ((with_reducible refine gate_dst (N := 2) rfl ?_); refine box_event ?hg (N := 2) ?hd (cs := #[.bool true, .slice A0_1 l0_1.length c0_1]) (t := 31) ?hr ?_; (case hd => rfl); (case hg => rfl); (case hr => first | (go_simp; done) | (go_simp; rfl)); intro gb127 hg w8 hbox hb; have n0_ := As.mk (bsp (by repeat (first | (with_reducible first | exact HB.out | apply bal | apply pwn | apply bdw) | exact HB.out)) hb); have n1_ := As.mk (hbox); have n2_ := As.mk ((by rw [hg]; exact (bsz (by repeat (first | (with_reducible first | exact HB.out | apply bal | apply pwn | apply bdw) | exact HB.out))) : w.heap.size ≤ gb127)); have n3_ := As.mk ((by rw [hg]; exact (bsz (by repeat (first | (with_reducible first | exact HB.out | apply bal | apply pwn | apply bdw) | exact HB.out))) : w.heap.size ≤ gb127)); clear HB; have HB := n0_; have BK127 := n1_; have GW127 := n2_; have GE127 := n3_; clear n0_ n1_ n2_ n3_; clear hb hbox hg) | ((with_reducible refine gate_dst (N := 3) rfl ?_); refine box_event ?hg (N := 3) ?hd (cs := #[.bool a1_0, .slice A1_1 l1_1.length c1_1]) (t := 31) ?hr ?_; (case hd => rfl); (case hg => rfl); (case hr => first | (go_simp; done) | (go_simp; rfl)); intro gb128 hg w9 hbox hb; have n0_ := As.mk (kbw (g := gb127) (o := .cells #[.bool true, .slice A0_1 l0_1.length c0_1] 31 (0, 0)) (by (with_reducible repeat (first | refine kdn ?_ _ | refine kdr ?_ | refine kal ?_ _)); exact BK127.out) hb); have n1_ := As.mk (bsp (by repeat (first | (with_reducible first | exact HB.out | apply bal | apply pwn | apply bdw | refine bst ?_ GE127.out) | exact HB.out)) hb); have n2_ := As.mk (hbox); have n3_ := As.mk ((by rw [hg]; exact (bsz (by repeat (first | (with_reducible first | exact HB.out | apply bal | apply pwn | apply bdw | refine bst ?_ GE127.out) | exact HB.out))) : w.heap.size ≤ gb128)); have n4_ := As.mk ((by rw [hg]; exact (bsz (by repeat (first | (with_reducible first | exact HB.out | apply bal | apply pwn | apply bdw | refine bst ?_ GE127.out) | exact HB.out))) : w.heap.size ≤ gb128)); have n5_ := As.mk ((by rw [hg]; exact Nat.ne_of_lt (blk_lt (g := gb127) (o := .cells #[.bool true, .slice A0_1 l0_1.length c0_1] 31 (0, 0)) (by (with_reducible repeat (first | refine kdn ?_ _ | refine kdr ?_ | refine kal ?_ _)); exact BK127.out)) : gb127 ≠ gb128)); have n6_ := As.mk ((by rw [hg]; exact Nat.ne_of_gt (blk_lt (g := gb127) (o := .cells #[.bool true, .slice A0_1 l0_1.length c0_1] 31 (0, 0)) (by (with_reducible repeat (first | refine kdn ?_ _ | refine kdr ?_ | refine kal ?_ _)); exact BK127.out)) : gb128 ≠ gb127)); clear BK127; clear HB; have BK127 := n0_; have HB := n1_; have BK128 := n2_; have GW128 := n3_; have GE128 := n4_; have NB127_128 := n5_; have NB128_127 := n6_; clear n0_ n1_ n2_ n3_ n4_ n5_ n6_; clear hb hbox hg))
      have n0_ := As.mk (kdr BK127.out)
      have n1_ := As.mk (kdr BK128.out)
      have n2_ := As.mk (bdw HB.out)
      clear BK127
      clear BK128
      clear HB
      have BK127 := n0_
      have BK128 := n1_
      have HB := n2_
      clear n0_ n1_ n2_
      refine start_ (n := 5) (S := fun w' => w'.cell? ⟨gb127, 0, none⟩ = some (.bool true) ∧ w'.cell? ⟨gb127, 1, none⟩ = some (.slice A0_1 l0_1.length c0_1) ∧ w'.cell? ⟨gb128, 0, none⟩ = some (.bool a1_0) ∧ w'.cell? ⟨gb128, 1, none⟩ = some (.slice A1_1 l1_1.length c1_1)) (ds := []) #[false, false, false, false, false] (by kernel_rfl) rfl rfl ⟨(kcl BK127.out 0).trans rfl, (kcl BK127.out 1).trans rfl, (kcl BK128.out 0).trans rfl, (kcl BK128.out 1).trans rfl⟩ (fun hHeld => ?_)
      generalize w9.drew = w10 at BK127 BK128 HB hHeld ⊢
      refine take_ (i := 0) (N := some 5) (v := ?_) (a' := ?_) #[true, false, false, false, false] rfl rfl (by kernel_rfl) (fun _ _ _ h => h) (Or.inl ⟨by rfl, ?_⟩) hHeld ?_ ?_
      rotate_left
      · rintro w' ⟨s0, s1, s2, s3⟩
        go_simp
        with_reducible rfl
      rotate_left
      · simp only [Act.put, List.setIfInBounds_toArray, List.set_cons_zero, List.set_cons_succ, i64_w, i32_w]
        rfl
      refine take_ (i := 2) (N := some 7) (v := ?_) (a' := ?_) #[true, false, true, false, false] rfl rfl (by kernel_rfl) (fun _ _ _ h => h) (Or.inl ⟨by rfl, ?_⟩) hHeld ?_ ?_
      rotate_left
      · rintro w' ⟨s0, s1, s2, s3⟩
        go_simp
        with_reducible rfl
      rotate_left
      · simp only [Act.put, List.setIfInBounds_toArray, List.set_cons_zero, List.set_cons_succ, i64_w, i32_w]
        rfl
      refine one_ (i := 1) (N := some 6) #[true, true, true, false, false] rfl rfl (by kernel_rfl) (by decide) (fun K hK => ?_)
      refine goes_ Tryz.func51 (by kernel_rfl) rfl #[.agg #[.bool true, .slice A0_1 l0_1.length c0_1]] (by rfl) rfl rfl (by (try simp only [List.map_toArray, List.map_cons, List.map_nil]); first | done | rfl | (simp only [List.length_drop, List.length_take]; rfl)) ?_
      with_reducible refine (spec_Int_Sign.calls true _ _ l0_1 t129 _ ?side1 ?side2 A3.out).mono ?_
      (case side1 => repeat (first | exact (Kd.C_below HR0_1.out HB.out) | (with_reducible refine Kd.C_alloc ?_ _) | (with_reducible refine Kd.C_drewN ?_ _) | (with_reducible refine Kd.C_drew ?_)))
      (case side2 => exact HC0_1.out)
      rintro e w11 ⟨rfl, hb⟩
      refine ⟨_, rfl, ?_⟩
      have n0_ := As.mk (kbw (g := gb127) (o := .cells #[.bool true, .slice A0_1 l0_1.length c0_1] 31 (0, 0)) (by (with_reducible repeat (first | refine kdn ?_ _ | refine kdr ?_ | refine kal ?_ _)); exact BK127.out) hb)
      have n1_ := As.mk (kbw (g := gb128) (o := .cells #[.bool a1_0, .slice A1_1 l1_1.length c1_1] 31 (0, 0)) (by (with_reducible repeat (first | refine kdn ?_ _ | refine kdr ?_ | refine kal ?_ _)); exact BK128.out) hb)
      have n2_ := As.mk (bsp (by repeat (first | (with_reducible first | exact HB.out | apply bal | apply pwn | apply bdw | refine bst ?_ GE127.out | refine bst ?_ GE128.out) | exact HB.out)) hb)
      clear BK127
      clear BK128
      clear HB
      have BK127 := n0_
      have BK128 := n1_
      have HB := n2_
      clear n0_ n1_ n2_
      (try clear hb)
      (try clear hb2)
      (try clear hk)
      (try clear hi)
      refine hK.out _ _ ⟨(kcl BK127.out 0).trans rfl, (kcl BK127.out 1).trans rfl, (kcl BK128.out 0).trans rfl, (kcl BK128.out 1).trans rfl⟩ (fun hHeld => ?_)
      clear hK K
      refine norm_ (a' := ?_) ?_ ?_
      rotate_left
      · show Act.put _ (some 6) _ = _
        simp only [Act.put, List.setIfInBounds_toArray, List.set_cons_zero, List.set_cons_succ, i64_w, i32_w]
        rfl
      refine one_ (i := 3) (N := some 8) #[true, true, true, true, false] rfl rfl (by kernel_rfl) (by decide) (fun K hK => ?_)
      refine goes_ Tryz.func51 (by kernel_rfl) rfl #[.agg #[.bool a1_0, .slice A1_1 l1_1.length c1_1]] (by rfl) rfl rfl (by (try simp only [List.map_toArray, List.map_cons, List.map_nil]); first | done | rfl | (simp only [List.length_drop, List.length_take]; rfl)) ?_
      with_reducible refine (spec_Int_Sign.calls a1_0 _ _ l1_1 t130 _ ?side1 ?side2 A4.out).mono ?_
      (case side1 => repeat (first | exact (Kd.C_below HR1_1.out HB.out) | (with_reducible refine Kd.C_alloc ?_ _) | (with_reducible refine Kd.C_drewN ?_ _) | (with_reducible refine Kd.C_drew ?_)))
      (case side2 => exact HC1_1.out)
      rintro e w12 ⟨rfl, hb⟩
      refine ⟨_, rfl, ?_⟩
      have n0_ := As.mk (kbw (g := gb127) (o := .cells #[.bool true, .slice A0_1 l0_1.length c0_1] 31 (0, 0)) (by (with_reducible repeat (first | refine kdn ?_ _ | refine kdr ?_ | refine kal ?_ _)); exact BK127.out) hb)
      have n1_ := As.mk (kbw (g := gb128) (o := .cells #[.bool a1_0, .slice A1_1 l1_1.length c1_1] 31 (0, 0)) (by (with_reducible repeat (first | refine kdn ?_ _ | refine kdr ?_ | refine kal ?_ _)); exact BK128.out) hb)
      have n2_ := As.mk (bsp (by repeat (first | (with_reducible first | exact HB.out | apply bal | apply pwn | apply bdw | refine bst ?_ GE127.out | refine bst ?_ GE128.out) | exact HB.out)) hb)
      clear BK127
      clear BK128
      clear HB
      have BK127 := n0_
      have BK128 := n1_
      have HB := n2_
      clear n0_ n1_ n2_
      (try clear hb)
      (try clear hb2)
      (try clear hk)
      (try clear hi)
      refine hK.out _ _ ⟨(kcl BK127.out 0).trans rfl, (kcl BK127.out 1).trans rfl, (kcl BK128.out 0).trans rfl, (kcl BK128.out 1).trans rfl⟩ (fun hHeld => ?_)
      clear hK K
      refine norm_ (a' := ?_) ?_ ?_
      rotate_left
      · show Act.put _ (some 8) _ = _
        simp only [Act.put, List.setIfInBounds_toArray, List.set_cons_zero, List.set_cons_succ, i64_w, i32_w]
        rfl
      refine pure_ (i := 4) (N := some 9) (v := ?_) (a' := ?_) #[true, true, true, true, true] rfl rfl (by kernel_rfl) (fun _ _ _ h => h) (Or.inl ⟨by rfl, ?_⟩) ?_ ?_
      rotate_left
      · intro w'
        go_simp
        with_reducible rfl
      rotate_left
      · simp only [Act.put, List.setIfInBounds_toArray, List.set_cons_zero, List.set_cons_succ, i64_w, i32_w]
        rfl
      refine done_ (by kernel_rfl) ?_
      have hnb13 := NB127_128.out
      have hnc13 := NB128_127.out
      have hcz14_0 : w12.cell? ⟨gb127, 0, none⟩ = some (.bool true) := (kcl BK127.out 0).trans rfl
      have hcz14_1 : w12.cell? ⟨gb127, 1, none⟩ = some (.slice A0_1 l0_1.length c0_1) := (kcl BK127.out 1).trans rfl
      have hfz14_0 := kfz BK127.out 0
      have hfz14_1 := kfz BK127.out 1
      have hcz15_0 : w12.cell? ⟨gb128, 0, none⟩ = some (.bool a1_0) := (kcl BK128.out 0).trans rfl
      have hcz15_1 : w12.cell? ⟨gb128, 1, none⟩ = some (.slice A1_1 l1_1.length c1_1) := (kcl BK128.out 1).trans rfl
      have hfz15_0 := kfz BK128.out 0
      have hfz15_1 := kfz BK128.out 1
      try go_wp2_with (first | ((with_reducible refine gate_callee (f := 52) rfl ?_); refine goesL_ (some 21) rfl rfl Tryz.func52 (by kernel_rfl) rfl #[.slice A1_1 l1_1.length c1_1, .slice A0_1 l0_1.length c0_1] rfl (by (try simp only [List.map_toArray, List.map_cons, List.map_nil]); first | done | rfl | (simp only [List.length_drop, List.length_take]; rfl)) ?_; (with_reducible refine (spec_order.calls k _ _ l1_1 _ _ l0_1 t133 _ ?side1 ?side2 ?side3 ?side4 A7.out).mono ?_); (case side1 => repeat (first | exact (Kd.C_below HR1_1.out HB.out) | (with_reducible refine Kd.C_alloc ?_ _) | (with_reducible refine Kd.C_drewN ?_ _) | (with_reducible refine Kd.C_drew ?_))); (case side2 => exact HC1_1.out); (case side3 => repeat (first | exact (Kd.C_below HR0_1.out HB.out) | (with_reducible refine Kd.C_alloc ?_ _) | (with_reducible refine Kd.C_drewN ?_ _) | (with_reducible refine Kd.C_drew ?_))); (case side4 => exact HC0_1.out); rintro e w' ⟨rfl, ⟨nd, rfl⟩⟩; refine ⟨_, rfl, ?_⟩))
      go_ret
      exact ⟨by first | rfl | (simp [errW_none, errW_some] <;> rfl) | (simp [*, errW_none, errW_some] <;> rfl), by repeat (first | (with_reducible first | exact HB.out | apply bal | apply pwn | apply bdw | refine bst ?_ GE127.out | refine bst ?_ GE128.out) | exact HB.out)⟩
    · replace c6 := Bool.eq_false_iff.mpr c6
      subst c6
      have H1 : ((spec_order.f k l0_1 l1_1).bind fun t134 => (some t134)) = some r := by rw [if_neg (show ¬ (false = true) by decide)] at H; exact H
      clear H
      have H := H1
      clear H1
      replace H := Option.bind_eq_some_iff.mp H
      obtain ⟨t134, A160, H⟩ := H
      replace H : (some t134) = some r := H
      have A16 := As.mk A160
      clear A160
      obtain rfl := Option.some.inj H
      go_enter Tryz.func26, Tryz.ntmps26
      try go_wp2_with (first | ((with_reducible refine gate_dst (N := 2) rfl ?_); refine box_event ?hg (N := 2) ?hd (cs := #[.bool false, .slice A0_1 l0_1.length c0_1]) (t := 31) ?hr ?_; (case hd => rfl); (case hg => rfl); (case hr => first | (go_simp; done) | (go_simp; rfl)); intro gb127 hg w17 hbox hb; have n0_ := As.mk (bsp (by repeat (first | (with_reducible first | exact HB.out | apply bal | apply pwn | apply bdw) | exact HB.out)) hb); have n1_ := As.mk (hbox); have n2_ := As.mk ((by rw [hg]; exact (bsz (by repeat (first | (with_reducible first | exact HB.out | apply bal | apply pwn | apply bdw) | exact HB.out))) : w.heap.size ≤ gb127)); have n3_ := As.mk ((by rw [hg]; exact (bsz (by repeat (first | (with_reducible first | exact HB.out | apply bal | apply pwn | apply bdw) | exact HB.out))) : w.heap.size ≤ gb127)); clear HB; have HB := n0_; have BK127 := n1_; have GW127 := n2_; have GE127 := n3_; clear n0_ n1_ n2_ n3_; clear hb hbox hg) | ((with_reducible refine gate_dst (N := 3) rfl ?_); refine box_event ?hg (N := 3) ?hd (cs := #[.bool a1_0, .slice A1_1 l1_1.length c1_1]) (t := 31) ?hr ?_; (case hd => rfl); (case hg => rfl); (case hr => first | (go_simp; done) | (go_simp; rfl)); intro gb128 hg w18 hbox hb; have n0_ := As.mk (kbw (g := gb127) (o := .cells #[.bool false, .slice A0_1 l0_1.length c0_1] 31 (0, 0)) (by (with_reducible repeat (first | refine kdn ?_ _ | refine kdr ?_ | refine kal ?_ _)); exact BK127.out) hb); have n1_ := As.mk (bsp (by repeat (first | (with_reducible first | exact HB.out | apply bal | apply pwn | apply bdw | refine bst ?_ GE127.out) | exact HB.out)) hb); have n2_ := As.mk (hbox); have n3_ := As.mk ((by rw [hg]; exact (bsz (by repeat (first | (with_reducible first | exact HB.out | apply bal | apply pwn | apply bdw | refine bst ?_ GE127.out) | exact HB.out))) : w.heap.size ≤ gb128)); have n4_ := As.mk ((by rw [hg]; exact (bsz (by repeat (first | (with_reducible first | exact HB.out | apply bal | apply pwn | apply bdw | refine bst ?_ GE127.out) | exact HB.out))) : w.heap.size ≤ gb128)); have n5_ := As.mk ((by rw [hg]; exact Nat.ne_of_lt (blk_lt (g := gb127) (o := .cells #[.bool false, .slice A0_1 l0_1.length c0_1] 31 (0, 0)) (by (with_reducible repeat (first | refine kdn ?_ _ | refine kdr ?_ | refine kal ?_ _)); exact BK127.out)) : gb127 ≠ gb128)); have n6_ := As.mk ((by rw [hg]; exact Nat.ne_of_gt (blk_lt (g := gb127) (o := .cells #[.bool false, .slice A0_1 l0_1.length c0_1] 31 (0, 0)) (by (with_reducible repeat (first | refine kdn ?_ _ | refine kdr ?_ | refine kal ?_ _)); exact BK127.out)) : gb128 ≠ gb127)); clear BK127; clear HB; have BK127 := n0_; have HB := n1_; have BK128 := n2_; have GW128 := n3_; have GE128 := n4_; have NB127_128 := n5_; have NB128_127 := n6_; clear n0_ n1_ n2_ n3_ n4_ n5_ n6_; clear hb hbox hg))
      have n0_ := As.mk (kdr BK127.out)
      have n1_ := As.mk (kdr BK128.out)
      have n2_ := As.mk (bdw HB.out)
      clear BK127
      clear BK128
      clear HB
      have BK127 := n0_
      have BK128 := n1_
      have HB := n2_
      clear n0_ n1_ n2_
      refine start_ (n := 5) (S := fun w' => w'.cell? ⟨gb127, 0, none⟩ = some (.bool false) ∧ w'.cell? ⟨gb127, 1, none⟩ = some (.slice A0_1 l0_1.length c0_1) ∧ w'.cell? ⟨gb128, 0, none⟩ = some (.bool a1_0) ∧ w'.cell? ⟨gb128, 1, none⟩ = some (.slice A1_1 l1_1.length c1_1)) (ds := []) #[false, false, false, false, false] (by kernel_rfl) rfl rfl ⟨(kcl BK127.out 0).trans rfl, (kcl BK127.out 1).trans rfl, (kcl BK128.out 0).trans rfl, (kcl BK128.out 1).trans rfl⟩ (fun hHeld => ?_)
      generalize w18.drew = w19 at BK127 BK128 HB hHeld ⊢
      refine take_ (i := 0) (N := some 5) (v := ?_) (a' := ?_) #[true, false, false, false, false] rfl rfl (by kernel_rfl) (fun _ _ _ h => h) (Or.inl ⟨by rfl, ?_⟩) hHeld ?_ ?_
      rotate_left
      · rintro w' ⟨s0, s1, s2, s3⟩
        go_simp
        with_reducible rfl
      rotate_left
      · simp only [Act.put, List.setIfInBounds_toArray, List.set_cons_zero, List.set_cons_succ, i64_w, i32_w]
        rfl
      refine take_ (i := 2) (N := some 7) (v := ?_) (a' := ?_) #[true, false, true, false, false] rfl rfl (by kernel_rfl) (fun _ _ _ h => h) (Or.inl ⟨by rfl, ?_⟩) hHeld ?_ ?_
      rotate_left
      · rintro w' ⟨s0, s1, s2, s3⟩
        go_simp
        with_reducible rfl
      rotate_left
      · simp only [Act.put, List.setIfInBounds_toArray, List.set_cons_zero, List.set_cons_succ, i64_w, i32_w]
        rfl
      refine one_ (i := 1) (N := some 6) #[true, true, true, false, false] rfl rfl (by kernel_rfl) (by decide) (fun K hK => ?_)
      refine goes_ Tryz.func51 (by kernel_rfl) rfl #[.agg #[.bool false, .slice A0_1 l0_1.length c0_1]] (by rfl) rfl rfl (by (try simp only [List.map_toArray, List.map_cons, List.map_nil]); first | done | rfl | (simp only [List.length_drop, List.length_take]; rfl)) ?_
      with_reducible refine (spec_Int_Sign.calls false _ _ l0_1 t129 _ ?side1 ?side2 A3.out).mono ?_
      (case side1 => repeat (first | exact (Kd.C_below HR0_1.out HB.out) | (with_reducible refine Kd.C_alloc ?_ _) | (with_reducible refine Kd.C_drewN ?_ _) | (with_reducible refine Kd.C_drew ?_)))
      (case side2 => exact HC0_1.out)
      rintro e w20 ⟨rfl, hb⟩
      refine ⟨_, rfl, ?_⟩
      have n0_ := As.mk (kbw (g := gb127) (o := .cells #[.bool false, .slice A0_1 l0_1.length c0_1] 31 (0, 0)) (by (with_reducible repeat (first | refine kdn ?_ _ | refine kdr ?_ | refine kal ?_ _)); exact BK127.out) hb)
      have n1_ := As.mk (kbw (g := gb128) (o := .cells #[.bool a1_0, .slice A1_1 l1_1.length c1_1] 31 (0, 0)) (by (with_reducible repeat (first | refine kdn ?_ _ | refine kdr ?_ | refine kal ?_ _)); exact BK128.out) hb)
      have n2_ := As.mk (bsp (by repeat (first | (with_reducible first | exact HB.out | apply bal | apply pwn | apply bdw | refine bst ?_ GE127.out | refine bst ?_ GE128.out) | exact HB.out)) hb)
      clear BK127
      clear BK128
      clear HB
      have BK127 := n0_
      have BK128 := n1_
      have HB := n2_
      clear n0_ n1_ n2_
      (try clear hb)
      (try clear hb2)
      (try clear hk)
      (try clear hi)
      refine hK.out _ _ ⟨(kcl BK127.out 0).trans rfl, (kcl BK127.out 1).trans rfl, (kcl BK128.out 0).trans rfl, (kcl BK128.out 1).trans rfl⟩ (fun hHeld => ?_)
      clear hK K
      refine norm_ (a' := ?_) ?_ ?_
      rotate_left
      · show Act.put _ (some 6) _ = _
        simp only [Act.put, List.setIfInBounds_toArray, List.set_cons_zero, List.set_cons_succ, i64_w, i32_w]
        rfl
      refine one_ (i := 3) (N := some 8) #[true, true, true, true, false] rfl rfl (by kernel_rfl) (by decide) (fun K hK => ?_)
      refine goes_ Tryz.func51 (by kernel_rfl) rfl #[.agg #[.bool a1_0, .slice A1_1 l1_1.length c1_1]] (by rfl) rfl rfl (by (try simp only [List.map_toArray, List.map_cons, List.map_nil]); first | done | rfl | (simp only [List.length_drop, List.length_take]; rfl)) ?_
      with_reducible refine (spec_Int_Sign.calls a1_0 _ _ l1_1 t130 _ ?side1 ?side2 A4.out).mono ?_
      (case side1 => repeat (first | exact (Kd.C_below HR1_1.out HB.out) | (with_reducible refine Kd.C_alloc ?_ _) | (with_reducible refine Kd.C_drewN ?_ _) | (with_reducible refine Kd.C_drew ?_)))
      (case side2 => exact HC1_1.out)
      rintro e w21 ⟨rfl, hb⟩
      refine ⟨_, rfl, ?_⟩
      have n0_ := As.mk (kbw (g := gb127) (o := .cells #[.bool false, .slice A0_1 l0_1.length c0_1] 31 (0, 0)) (by (with_reducible repeat (first | refine kdn ?_ _ | refine kdr ?_ | refine kal ?_ _)); exact BK127.out) hb)
      have n1_ := As.mk (kbw (g := gb128) (o := .cells #[.bool a1_0, .slice A1_1 l1_1.length c1_1] 31 (0, 0)) (by (with_reducible repeat (first | refine kdn ?_ _ | refine kdr ?_ | refine kal ?_ _)); exact BK128.out) hb)
      have n2_ := As.mk (bsp (by repeat (first | (with_reducible first | exact HB.out | apply bal | apply pwn | apply bdw | refine bst ?_ GE127.out | refine bst ?_ GE128.out) | exact HB.out)) hb)
      clear BK127
      clear BK128
      clear HB
      have BK127 := n0_
      have BK128 := n1_
      have HB := n2_
      clear n0_ n1_ n2_
      (try clear hb)
      (try clear hb2)
      (try clear hk)
      (try clear hi)
      refine hK.out _ _ ⟨(kcl BK127.out 0).trans rfl, (kcl BK127.out 1).trans rfl, (kcl BK128.out 0).trans rfl, (kcl BK128.out 1).trans rfl⟩ (fun hHeld => ?_)
      clear hK K
      refine norm_ (a' := ?_) ?_ ?_
      rotate_left
      · show Act.put _ (some 8) _ = _
        simp only [Act.put, List.setIfInBounds_toArray, List.set_cons_zero, List.set_cons_succ, i64_w, i32_w]
        rfl
      refine pure_ (i := 4) (N := some 9) (v := ?_) (a' := ?_) #[true, true, true, true, true] rfl rfl (by kernel_rfl) (fun _ _ _ h => h) (Or.inl ⟨by rfl, ?_⟩) ?_ ?_
      rotate_left
      · intro w'
        go_simp
        with_reducible rfl
      rotate_left
      · simp only [Act.put, List.setIfInBounds_toArray, List.set_cons_zero, List.set_cons_succ, i64_w, i32_w]
        rfl
      refine done_ (by kernel_rfl) ?_
      have hnb22 := NB127_128.out
      have hnc22 := NB128_127.out
      have hcz23_0 : w21.cell? ⟨gb127, 0, none⟩ = some (.bool false) := (kcl BK127.out 0).trans rfl
      have hcz23_1 : w21.cell? ⟨gb127, 1, none⟩ = some (.slice A0_1 l0_1.length c0_1) := (kcl BK127.out 1).trans rfl
      have hfz23_0 := kfz BK127.out 0
      have hfz23_1 := kfz BK127.out 1
      have hcz24_0 : w21.cell? ⟨gb128, 0, none⟩ = some (.bool a1_0) := (kcl BK128.out 0).trans rfl
      have hcz24_1 : w21.cell? ⟨gb128, 1, none⟩ = some (.slice A1_1 l1_1.length c1_1) := (kcl BK128.out 1).trans rfl
      have hfz24_0 := kfz BK128.out 0
      have hfz24_1 := kfz BK128.out 1
      try go_wp2_with (first | ((with_reducible refine gate_callee (f := 52) rfl ?_); refine goesL_ (some 26) rfl rfl Tryz.func52 (by kernel_rfl) rfl #[.slice A0_1 l0_1.length c0_1, .slice A1_1 l1_1.length c1_1] rfl (by (try simp only [List.map_toArray, List.map_cons, List.map_nil]); first | done | rfl | (simp only [List.length_drop, List.length_take]; rfl)) ?_; (with_reducible refine (spec_order.calls k _ _ l0_1 _ _ l1_1 t134 _ ?side1 ?side2 ?side3 ?side4 A16.out).mono ?_); (case side1 => repeat (first | exact (Kd.C_below HR0_1.out HB.out) | (with_reducible refine Kd.C_alloc ?_ _) | (with_reducible refine Kd.C_drewN ?_ _) | (with_reducible refine Kd.C_drew ?_))); (case side2 => exact HC0_1.out); (case side3 => repeat (first | exact (Kd.C_below HR1_1.out HB.out) | (with_reducible refine Kd.C_alloc ?_ _) | (with_reducible refine Kd.C_drewN ?_ _) | (with_reducible refine Kd.C_drew ?_))); (case side4 => exact HC1_1.out); rintro e w' ⟨rfl, ⟨nd, rfl⟩⟩; refine ⟨_, rfl, ?_⟩))
      go_ret
      exact ⟨by first | rfl | (simp [errW_none, errW_some] <;> rfl) | (simp [*, errW_none, errW_some] <;> rfl), by repeat (first | (with_reducible first | exact HB.out | apply bal | apply pwn | apply bdw | refine bst ?_ GE127.out | refine bst ?_ GE128.out) | exact HB.out)⟩
  · rw [if_neg c5] at H
    have c5b0 : (t129 == t130) = false := beq_eq_false_iff_ne.mpr c5
    have c5b1 : (t129 != t130) = true := bne_iff_ne.mpr c5
    replace H := Option.bind_eq_some_iff.mp H
    obtain ⟨t131, A250, H⟩ := H
    replace H : ((spec_Int_Sign.f a1_0 l1_1).bind fun t132 => (if t131 < t132 then (some (-1)) else (some 1))) = some r := H
    have A25 := As.mk A250
    clear A250
    replace H := Option.bind_eq_some_iff.mp H
    obtain ⟨t132, A260, H⟩ := H
    replace H : (if t131 < t132 then (some (-1)) else (some 1)) = some r := H
    have A26 := As.mk A260
    clear A260
    by_cases c27 : t131 < t132
    · rw [if_pos c27] at H
      have c27b0 : decide (t131 < t132) = true := decide_eq_true c27
      clear c27
      obtain rfl := Option.some.inj H
      go_enter Tryz.func26, Tryz.ntmps26
      try go_wp2_with (first | ((with_reducible refine gate_dst (N := 2) rfl ?_); refine box_event ?hg (N := 2) ?hd (cs := #[.bool a0_0, .slice A0_1 l0_1.length c0_1]) (t := 31) ?hr ?_; (case hd => rfl); (case hg => rfl); (case hr => first | (go_simp; done) | (go_simp; rfl)); intro gb127 hg w28 hbox hb; have n0_ := As.mk (bsp (by repeat (first | (with_reducible first | exact HB.out | apply bal | apply pwn | apply bdw) | exact HB.out)) hb); have n1_ := As.mk (hbox); have n2_ := As.mk ((by rw [hg]; exact (bsz (by repeat (first | (with_reducible first | exact HB.out | apply bal | apply pwn | apply bdw) | exact HB.out))) : w.heap.size ≤ gb127)); have n3_ := As.mk ((by rw [hg]; exact (bsz (by repeat (first | (with_reducible first | exact HB.out | apply bal | apply pwn | apply bdw) | exact HB.out))) : w.heap.size ≤ gb127)); clear HB; have HB := n0_; have BK127 := n1_; have GW127 := n2_; have GE127 := n3_; clear n0_ n1_ n2_ n3_; clear hb hbox hg) | ((with_reducible refine gate_dst (N := 3) rfl ?_); refine box_event ?hg (N := 3) ?hd (cs := #[.bool a1_0, .slice A1_1 l1_1.length c1_1]) (t := 31) ?hr ?_; (case hd => rfl); (case hg => rfl); (case hr => first | (go_simp; done) | (go_simp; rfl)); intro gb128 hg w29 hbox hb; have n0_ := As.mk (kbw (g := gb127) (o := .cells #[.bool a0_0, .slice A0_1 l0_1.length c0_1] 31 (0, 0)) (by (with_reducible repeat (first | refine kdn ?_ _ | refine kdr ?_ | refine kal ?_ _)); exact BK127.out) hb); have n1_ := As.mk (bsp (by repeat (first | (with_reducible first | exact HB.out | apply bal | apply pwn | apply bdw | refine bst ?_ GE127.out) | exact HB.out)) hb); have n2_ := As.mk (hbox); have n3_ := As.mk ((by rw [hg]; exact (bsz (by repeat (first | (with_reducible first | exact HB.out | apply bal | apply pwn | apply bdw | refine bst ?_ GE127.out) | exact HB.out))) : w.heap.size ≤ gb128)); have n4_ := As.mk ((by rw [hg]; exact (bsz (by repeat (first | (with_reducible first | exact HB.out | apply bal | apply pwn | apply bdw | refine bst ?_ GE127.out) | exact HB.out))) : w.heap.size ≤ gb128)); have n5_ := As.mk ((by rw [hg]; exact Nat.ne_of_lt (blk_lt (g := gb127) (o := .cells #[.bool a0_0, .slice A0_1 l0_1.length c0_1] 31 (0, 0)) (by (with_reducible repeat (first | refine kdn ?_ _ | refine kdr ?_ | refine kal ?_ _)); exact BK127.out)) : gb127 ≠ gb128)); have n6_ := As.mk ((by rw [hg]; exact Nat.ne_of_gt (blk_lt (g := gb127) (o := .cells #[.bool a0_0, .slice A0_1 l0_1.length c0_1] 31 (0, 0)) (by (with_reducible repeat (first | refine kdn ?_ _ | refine kdr ?_ | refine kal ?_ _)); exact BK127.out)) : gb128 ≠ gb127)); clear BK127; clear HB; have BK127 := n0_; have HB := n1_; have BK128 := n2_; have GW128 := n3_; have GE128 := n4_; have NB127_128 := n5_; have NB128_127 := n6_; clear n0_ n1_ n2_ n3_ n4_ n5_ n6_; clear hb hbox hg))
      have n0_ := As.mk (kdr BK127.out)
      have n1_ := As.mk (kdr BK128.out)
      have n2_ := As.mk (bdw HB.out)
      clear BK127
      clear BK128
      clear HB
      have BK127 := n0_
      have BK128 := n1_
      have HB := n2_
      clear n0_ n1_ n2_
      refine start_ (n := 5) (S := fun w' => w'.cell? ⟨gb127, 0, none⟩ = some (.bool a0_0) ∧ w'.cell? ⟨gb127, 1, none⟩ = some (.slice A0_1 l0_1.length c0_1) ∧ w'.cell? ⟨gb128, 0, none⟩ = some (.bool a1_0) ∧ w'.cell? ⟨gb128, 1, none⟩ = some (.slice A1_1 l1_1.length c1_1)) (ds := []) #[false, false, false, false, false] (by kernel_rfl) rfl rfl ⟨(kcl BK127.out 0).trans rfl, (kcl BK127.out 1).trans rfl, (kcl BK128.out 0).trans rfl, (kcl BK128.out 1).trans rfl⟩ (fun hHeld => ?_)
      generalize w29.drew = w30 at BK127 BK128 HB hHeld ⊢
      refine take_ (i := 0) (N := some 5) (v := ?_) (a' := ?_) #[true, false, false, false, false] rfl rfl (by kernel_rfl) (fun _ _ _ h => h) (Or.inl ⟨by rfl, ?_⟩) hHeld ?_ ?_
      rotate_left
      · rintro w' ⟨s0, s1, s2, s3⟩
        go_simp
        with_reducible rfl
      rotate_left
      · simp only [Act.put, List.setIfInBounds_toArray, List.set_cons_zero, List.set_cons_succ, i64_w, i32_w]
        rfl
      refine take_ (i := 2) (N := some 7) (v := ?_) (a' := ?_) #[true, false, true, false, false] rfl rfl (by kernel_rfl) (fun _ _ _ h => h) (Or.inl ⟨by rfl, ?_⟩) hHeld ?_ ?_
      rotate_left
      · rintro w' ⟨s0, s1, s2, s3⟩
        go_simp
        with_reducible rfl
      rotate_left
      · simp only [Act.put, List.setIfInBounds_toArray, List.set_cons_zero, List.set_cons_succ, i64_w, i32_w]
        rfl
      refine one_ (i := 1) (N := some 6) #[true, true, true, false, false] rfl rfl (by kernel_rfl) (by decide) (fun K hK => ?_)
      refine goes_ Tryz.func51 (by kernel_rfl) rfl #[.agg #[.bool a0_0, .slice A0_1 l0_1.length c0_1]] (by rfl) rfl rfl (by (try simp only [List.map_toArray, List.map_cons, List.map_nil]); first | done | rfl | (simp only [List.length_drop, List.length_take]; rfl)) ?_
      with_reducible refine (spec_Int_Sign.calls a0_0 _ _ l0_1 t129 _ ?side1 ?side2 A3.out).mono ?_
      (case side1 => repeat (first | exact (Kd.C_below HR0_1.out HB.out) | (with_reducible refine Kd.C_alloc ?_ _) | (with_reducible refine Kd.C_drewN ?_ _) | (with_reducible refine Kd.C_drew ?_)))
      (case side2 => exact HC0_1.out)
      rintro e w31 ⟨rfl, hb⟩
      refine ⟨_, rfl, ?_⟩
      have n0_ := As.mk (kbw (g := gb127) (o := .cells #[.bool a0_0, .slice A0_1 l0_1.length c0_1] 31 (0, 0)) (by (with_reducible repeat (first | refine kdn ?_ _ | refine kdr ?_ | refine kal ?_ _)); exact BK127.out) hb)
      have n1_ := As.mk (kbw (g := gb128) (o := .cells #[.bool a1_0, .slice A1_1 l1_1.length c1_1] 31 (0, 0)) (by (with_reducible repeat (first | refine kdn ?_ _ | refine kdr ?_ | refine kal ?_ _)); exact BK128.out) hb)
      have n2_ := As.mk (bsp (by repeat (first | (with_reducible first | exact HB.out | apply bal | apply pwn | apply bdw | refine bst ?_ GE127.out | refine bst ?_ GE128.out) | exact HB.out)) hb)
      clear BK127
      clear BK128
      clear HB
      have BK127 := n0_
      have BK128 := n1_
      have HB := n2_
      clear n0_ n1_ n2_
      (try clear hb)
      (try clear hb2)
      (try clear hk)
      (try clear hi)
      refine hK.out _ _ ⟨(kcl BK127.out 0).trans rfl, (kcl BK127.out 1).trans rfl, (kcl BK128.out 0).trans rfl, (kcl BK128.out 1).trans rfl⟩ (fun hHeld => ?_)
      clear hK K
      refine norm_ (a' := ?_) ?_ ?_
      rotate_left
      · show Act.put _ (some 6) _ = _
        simp only [Act.put, List.setIfInBounds_toArray, List.set_cons_zero, List.set_cons_succ, i64_w, i32_w]
        rfl
      refine one_ (i := 3) (N := some 8) #[true, true, true, true, false] rfl rfl (by kernel_rfl) (by decide) (fun K hK => ?_)
      refine goes_ Tryz.func51 (by kernel_rfl) rfl #[.agg #[.bool a1_0, .slice A1_1 l1_1.length c1_1]] (by rfl) rfl rfl (by (try simp only [List.map_toArray, List.map_cons, List.map_nil]); first | done | rfl | (simp only [List.length_drop, List.length_take]; rfl)) ?_
      with_reducible refine (spec_Int_Sign.calls a1_0 _ _ l1_1 t130 _ ?side1 ?side2 A4.out).mono ?_
      (case side1 => repeat (first | exact (Kd.C_below HR1_1.out HB.out) | (with_reducible refine Kd.C_alloc ?_ _) | (with_reducible refine Kd.C_drewN ?_ _) | (with_reducible refine Kd.C_drew ?_)))
      (case side2 => exact HC1_1.out)
      rintro e w32 ⟨rfl, hb⟩
      refine ⟨_, rfl, ?_⟩
      have n0_ := As.mk (kbw (g := gb127) (o := .cells #[.bool a0_0, .slice A0_1 l0_1.length c0_1] 31 (0, 0)) (by (with_reducible repeat (first | refine kdn ?_ _ | refine kdr ?_ | refine kal ?_ _)); exact BK127.out) hb)
      have n1_ := As.mk (kbw (g := gb128) (o := .cells #[.bool a1_0, .slice A1_1 l1_1.length c1_1] 31 (0, 0)) (by (with_reducible repeat (first | refine kdn ?_ _ | refine kdr ?_ | refine kal ?_ _)); exact BK128.out) hb)
      have n2_ := As.mk (bsp (by repeat (first | (with_reducible first | exact HB.out | apply bal | apply pwn | apply bdw | refine bst ?_ GE127.out | refine bst ?_ GE128.out) | exact HB.out)) hb)
      clear BK127
      clear BK128
      clear HB
      have BK127 := n0_
      have BK128 := n1_
      have HB := n2_
      clear n0_ n1_ n2_
      (try clear hb)
      (try clear hb2)
      (try clear hk)
      (try clear hi)
      refine hK.out _ _ ⟨(kcl BK127.out 0).trans rfl, (kcl BK127.out 1).trans rfl, (kcl BK128.out 0).trans rfl, (kcl BK128.out 1).trans rfl⟩ (fun hHeld => ?_)
      clear hK K
      refine norm_ (a' := ?_) ?_ ?_
      rotate_left
      · show Act.put _ (some 8) _ = _
        simp only [Act.put, List.setIfInBounds_toArray, List.set_cons_zero, List.set_cons_succ, i64_w, i32_w]
        rfl
      refine pure_ (i := 4) (N := some 9) (v := ?_) (a' := ?_) #[true, true, true, true, true] rfl rfl (by kernel_rfl) (fun _ _ _ h => h) (Or.inl ⟨by rfl, ?_⟩) ?_ ?_
      rotate_left
      · intro w'
        go_simp
        with_reducible rfl
      rotate_left
      · simp only [Act.put, List.setIfInBounds_toArray, List.set_cons_zero, List.set_cons_succ, i64_w, i32_w]
        rfl
      refine done_ (by kernel_rfl) ?_
      try go_wp2
      have n0_ := As.mk (kdr BK127.out)
      have n1_ := As.mk (kdr BK128.out)
      have n2_ := As.mk (bdw HB.out)
      clear BK127
      clear BK128
      clear HB
      have BK127 := n0_
      have BK128 := n1_
      have HB := n2_
      clear n0_ n1_ n2_
      refine start_ (n := 5) (S := fun w' => w'.cell? ⟨gb127, 0, none⟩ = some (.bool a0_0) ∧ w'.cell? ⟨gb127, 1, none⟩ = some (.slice A0_1 l0_1.length c0_1) ∧ w'.cell? ⟨gb128, 0, none⟩ = some (.bool a1_0) ∧ w'.cell? ⟨gb128, 1, none⟩ = some (.slice A1_1 l1_1.length c1_1)) (ds := []) #[false, false, false, false, false] (by kernel_rfl) rfl rfl ⟨(kcl BK127.out 0).trans rfl, (kcl BK127.out 1).trans rfl, (kcl BK128.out 0).trans rfl, (kcl BK128.out 1).trans rfl⟩ (fun hHeld => ?_)
      generalize w32.drew = w33 at BK127 BK128 HB hHeld ⊢
      refine take_ (i := 0) (N := some 10) (v := ?_) (a' := ?_) #[true, false, false, false, false] rfl rfl (by kernel_rfl) (fun _ _ _ h => h) (Or.inl ⟨by rfl, ?_⟩) hHeld ?_ ?_
      rotate_left
      · rintro w' ⟨s0, s1, s2, s3⟩
        go_simp
        with_reducible rfl
      rotate_left
      · simp only [Act.put, List.setIfInBounds_toArray, List.set_cons_zero, List.set_cons_succ, i64_w, i32_w]
        rfl
      refine take_ (i := 2) (N := some 12) (v := ?_) (a' := ?_) #[true, false, true, false, false] rfl rfl (by kernel_rfl) (fun _ _ _ h => h) (Or.inl ⟨by rfl, ?_⟩) hHeld ?_ ?_
      rotate_left
      · rintro w' ⟨s0, s1, s2, s3⟩
        go_simp
        with_reducible rfl
      rotate_left
      · simp only [Act.put, List.setIfInBounds_toArray, List.set_cons_zero, List.set_cons_succ, i64_w, i32_w]
        rfl
      refine one_ (i := 1) (N := some 11) #[true, true, true, false, false] rfl rfl (by kernel_rfl) (by decide) (fun K hK => ?_)
      refine goes_ Tryz.func51 (by kernel_rfl) rfl #[.agg #[.bool a0_0, .slice A0_1 l0_1.length c0_1]] (by rfl) rfl rfl (by (try simp only [List.map_toArray, List.map_cons, List.map_nil]); first | done | rfl | (simp only [List.length_drop, List.length_take]; rfl)) ?_
      with_reducible refine (spec_Int_Sign.calls a0_0 _ _ l0_1 t131 _ ?side1 ?side2 A25.out).mono ?_
      (case side1 => repeat (first | exact (Kd.C_below HR0_1.out HB.out) | (with_reducible refine Kd.C_alloc ?_ _) | (with_reducible refine Kd.C_drewN ?_ _) | (with_reducible refine Kd.C_drew ?_)))
      (case side2 => exact HC0_1.out)
      rintro e w34 ⟨rfl, hb⟩
      refine ⟨_, rfl, ?_⟩
      have n0_ := As.mk (kbw (g := gb127) (o := .cells #[.bool a0_0, .slice A0_1 l0_1.length c0_1] 31 (0, 0)) (by (with_reducible repeat (first | refine kdn ?_ _ | refine kdr ?_ | refine kal ?_ _)); exact BK127.out) hb)
      have n1_ := As.mk (kbw (g := gb128) (o := .cells #[.bool a1_0, .slice A1_1 l1_1.length c1_1] 31 (0, 0)) (by (with_reducible repeat (first | refine kdn ?_ _ | refine kdr ?_ | refine kal ?_ _)); exact BK128.out) hb)
      have n2_ := As.mk (bsp (by repeat (first | (with_reducible first | exact HB.out | apply bal | apply pwn | apply bdw | refine bst ?_ GE127.out | refine bst ?_ GE128.out) | exact HB.out)) hb)
      clear BK127
      clear BK128
      clear HB
      have BK127 := n0_
      have BK128 := n1_
      have HB := n2_
      clear n0_ n1_ n2_
      (try clear hb)
      (try clear hb2)
      (try clear hk)
      (try clear hi)
      refine hK.out _ _ ⟨(kcl BK127.out 0).trans rfl, (kcl BK127.out 1).trans rfl, (kcl BK128.out 0).trans rfl, (kcl BK128.out 1).trans rfl⟩ (fun hHeld => ?_)
      clear hK K
      refine norm_ (a' := ?_) ?_ ?_
      rotate_left
      · show Act.put _ (some 11) _ = _
        simp only [Act.put, List.setIfInBounds_toArray, List.set_cons_zero, List.set_cons_succ, i64_w, i32_w]
        rfl
      refine one_ (i := 3) (N := some 13) #[true, true, true, true, false] rfl rfl (by kernel_rfl) (by decide) (fun K hK => ?_)
      refine goes_ Tryz.func51 (by kernel_rfl) rfl #[.agg #[.bool a1_0, .slice A1_1 l1_1.length c1_1]] (by rfl) rfl rfl (by (try simp only [List.map_toArray, List.map_cons, List.map_nil]); first | done | rfl | (simp only [List.length_drop, List.length_take]; rfl)) ?_
      with_reducible refine (spec_Int_Sign.calls a1_0 _ _ l1_1 t132 _ ?side1 ?side2 A26.out).mono ?_
      (case side1 => repeat (first | exact (Kd.C_below HR1_1.out HB.out) | (with_reducible refine Kd.C_alloc ?_ _) | (with_reducible refine Kd.C_drewN ?_ _) | (with_reducible refine Kd.C_drew ?_)))
      (case side2 => exact HC1_1.out)
      rintro e w35 ⟨rfl, hb⟩
      refine ⟨_, rfl, ?_⟩
      have n0_ := As.mk (kbw (g := gb127) (o := .cells #[.bool a0_0, .slice A0_1 l0_1.length c0_1] 31 (0, 0)) (by (with_reducible repeat (first | refine kdn ?_ _ | refine kdr ?_ | refine kal ?_ _)); exact BK127.out) hb)
      have n1_ := As.mk (kbw (g := gb128) (o := .cells #[.bool a1_0, .slice A1_1 l1_1.length c1_1] 31 (0, 0)) (by (with_reducible repeat (first | refine kdn ?_ _ | refine kdr ?_ | refine kal ?_ _)); exact BK128.out) hb)
      have n2_ := As.mk (bsp (by repeat (first | (with_reducible first | exact HB.out | apply bal | apply pwn | apply bdw | refine bst ?_ GE127.out | refine bst ?_ GE128.out) | exact HB.out)) hb)
      clear BK127
      clear BK128
      clear HB
      have BK127 := n0_
      have BK128 := n1_
      have HB := n2_
      clear n0_ n1_ n2_
      (try clear hb)
      (try clear hb2)
      (try clear hk)
      (try clear hi)
      refine hK.out _ _ ⟨(kcl BK127.out 0).trans rfl, (kcl BK127.out 1).trans rfl, (kcl BK128.out 0).trans rfl, (kcl BK128.out 1).trans rfl⟩ (fun hHeld => ?_)
      clear hK K
      refine norm_ (a' := ?_) ?_ ?_
      rotate_left
      · show Act.put _ (some 13) _ = _
        simp only [Act.put, List.setIfInBounds_toArray, List.set_cons_zero, List.set_cons_succ, i64_w, i32_w]
        rfl
      refine pure_ (i := 4) (N := some 14) (v := ?_) (a' := ?_) #[true, true, true, true, true] rfl rfl (by kernel_rfl) (fun _ _ _ h => h) (Or.inl ⟨by rfl, ?_⟩) ?_ ?_
      rotate_left
      · intro w'
        go_simp
        with_reducible rfl
      rotate_left
      · simp only [Act.put, List.setIfInBounds_toArray, List.set_cons_zero, List.set_cons_succ, i64_w, i32_w]
        rfl
      refine done_ (by kernel_rfl) ?_
      try go_wp2
      go_ret
      exact ⟨by first | rfl | (simp [errW_none, errW_some] <;> rfl) | (simp [*, errW_none, errW_some] <;> rfl), by repeat (first | (with_reducible first | exact HB.out | apply bal | apply pwn | apply bdw | refine bst ?_ GE127.out | refine bst ?_ GE128.out) | exact HB.out)⟩
    · rw [if_neg c27] at H
      have c27b0 : decide (t131 < t132) = false := decide_eq_false c27
      clear c27
      obtain rfl := Option.some.inj H
      go_enter Tryz.func26, Tryz.ntmps26
      try go_wp2_with (first | ((with_reducible refine gate_dst (N := 2) rfl ?_); refine box_event ?hg (N := 2) ?hd (cs := #[.bool a0_0, .slice A0_1 l0_1.length c0_1]) (t := 31) ?hr ?_; (case hd => rfl); (case hg => rfl); (case hr => first | (go_simp; done) | (go_simp; rfl)); intro gb127 hg w36 hbox hb; have n0_ := As.mk (bsp (by repeat (first | (with_reducible first | exact HB.out | apply bal | apply pwn | apply bdw) | exact HB.out)) hb); have n1_ := As.mk (hbox); have n2_ := As.mk ((by rw [hg]; exact (bsz (by repeat (first | (with_reducible first | exact HB.out | apply bal | apply pwn | apply bdw) | exact HB.out))) : w.heap.size ≤ gb127)); have n3_ := As.mk ((by rw [hg]; exact (bsz (by repeat (first | (with_reducible first | exact HB.out | apply bal | apply pwn | apply bdw) | exact HB.out))) : w.heap.size ≤ gb127)); clear HB; have HB := n0_; have BK127 := n1_; have GW127 := n2_; have GE127 := n3_; clear n0_ n1_ n2_ n3_; clear hb hbox hg) | ((with_reducible refine gate_dst (N := 3) rfl ?_); refine box_event ?hg (N := 3) ?hd (cs := #[.bool a1_0, .slice A1_1 l1_1.length c1_1]) (t := 31) ?hr ?_; (case hd => rfl); (case hg => rfl); (case hr => first | (go_simp; done) | (go_simp; rfl)); intro gb128 hg w37 hbox hb; have n0_ := As.mk (kbw (g := gb127) (o := .cells #[.bool a0_0, .slice A0_1 l0_1.length c0_1] 31 (0, 0)) (by (with_reducible repeat (first | refine kdn ?_ _ | refine kdr ?_ | refine kal ?_ _)); exact BK127.out) hb); have n1_ := As.mk (bsp (by repeat (first | (with_reducible first | exact HB.out | apply bal | apply pwn | apply bdw | refine bst ?_ GE127.out) | exact HB.out)) hb); have n2_ := As.mk (hbox); have n3_ := As.mk ((by rw [hg]; exact (bsz (by repeat (first | (with_reducible first | exact HB.out | apply bal | apply pwn | apply bdw | refine bst ?_ GE127.out) | exact HB.out))) : w.heap.size ≤ gb128)); have n4_ := As.mk ((by rw [hg]; exact (bsz (by repeat (first | (with_reducible first | exact HB.out | apply bal | apply pwn | apply bdw | refine bst ?_ GE127.out) | exact HB.out))) : w.heap.size ≤ gb128)); have n5_ := As.mk ((by rw [hg]; exact Nat.ne_of_lt (blk_lt (g := gb127) (o := .cells #[.bool a0_0, .slice A0_1 l0_1.length c0_1] 31 (0, 0)) (by (with_reducible repeat (first | refine kdn ?_ _ | refine kdr ?_ | refine kal ?_ _)); exact BK127.out)) : gb127 ≠ gb128)); have n6_ := As.mk ((by rw [hg]; exact Nat.ne_of_gt (blk_lt (g := gb127) (o := .cells #[.bool a0_0, .slice A0_1 l0_1.length c0_1] 31 (0, 0)) (by (with_reducible repeat (first | refine kdn ?_ _ | refine kdr ?_ | refine kal ?_ _)); exact BK127.out)) : gb128 ≠ gb127)); clear BK127; clear HB; have BK127 := n0_; have HB := n1_; have BK128 := n2_; have GW128 := n3_; have GE128 := n4_; have NB127_128 := n5_; have NB128_127 := n6_; clear n0_ n1_ n2_ n3_ n4_ n5_ n6_; clear hb hbox hg))
      have n0_ := As.mk (kdr BK127.out)
      have n1_ := As.mk (kdr BK128.out)
      have n2_ := As.mk (bdw HB.out)
      clear BK127
      clear BK128
      clear HB
      have BK127 := n0_
      have BK128 := n1_
      have HB := n2_
      clear n0_ n1_ n2_
      refine start_ (n := 5) (S := fun w' => w'.cell? ⟨gb127, 0, none⟩ = some (.bool a0_0) ∧ w'.cell? ⟨gb127, 1, none⟩ = some (.slice A0_1 l0_1.length c0_1) ∧ w'.cell? ⟨gb128, 0, none⟩ = some (.bool a1_0) ∧ w'.cell? ⟨gb128, 1, none⟩ = some (.slice A1_1 l1_1.length c1_1)) (ds := []) #[false, false, false, false, false] (by kernel_rfl) rfl rfl ⟨(kcl BK127.out 0).trans rfl, (kcl BK127.out 1).trans rfl, (kcl BK128.out 0).trans rfl, (kcl BK128.out 1).trans rfl⟩ (fun hHeld => ?_)
      generalize w37.drew = w38 at BK127 BK128 HB hHeld ⊢
      refine take_ (i := 0) (N := some 5) (v := ?_) (a' := ?_) #[true, false, false, false, false] rfl rfl (by kernel_rfl) (fun _ _ _ h => h) (Or.inl ⟨by rfl, ?_⟩) hHeld ?_ ?_
      rotate_left
      · rintro w' ⟨s0, s1, s2, s3⟩
        go_simp
        with_reducible rfl
      rotate_left
      · simp only [Act.put, List.setIfInBounds_toArray, List.set_cons_zero, List.set_cons_succ, i64_w, i32_w]
        rfl
      refine take_ (i := 2) (N := some 7) (v := ?_) (a' := ?_) #[true, false, true, false, false] rfl rfl (by kernel_rfl) (fun _ _ _ h => h) (Or.inl ⟨by rfl, ?_⟩) hHeld ?_ ?_
      rotate_left
      · rintro w' ⟨s0, s1, s2, s3⟩
        go_simp
        with_reducible rfl
      rotate_left
      · simp only [Act.put, List.setIfInBounds_toArray, List.set_cons_zero, List.set_cons_succ, i64_w, i32_w]
        rfl
      refine one_ (i := 1) (N := some 6) #[true, true, true, false, false] rfl rfl (by kernel_rfl) (by decide) (fun K hK => ?_)
      refine goes_ Tryz.func51 (by kernel_rfl) rfl #[.agg #[.bool a0_0, .slice A0_1 l0_1.length c0_1]] (by rfl) rfl rfl (by (try simp only [List.map_toArray, List.map_cons, List.map_nil]); first | done | rfl | (simp only [List.length_drop, List.length_take]; rfl)) ?_
      with_reducible refine (spec_Int_Sign.calls a0_0 _ _ l0_1 t129 _ ?side1 ?side2 A3.out).mono ?_
      (case side1 => repeat (first | exact (Kd.C_below HR0_1.out HB.out) | (with_reducible refine Kd.C_alloc ?_ _) | (with_reducible refine Kd.C_drewN ?_ _) | (with_reducible refine Kd.C_drew ?_)))
      (case side2 => exact HC0_1.out)
      rintro e w39 ⟨rfl, hb⟩
      refine ⟨_, rfl, ?_⟩
      have n0_ := As.mk (kbw (g := gb127) (o := .cells #[.bool a0_0, .slice A0_1 l0_1.length c0_1] 31 (0, 0)) (by (with_reducible repeat (first | refine kdn ?_ _ | refine kdr ?_ | refine kal ?_ _)); exact BK127.out) hb)
      have n1_ := As.mk (kbw (g := gb128) (o := .cells #[.bool a1_0, .slice A1_1 l1_1.length c1_1] 31 (0, 0)) (by (with_reducible repeat (first | refine kdn ?_ _ | refine kdr ?_ | refine kal ?_ _)); exact BK128.out) hb)
      have n2_ := As.mk (bsp (by repeat (first | (with_reducible first | exact HB.out | apply bal | apply pwn | apply bdw | refine bst ?_ GE127.out | refine bst ?_ GE128.out) | exact HB.out)) hb)
      clear BK127
      clear BK128
      clear HB
      have BK127 := n0_
      have BK128 := n1_
      have HB := n2_
      clear n0_ n1_ n2_
      (try clear hb)
      (try clear hb2)
      (try clear hk)
      (try clear hi)
      refine hK.out _ _ ⟨(kcl BK127.out 0).trans rfl, (kcl BK127.out 1).trans rfl, (kcl BK128.out 0).trans rfl, (kcl BK128.out 1).trans rfl⟩ (fun hHeld => ?_)
      clear hK K
      refine norm_ (a' := ?_) ?_ ?_
      rotate_left
      · show Act.put _ (some 6) _ = _
        simp only [Act.put, List.setIfInBounds_toArray, List.set_cons_zero, List.set_cons_succ, i64_w, i32_w]
        rfl
      refine one_ (i := 3) (N := some 8) #[true, true, true, true, false] rfl rfl (by kernel_rfl) (by decide) (fun K hK => ?_)
      refine goes_ Tryz.func51 (by kernel_rfl) rfl #[.agg #[.bool a1_0, .slice A1_1 l1_1.length c1_1]] (by rfl) rfl rfl (by (try simp only [List.map_toArray, List.map_cons, List.map_nil]); first | done | rfl | (simp only [List.length_drop, List.length_take]; rfl)) ?_
      with_reducible refine (spec_Int_Sign.calls a1_0 _ _ l1_1 t130 _ ?side1 ?side2 A4.out).mono ?_
      (case side1 => repeat (first | exact (Kd.C_below HR1_1.out HB.out) | (with_reducible refine Kd.C_alloc ?_ _) | (with_reducible refine Kd.C_drewN ?_ _) | (with_reducible refine Kd.C_drew ?_)))
      (case side2 => exact HC1_1.out)
      rintro e w40 ⟨rfl, hb⟩
      refine ⟨_, rfl, ?_⟩
      have n0_ := As.mk (kbw (g := gb127) (o := .cells #[.bool a0_0, .slice A0_1 l0_1.length c0_1] 31 (0, 0)) (by (with_reducible repeat (first | refine kdn ?_ _ | refine kdr ?_ | refine kal ?_ _)); exact BK127.out) hb)
      have n1_ := As.mk (kbw (g := gb128) (o := .cells #[.bool a1_0, .slice A1_1 l1_1.length c1_1] 31 (0, 0)) (by (with_reducible repeat (first | refine kdn ?_ _ | refine kdr ?_ | refine kal ?_ _)); exact BK128.out) hb)
      have n2_ := As.mk (bsp (by repeat (first | (with_reducible first | exact HB.out | apply bal | apply pwn | apply bdw | refine bst ?_ GE127.out | refine bst ?_ GE128.out) | exact HB.out)) hb)
      clear BK127
      clear BK128
      clear HB
      have BK127 := n0_
      have BK128 := n1_
      have HB := n2_
      clear n0_ n1_ n2_
      (try clear hb)
      (try clear hb2)
      (try clear hk)
      (try clear hi)
      refine hK.out _ _ ⟨(kcl BK127.out 0).trans rfl, (kcl BK127.out 1).trans rfl, (kcl BK128.out 0).trans rfl, (kcl BK128.out 1).trans rfl⟩ (fun hHeld => ?_)
      clear hK K
      refine norm_ (a' := ?_) ?_ ?_
      rotate_left
      · show Act.put _ (some 8) _ = _
        simp only [Act.put, List.setIfInBounds_toArray, List.set_cons_zero, List.set_cons_succ, i64_w, i32_w]
        rfl
      refine pure_ (i := 4) (N := some 9) (v := ?_) (a' := ?_) #[true, true, true, true, true] rfl rfl (by kernel_rfl) (fun _ _ _ h => h) (Or.inl ⟨by rfl, ?_⟩) ?_ ?_
      rotate_left
      · intro w'
        go_simp
        with_reducible rfl
      rotate_left
      · simp only [Act.put, List.setIfInBounds_toArray, List.set_cons_zero, List.set_cons_succ, i64_w, i32_w]
        rfl
      refine done_ (by kernel_rfl) ?_
      try go_wp2
      have n0_ := As.mk (kdr BK127.out)
      have n1_ := As.mk (kdr BK128.out)
      have n2_ := As.mk (bdw HB.out)
      clear BK127
      clear BK128
      clear HB
      have BK127 := n0_
      have BK128 := n1_
      have HB := n2_
      clear n0_ n1_ n2_
      refine start_ (n := 5) (S := fun w' => w'.cell? ⟨gb127, 0, none⟩ = some (.bool a0_0) ∧ w'.cell? ⟨gb127, 1, none⟩ = some (.slice A0_1 l0_1.length c0_1) ∧ w'.cell? ⟨gb128, 0, none⟩ = some (.bool a1_0) ∧ w'.cell? ⟨gb128, 1, none⟩ = some (.slice A1_1 l1_1.length c1_1)) (ds := []) #[false, false, false, false, false] (by kernel_rfl) rfl rfl ⟨(kcl BK127.out 0).trans rfl, (kcl BK127.out 1).trans rfl, (kcl BK128.out 0).trans rfl, (kcl BK128.out 1).trans rfl⟩ (fun hHeld => ?_)
      generalize w40.drew = w41 at BK127 BK128 HB hHeld ⊢
      refine take_ (i := 0) (N := some 10) (v := ?_) (a' := ?_) #[true, false, false, false, false] rfl rfl (by kernel_rfl) (fun _ _ _ h => h) (Or.inl ⟨by rfl, ?_⟩) hHeld ?_ ?_
      rotate_left
      · rintro w' ⟨s0, s1, s2, s3⟩
        go_simp
        with_reducible rfl
      rotate_left
      · simp only [Act.put, List.setIfInBounds_toArray, List.set_cons_zero, List.set_cons_succ, i64_w, i32_w]
        rfl
      refine take_ (i := 2) (N := some 12) (v := ?_) (a' := ?_) #[true, false, true, false, false] rfl rfl (by kernel_rfl) (fun _ _ _ h => h) (Or.inl ⟨by rfl, ?_⟩) hHeld ?_ ?_
      rotate_left
      · rintro w' ⟨s0, s1, s2, s3⟩
        go_simp
        with_reducible rfl
      rotate_left
      · simp only [Act.put, List.setIfInBounds_toArray, List.set_cons_zero, List.set_cons_succ, i64_w, i32_w]
        rfl
      refine one_ (i := 1) (N := some 11) #[true, true, true, false, false] rfl rfl (by kernel_rfl) (by decide) (fun K hK => ?_)
      refine goes_ Tryz.func51 (by kernel_rfl) rfl #[.agg #[.bool a0_0, .slice A0_1 l0_1.length c0_1]] (by rfl) rfl rfl (by (try simp only [List.map_toArray, List.map_cons, List.map_nil]); first | done | rfl | (simp only [List.length_drop, List.length_take]; rfl)) ?_
      with_reducible refine (spec_Int_Sign.calls a0_0 _ _ l0_1 t131 _ ?side1 ?side2 A25.out).mono ?_
      (case side1 => repeat (first | exact (Kd.C_below HR0_1.out HB.out) | (with_reducible refine Kd.C_alloc ?_ _) | (with_reducible refine Kd.C_drewN ?_ _) | (with_reducible refine Kd.C_drew ?_)))
      (case side2 => exact HC0_1.out)
      rintro e w42 ⟨rfl, hb⟩
      refine ⟨_, rfl, ?_⟩
      have n0_ := As.mk (kbw (g := gb127) (o := .cells #[.bool a0_0, .slice A0_1 l0_1.length c0_1] 31 (0, 0)) (by (with_reducible repeat (first | refine kdn ?_ _ | refine kdr ?_ | refine kal ?_ _)); exact BK127.out) hb)
      have n1_ := As.mk (kbw (g := gb128) (o := .cells #[.bool a1_0, .slice A1_1 l1_1.length c1_1] 31 (0, 0)) (by (with_reducible repeat (first | refine kdn ?_ _ | refine kdr ?_ | refine kal ?_ _)); exact BK128.out) hb)
      have n2_ := As.mk (bsp (by repeat (first | (with_reducible first | exact HB.out | apply bal | apply pwn | apply bdw | refine bst ?_ GE127.out | refine bst ?_ GE128.out) | exact HB.out)) hb)
      clear BK127
      clear BK128
      clear HB
      have BK127 := n0_
      have BK128 := n1_
      have HB := n2_
      clear n0_ n1_ n2_
      (try clear hb)
      (try clear hb2)
      (try clear hk)
      (try clear hi)
      refine hK.out _ _ ⟨(kcl BK127.out 0).trans rfl, (kcl BK127.out 1).trans rfl, (kcl BK128.out 0).trans rfl, (kcl BK128.out 1).trans rfl⟩ (fun hHeld => ?_)
      clear hK K
      refine norm_ (a' := ?_) ?_ ?_
      rotate_left
      · show Act.put _ (some 11) _ = _
        simp only [Act.put, List.setIfInBounds_toArray, List.set_cons_zero, List.set_cons_succ, i64_w, i32_w]
        rfl
      refine one_ (i := 3) (N := some 13) #[true, true, true, true, false] rfl rfl (by kernel_rfl) (by decide) (fun K hK => ?_)
      refine goes_ Tryz.func51 (by kernel_rfl) rfl #[.agg #[.bool a1_0, .slice A1_1 l1_1.length c1_1]] (by rfl) rfl rfl (by (try simp only [List.map_toArray, List.map_cons, List.map_nil]); first | done | rfl | (simp only [List.length_drop, List.length_take]; rfl)) ?_
      with_reducible refine (spec_Int_Sign.calls a1_0 _ _ l1_1 t132 _ ?side1 ?side2 A26.out).mono ?_
      (case side1 => repeat (first | exact (Kd.C_below HR1_1.out HB.out) | (with_reducible refine Kd.C_alloc ?_ _) | (with_reducible refine Kd.C_drewN ?_ _) | (with_reducible refine Kd.C_drew ?_)))
      (case side2 => exact HC1_1.out)
      rintro e w43 ⟨rfl, hb⟩
      refine ⟨_, rfl, ?_⟩
      have n0_ := As.mk (kbw (g := gb127) (o := .cells #[.bool a0_0, .slice A0_1 l0_1.length c0_1] 31 (0, 0)) (by (with_reducible repeat (first | refine kdn ?_ _ | refine kdr ?_ | refine kal ?_ _)); exact BK127.out) hb)
      have n1_ := As.mk (kbw (g := gb128) (o := .cells #[.bool a1_0, .slice A1_1 l1_1.length c1_1] 31 (0, 0)) (by (with_reducible repeat (first | refine kdn ?_ _ | refine kdr ?_ | refine kal ?_ _)); exact BK128.out) hb)
      have n2_ := As.mk (bsp (by repeat (first | (with_reducible first | exact HB.out | apply bal | apply pwn | apply bdw | refine bst ?_ GE127.out | refine bst ?_ GE128.out) | exact HB.out)) hb)
      clear BK127
      clear BK128
      clear HB
      have BK127 := n0_
      have BK128 := n1_
      have HB := n2_
      clear n0_ n1_ n2_
      (try clear hb)
      (try clear hb2)
      (try clear hk)
      (try clear hi)
      refine hK.out _ _ ⟨(kcl BK127.out 0).trans rfl, (kcl BK127.out 1).trans rfl, (kcl BK128.out 0).trans rfl, (kcl BK128.out 1).trans rfl⟩ (fun hHeld => ?_)
      clear hK K
      refine norm_ (a' := ?_) ?_ ?_
      rotate_left
      · show Act.put _ (some 13) _ = _
        simp only [Act.put, List.setIfInBounds_toArray, List.set_cons_zero, List.set_cons_succ, i64_w, i32_w]
        rfl
      refine pure_ (i := 4) (N := some 14) (v := ?_) (a' := ?_) #[true, true, true, true, true] rfl rfl (by kernel_rfl) (fun _ _ _ h => h) (Or.inl ⟨by rfl, ?_⟩) ?_ ?_
      rotate_left
      · intro w'
        go_simp
        with_reducible rfl
      rotate_left
      · simp only [Act.put, List.setIfInBounds_toArray, List.set_cons_zero, List.set_cons_succ, i64_w, i32_w]
        rfl
      refine done_ (by kernel_rfl) ?_
      try go_wp2
      go_ret
      exact ⟨by first | rfl | (simp [errW_none, errW_some] <;> rfl) | (simp [*, errW_none, errW_some] <;> rfl), by repeat (first | (with_reducible first | exact HB.out | apply bal | apply pwn | apply bdw | refine bst ?_ GE127.out | refine bst ?_ GE128.out) | exact HB.out)⟩
def spec_Int_Minus.f (k : Nat) (a0_0 : Bool) (l0_1 : List Int) : Option (Bool × List Int) := (spec_Of.f k (!a0_0) l0_1).bind fun bt137 => (some (bt137.1, bt137.2))
theorem spec_Int_Minus.mono : ∀ a0 a1 k, LeO (spec_Int_Minus.f k a0 a1) (spec_Int_Minus.f (k + 1) a0 a1) := by
  intro a0 a1 k
  unfold spec_Int_Minus.f
  repeat' first
      | (with_reducible exact spec_Of.mono _ _ _)
      | (with_reducible exact LeO.refl _)
      | (with_reducible exact LeO.none _)
      | (with_reducible refine LeO.ite ?_ ?_)
      | (with_reducible refine LeO.bind ?_ (fun _ => ?_))
      | exact spec_Of.mono _ _ _
      | exact LeO.none _
      | refine LeO.ite ?_ ?_
      | refine LeO.bind ?_ (fun _ => ?_)
set_option maxHeartbeats 8000000 in
set_option maxRecDepth 100000 in
theorem spec_Int_Minus.calls (k : Nat) (a0_0 : Bool) (A0_1 : Option Addr) (c0_1 : Nat) (l0_1 : List Int) (r1 : Bool) (r2 : List Int) (w : World) (hr0_1 : Kd.C (Kd.int .u8) w A0_1 l0_1.length l0_1) (hc0_1 : l0_1.length ≤ c0_1) (h : spec_Int_Minus.f k a0_0 l0_1 = some (r1, r2)) :
    Calls Tryz.prog 29 #[.agg #[.bool a0_0, .slice A0_1 l0_1.length c0_1]] w fun e w' => ∃ v1_ : Value, e = .returned (.agg #[.bool r1, v1_]) ∧ Kd.R (Kd.int .u8) 5 w' w.heap.size (fun _ => True) v1_ r2 ∧ Below w.heap.size w w' := by
  have hu31 := Tryz.underlying31
  have HR0_1 := As.mk hr0_1
  have HC0_1 := As.mk hc0_1
  clear hr0_1 hc0_1
  have HB := As.mk (Below.refl w.heap.size w)
  have H : ((spec_Of.f k (!a0_0) l0_1).bind fun bt137 => (some (bt137.1, bt137.2))) = some (r1, r2) := h
  clear h
  replace H := Option.bind_eq_some_iff.mp H
  obtain ⟨⟨t137, t138⟩, A20, H⟩ := H
  replace H : (some (t137, t138)) = some (r1, r2) := H
  have A2 := As.mk A20
  clear A20
  simp only [Option.some.injEq, Prod.mk.injEq] at H
  obtain ⟨rfl, rfl⟩ := H
  go_enter Tryz.func29, Tryz.ntmps29
  go_wp2_with (first | ((with_reducible refine gate_dst (N := 1) rfl ?_); refine box_event ?hg (N := 1) ?hd (cs := #[.bool a0_0, .slice A0_1 l0_1.length c0_1]) (t := 31) ?hr ?_; (case hd => rfl); (case hg => rfl); (case hr => first | (go_simp; done) | (go_simp; rfl)); intro gb135 hg w3 hbox hb; have n0_ := As.mk (bsp (by repeat (first | (with_reducible first | exact HB.out | apply bal | apply pwn | apply bdw) | exact HB.out)) hb); have n1_ := As.mk (hbox); have n2_ := As.mk ((by rw [hg]; exact (bsz (by repeat (first | (with_reducible first | exact HB.out | apply bal | apply pwn | apply bdw) | exact HB.out))) : w.heap.size ≤ gb135)); have n3_ := As.mk ((by rw [hg]; exact (bsz (by repeat (first | (with_reducible first | exact HB.out | apply bal | apply pwn | apply bdw) | exact HB.out))) : w.heap.size ≤ gb135)); clear HB; have HB := n0_; have BK135 := n1_; have GW135 := n2_; have GE135 := n3_; clear n0_ n1_ n2_ n3_; clear hb hbox hg) | ((with_reducible refine gate_dst (N := 2) rfl ?_); refine box_event ?hg (N := 2) ?hd (cs := #[.bool false, .slice none 0 0]) (t := 31) ?hr ?_; (case hd => rfl); (case hg => rfl); (case hr => first | (go_simp; done) | (go_simp; rfl)); intro gb136 hg w4 hbox hb; have n0_ := As.mk (kbw (g := gb135) (o := .cells #[.bool a0_0, .slice A0_1 l0_1.length c0_1] 31 (0, 0)) (by (with_reducible repeat (first | refine kdn ?_ _ | refine kdr ?_ | refine kal ?_ _)); exact BK135.out) hb); have n1_ := As.mk (bsp (by repeat (first | (with_reducible first | exact HB.out | apply bal | apply pwn | apply bdw | refine bst ?_ GE135.out) | exact HB.out)) hb); have n2_ := As.mk (hbox); have n3_ := As.mk ((by rw [hg]; exact (bsz (by repeat (first | (with_reducible first | exact HB.out | apply bal | apply pwn | apply bdw | refine bst ?_ GE135.out) | exact HB.out))) : w.heap.size ≤ gb136)); have n4_ := As.mk ((by rw [hg]; exact (bsz (by repeat (first | (with_reducible first | exact HB.out | apply bal | apply pwn | apply bdw | refine bst ?_ GE135.out) | exact HB.out))) : w.heap.size ≤ gb136)); have n5_ := As.mk ((by rw [hg]; exact Nat.ne_of_lt (blk_lt (g := gb135) (o := .cells #[.bool a0_0, .slice A0_1 l0_1.length c0_1] 31 (0, 0)) (by (with_reducible repeat (first | refine kdn ?_ _ | refine kdr ?_ | refine kal ?_ _)); exact BK135.out)) : gb135 ≠ gb136)); have n6_ := As.mk ((by rw [hg]; exact Nat.ne_of_gt (blk_lt (g := gb135) (o := .cells #[.bool a0_0, .slice A0_1 l0_1.length c0_1] 31 (0, 0)) (by (with_reducible repeat (first | refine kdn ?_ _ | refine kdr ?_ | refine kal ?_ _)); exact BK135.out)) : gb136 ≠ gb135)); clear BK135; clear HB; have BK135 := n0_; have HB := n1_; have BK136 := n2_; have GW136 := n3_; have GE136 := n4_; have NB135_136 := n5_; have NB136_135 := n6_; clear n0_ n1_ n2_ n3_ n4_ n5_ n6_; clear hb hbox hg; have hnb5 := NB135_136.out; have hnc5 := NB136_135.out; have hcz6_0 : w4.cell? ⟨gb135, 0, none⟩ = some (.bool a0_0) := (kcl BK135.out 0).trans rfl; have hcz6_1 : w4.cell? ⟨gb135, 1, none⟩ = some (.slice A0_1 l0_1.length c0_1) := (kcl BK135.out 1).trans rfl; have hfz6_0 := kfz BK135.out 0; have hfz6_1 := kfz BK135.out 1) | ((with_reducible refine gate_callee (f := 6) rfl ?_); refine goesL_ (some 8) rfl rfl Tryz.func6 (by kernel_rfl) rfl #[.bool (!a0_0), .slice A0_1 l0_1.length c0_1] rfl (by (try simp only [List.map_toArray, List.map_cons, List.map_nil]); first | done | rfl | (simp only [List.length_drop, List.length_take]; rfl)) ?_; (with_reducible refine (spec_Of.calls k (!a0_0) _ _ l0_1 t137 t138 _ ?side1 ?side2 A2.out).mono ?_); (case side1 => repeat (first | exact (Kd.C_below HR0_1.out HB.out) | (with_reducible refine Kd.C_alloc ?_ _) | (with_reducible refine Kd.C_drewN ?_ _) | (with_reducible refine Kd.C_drew ?_))); (case side2 => exact HC0_1.out); rintro e w7 ⟨v139, rfl, ho0, hb⟩; refine ⟨_, rfl, ?_⟩; have n0_ := As.mk (Kd.R_lower ho0 (bsz (by repeat (first | (with_reducible first | exact HB.out | apply bal | apply pwn | apply bdw | refine bst ?_ GE135.out | refine bst ?_ GE136.out) | exact HB.out)))); have n1_ := As.mk (kbw (g := gb135) (o := .cells #[.bool a0_0, .slice A0_1 l0_1.length c0_1] 31 (0, 0)) (by (with_reducible repeat (first | refine kdn ?_ _ | refine kdr ?_ | refine kal ?_ _)); exact BK135.out) hb); have n2_ := As.mk (kbw (g := gb136) (o := .cells #[.bool false, .slice none 0 0] 31 (0, 0)) (by (with_reducible repeat (first | refine kdn ?_ _ | refine kdr ?_ | refine kal ?_ _)); exact BK136.out) hb); have n3_ := As.mk (bsp (by repeat (first | (with_reducible first | exact HB.out | apply bal | apply pwn | apply bdw | refine bst ?_ GE135.out | refine bst ?_ GE136.out) | exact HB.out)) hb); clear BK135; clear BK136; clear HB; have HO140 := n0_; have BK135 := n1_; have BK136 := n2_; have HB := n3_; clear n0_ n1_ n2_ n3_; (try clear hb); (try clear hb2); (try clear hk); (try clear hi); (try clear ho0); have hcz8_0 : w7.cell? ⟨gb136, 0, none⟩ = some (.bool false) := (kcl BK136.out 0).trans rfl; have hcz8_1 : w7.cell? ⟨gb136, 1, none⟩ = some (.slice none 0 0) := (kcl BK136.out 1).trans rfl; have hfz8_0 := kfz BK136.out 0; have hfz8_1 := kfz BK136.out 1; obtain ⟨Ao9, co9, eo9⟩ := Kd.R_slice HO140.out; subst eo9))
  refine bodyPost_ret (results_cell_row rfl _ _ gb136 31 #[.bool t137, .slice Ao9 t138.length co9] (0, 0) _ rfl (by (with_reducible repeat (first | refine kdn ?_ _ | refine kdr ?_ | refine kal ?_ _)); refine blk_put (cs := #[.bool t137, .slice none 0 0]) ?_ 1 _ rfl; (with_reducible repeat (first | refine kdn ?_ _ | refine kdr ?_ | refine kal ?_ _)); refine blk_put (cs := #[.bool false, .slice none 0 0]) ?_ 0 _ rfl; (with_reducible repeat (first | refine kdn ?_ _ | refine kdr ?_ | refine kal ?_ _)); exact BK136.out) Tryz.underlying31 rfl (by kernel_rfl)) rfl ?_
  exact ⟨_, by first | rfl | (simp [errW_none, errW_some] <;> rfl) | (simp [*, errW_none, errW_some] <;> rfl), by (with_reducible repeat (first | apply Kd.R_alloc | apply Kd.R_drewN | apply Kd.R_drew)); exact Kd.R_mono (Kd.R_far (p := ⟨gb136, 1, none⟩) (Kd.R_far (p := ⟨gb136, 0, none⟩) (Kd.R_types HO140.out BK136.out (by decide)) (fun _ hk => hk.2) (.bool t137)) (fun _ hk => hk.2) (.slice Ao9 t138.length co9)) (fun _ hk => trivial), by repeat (first | (with_reducible first | exact HB.out | apply bal | apply pwn | apply bdw | refine bst ?_ GE135.out | refine bst ?_ GE136.out) | exact HB.out)⟩
def spec_digit.f (l0 : List Int) (a1 : Int) : Option (Int) := if a1 ≥ (l0.length : Int) then (some 0) else (if 0 ≤ (wrap64 ((wrap64 ((l0.length : Int) - 1)) - a1)) then (if (wrap64 ((wrap64 ((l0.length : Int) - 1)) - a1)) < (l0.length : Int) then (some (wrap64 (rd l0 (wrap64 ((wrap64 ((l0.length : Int) - 1)) - a1))))) else (none)) else (none))
set_option maxHeartbeats 8000000 in
set_option maxRecDepth 100000 in
theorem spec_digit.calls (A0 : Option Addr) (c0 : Nat) (l0 : List Int) (a1 : Int) (r : Int) (w : World) (hr0 : Kd.C (Kd.int .u8) w A0 l0.length l0) (hc0 : l0.length ≤ c0) (h : spec_digit.f l0 a1 = some r) :
    Calls Tryz.prog 84 #[.slice A0 l0.length c0, .int .i64 a1] w fun e w' => e = .returned (.int .i64 r) ∧ Drawn0 w w' := by
  have HR0 := As.mk hr0
  have HC0 := As.mk hc0
  clear hr0 hc0
  have H : (if a1 ≥ (l0.length : Int) then (some 0) else (if 0 ≤ (wrap64 ((wrap64 ((l0.length : Int) - 1)) - a1)) then (if (wrap64 ((wrap64 ((l0.length : Int) - 1)) - a1)) < (l0.length : Int) then (some (wrap64 (rd l0 (wrap64 ((wrap64 ((l0.length : Int) - 1)) - a1))))) else (none)) else (none))) = some r := h
  clear h
  by_cases c3 : a1 ≥ (l0.length : Int)
  · rw [if_pos c3] at H
    have c3b0 : decide ((l0.length : Int) ≤ a1) = true := decide_eq_true c3
    clear c3
    obtain rfl := Option.some.inj H
    go_enter Tryz.func84, Tryz.ntmps84
    go_wp2
    go_ret
    exact ⟨by first | rfl | (simp; done) | (simp [*]; done), by repeat (first | exact Drawn0.refl _ | apply Drawn0.step)⟩
  · rw [if_neg c3] at H
    have c3b0 : decide ((l0.length : Int) ≤ a1) = false := decide_eq_false c3
    clear c3
    obtain ⟨ji4, hji4⟩ : ∃ j_ : Int, (wrap64 ((wrap64 ((l0.length : Int) - 1)) - a1)) = j_ := ⟨_, rfl⟩
    replace H : (if 0 ≤ (ji4) then (if (ji4) < (l0.length : Int) then (some (wrap64 (rd l0 (ji4)))) else (none)) else (none)) = some r := by first | (rw [hji4] at H; exact H) | (simp only [hji4] at H ⊢; exact H)
    have hji4w : (IntKind.i64.wrap ((wrap64 ((l0.length : Int) - 1)) - a1)) = ji4 := (i64_w _).trans hji4
    by_cases c5 : 0 ≤ (ji4)
    · rw [if_pos c5] at H
      have c5b0 : decide (0 ≤ (ji4)) = true := decide_eq_true c5
      clear c5
      by_cases c6 : (ji4) < (l0.length : Int)
      · rw [if_pos c6] at H
        have c6b0 : decide ((ji4) < (l0.length : Int)) = true := decide_eq_true c6
        clear c6
        obtain rfl := Option.some.inj H
        have p141 : 0 ≤ ((ji4) : Int) := of_decide_eq_true (by first | (with_reducible assumption) | assumption)
        have q141 : (ji4) < (l0.length : Int) := of_decide_eq_true (by first | (with_reducible assumption) | assumption)
        obtain ⟨ad141, e141, hx141_0⟩ := Kd.at_int HR0.out (ji4) p141 q141
        cases e141
        replace p141 := eq_true p141
        replace q141 := eq_true q141
        go_enter Tryz.func84, Tryz.ntmps84
        go_wp2
        go_ret
        exact ⟨by first | rfl | (simp; done) | (simp only [← hji4] <;> (first | rfl | simp)) | (simp [*]; done), by repeat (first | exact Drawn0.refl _ | apply Drawn0.step)⟩
      · rw [if_neg c6] at H
        exact absurd H (by simp)
    · rw [if_neg c5] at H
      exact absurd H (by simp)
end Go.Proofs.YtldejfallphhbaaGreatDoor.PNearest
namespace Go.Proofs.YtldejfallphhbaaGreatDoor.PNearest
open Go.RowKit Go.Proofs.YtldejfallphhbaaGreatDoorW.PrintWords Go.Proofs.YtldejfallphhbaaGreatDoorW.PrintLast Go.Proofs.YtldejfallphhbaaGreatDoorW.PrintMore
attribute [local go_sem] max2_int min2_int max_two min_two max_three min_three max_four min_four
set_option linter.unusedVariables false
set_option linter.unusedSimpArgs false
def spec_sum.l0 : Nat → List Int → List Int → Int → List Int → Int → Int → Option (List Int)
  | 0, _, _, _, _, _, _ => none
  | k + 1, x0, x1, x5, x6, x7, x8 => if x8 < x5 then ((spec_digit.f x0 x8).bind fun t145 => ((spec_digit.f x1 x8).bind fun t146 => (if 0 ≤ (wrap64 ((wrap64 (x5 - 1)) - x8)) then (if (wrap64 ((wrap64 (x5 - 1)) - x8)) < (x6.length : Int) then (spec_sum.l0 k x0 x1 x5 (x6.set ((wrap64 ((wrap64 (x5 - 1)) - x8)) : Int).toNat ((Int.tmod (wrap64 ((wrap64 (t145 + t146)) + x7)) 256) % 256)) (wrap64 (Int.tdiv (wrap64 ((wrap64 (t145 + t146)) + x7)) 256)) (wrap64 (x8 + 1))) else (none)) else (none)))) else ((spec_cut.f k x6).bind fun t148 => (some t148))
def spec_sum.f (k : Nat) (l0 : List Int) (l1 : List Int) : Option (List Int) := if 0 ≤ (wrap64 ((mx (l0.length : Int) (l1.length : Int)) + 1)) then (if (wrap64 ((mx (l0.length : Int) (l1.length : Int)) + 1) : Int).toNat ≤ 281474976710656 then (spec_sum.l0 k l0 l1 (wrap64 ((mx (l0.length : Int) (l1.length : Int)) + 1)) (List.replicate (wrap64 ((mx (l0.length : Int) (l1.length : Int)) + 1) : Int).toNat 0) 0 0) else (none)) else (none)
theorem spec_sum.mono_l : ∀ k, (∀ y0 y1 y2 y3 y4 y5, LeO (spec_sum.l0 k y0 y1 y2 y3 y4 y5) (spec_sum.l0 (k + 1) y0 y1 y2 y3 y4 y5))
  | 0 => fun _ _ _ _ _ _ r h => by simp [spec_sum.l0] at h
  | k + 1 => by
    have ih0 := spec_sum.mono_l k
    · intro y0 y1 y2 y3 y4 y5
      unfold spec_sum.l0
      repeat' first
      | (with_reducible exact ih0 _ _ _ _ _ _)
      | (with_reducible exact spec_cut.mono _ _)
      | (with_reducible exact LeO.refl _)
      | (with_reducible exact LeO.none _)
      | (with_reducible refine LeO.ite ?_ ?_)
      | (with_reducible refine LeO.bind ?_ (fun _ => ?_))
      | exact ih0 _ _ _ _ _ _
      | exact spec_cut.mono _ _
      | exact LeO.none _
      | refine LeO.ite ?_ ?_
      | refine LeO.bind ?_ (fun _ => ?_)
theorem spec_sum.mono : ∀ a0 a1 k, LeO (spec_sum.f k a0 a1) (spec_sum.f (k + 1) a0 a1) := by
  intro a0 a1 k
  have ih0 := spec_sum.mono_l k
  unfold spec_sum.f
  repeat' first
      | (with_reducible exact ih0 _ _ _ _ _ _)
      | (with_reducible exact spec_cut.mono _ _)
      | (with_reducible exact LeO.refl _)
      | (with_reducible exact LeO.none _)
      | (with_reducible refine LeO.ite ?_ ?_)
      | (with_reducible refine LeO.bind ?_ (fun _ => ?_))
      | exact ih0 _ _ _ _ _ _
      | exact spec_cut.mono _ _
      | exact LeO.none _
      | refine LeO.ite ?_ ?_
      | refine LeO.bind ?_ (fun _ => ?_)
set_option maxHeartbeats 8000000 in
set_option maxRecDepth 100000 in
theorem spec_sum.calls (k : Nat) (A0 : Option Addr) (c0 : Nat) (l0 : List Int) (A1 : Option Addr) (c1 : Nat) (l1 : List Int) (r : List Int) (w : World) (hr0 : Kd.C (Kd.int .u8) w A0 l0.length l0) (hc0 : l0.length ≤ c0) (hr1 : Kd.C (Kd.int .u8) w A1 l1.length l1) (hc1 : l1.length ≤ c1) (h : spec_sum.f k l0 l1 = some r) :
    Calls Tryz.prog 60 #[.slice A0 l0.length c0, .slice A1 l1.length c1] w fun e w' => ∃ v0_ : Value, e = .returned (v0_) ∧ Kd.R (Kd.int .u8) 5 w' w.heap.size (fun _ => True) v0_ r ∧ Below w.heap.size w w' := by
  have HR0 := As.mk hr0
  have HC0 := As.mk hc0
  clear hr0 hc0
  have HR1 := As.mk hr1
  have HC1 := As.mk hc1
  clear hr1 hc1
  have HB := As.mk (Below.refl w.heap.size w)
  have H : (if 0 ≤ (wrap64 ((mx (l0.length : Int) (l1.length : Int)) + 1)) then (if (wrap64 ((mx (l0.length : Int) (l1.length : Int)) + 1) : Int).toNat ≤ 281474976710656 then (spec_sum.l0 k l0 l1 (wrap64 ((mx (l0.length : Int) (l1.length : Int)) + 1)) (List.replicate (wrap64 ((mx (l0.length : Int) (l1.length : Int)) + 1) : Int).toNat 0) 0 0) else (none)) else (none)) = some r := h
  clear h
  obtain ⟨ji3, hji3⟩ : ∃ j_ : Int, (mx (l0.length : Int) (l1.length : Int)) = j_ := ⟨_, rfl⟩
  replace H : (if 0 ≤ (wrap64 ((ji3) + 1)) then (if (wrap64 ((ji3) + 1) : Int).toNat ≤ 281474976710656 then (spec_sum.l0 k l0 l1 (wrap64 ((ji3) + 1)) (List.replicate (wrap64 ((ji3) + 1) : Int).toNat 0) 0 0) else (none)) else (none)) = some r := by first | (rw [hji3] at H; exact H) | (simp only [hji3] at H ⊢; exact H)
  (try (have hji3l : 0 ≤ ji3 := by (rw [← hji3]; unfold mx; (repeat' split) <;> omega)))
  (try (have hji3m : 0 ≤ ji3 := by omega))
  have hji3_ : (if (l0.length : Int) < (l1.length : Int) then (l1.length : Int) else (l0.length : Int)) = ji3 := hji3
  have hji3n : (if l0.length < l1.length then (l1.length : Int) else (l0.length : Int)) = ji3 := by rw [← hji3]; unfold mx; simp only [Int.ofNat_lt]
  obtain ⟨ji4, hji4⟩ : ∃ j_ : Int, (wrap64 ((ji3) + 1)) = j_ := ⟨_, rfl⟩
  replace H : (if 0 ≤ (ji4) then (if (ji4 : Int).toNat ≤ 281474976710656 then (spec_sum.l0 k l0 l1 ji4 (List.replicate (ji4 : Int).toNat 0) 0 0) else (none)) else (none)) = some r := by first | (rw [hji4] at H; exact H) | (simp only [hji4] at H ⊢; exact H)
  have hji4w : (IntKind.i64.wrap ((ji3) + 1)) = ji4 := (i64_w _).trans hji4
  by_cases c5 : 0 ≤ (ji4)
  · rw [if_pos c5] at H
    have c5b0 := eq_true c5
    have c5b1 : decide (0 ≤ (ji4)) = true := decide_eq_true c5
    clear c5
    by_cases c6 : (ji4 : Int).toNat ≤ 281474976710656
    · rw [if_pos c6] at H
      have c6b0 := eq_true c6
      have c6b1 : decide ((ji4 : Int).toNat ≤ 281474976710656) = true := decide_eq_true c6
      clear c6
      obtain ⟨y142, hy142⟩ : ∃ y_ : List Int, y_ = (List.replicate (ji4 : Int).toNat 0) := ⟨_, rfl⟩
      replace H : (spec_sum.l0 k l0 l1 ji4 y142 0 0) = some r := by first | (rw [hy142]; with_reducible exact H) | (have H2_ := (Option.bind_some _ _).symm.trans H; rw [hy142]; with_reducible exact H2_) | (have H2_ := (Option.bind_some _ _).symm.trans H; with_reducible exact H2_) | with_reducible exact H | (rw [hy142]; exact H) | exact H
      have Ny142 := As.mk hy142
      clear hy142
      have H' := As.mk H
      clear H
      go_enter Tryz.func60, Tryz.ntmps60
      go_wp2_with (first | ((with_reducible refine gate_dst (N := 17) rfl ?_); refine Kd.R_make (Kd.int .u8) _ 5 rfl (N := 17) rfl 23 _ _ rfl ji4 rfl rfl Tryz.underlying23 (.int .u8 0) 1 info5 rfl (by decide) (by omega) 0 (ok := fun _ => True) (okp := fun _ => True) rfl (fun _ hk => hk) trivial (of_decide_eq_true (by first | (with_reducible assumption) | assumption)) (Nat.le_trans (Nat.mul_le_mul_right _ (of_decide_eq_true (by first | (with_reducible assumption) | assumption) : ji4.toNat ≤ 281474976710656)) (by omega)) (Below.refl _ _) (Nat.le_refl _) ?_; intro v143 w7 ho8 hb hg_ hnew_; clear hg_ hnew_; (first | rw [← Ny142.out] at ho8 | (simp only [Int.reduceToNat] at ho8; rw [← Ny142.out] at ho8)); have n0_ := As.mk (Kd.R_lower ho8 (bsz (by repeat (first | (with_reducible first | exact HB.out | apply bal | apply pwn | apply bdw) | exact HB.out)))); have n1_ := As.mk (bsp (by repeat (first | (with_reducible first | exact HB.out | apply bal | apply pwn | apply bdw) | exact HB.out)) hb); clear HB; have HO144 := n0_; have HB := n1_; clear n0_ n1_; clear hb ho8))
      go_loopg [7, 8] k (fun kq v7 v8 w' => ∃ (x6_1 : List Int) (x7_1 : Int) (x8_1 : Int), v7 = .int .i64 x7_1 ∧ v8 = .int .i64 x8_1 ∧ As (spec_sum.l0 kq l0 l1 ji4 x6_1 x7_1 x8_1 = some r) ∧ As (kq ≤ k) ∧ As (Kd.R (Kd.int .u8) 5 w' w.heap.size (fun _ => True) v143 x6_1) ∧ As (Below w.heap.size w w'))
      case atStart => exact ⟨(y142), (0), (0), (by first | rfl | (simp; done) | (simp [*]; done)), (by first | rfl | (simp; done) | (simp [*]; done)), H', ⟨Nat.le_refl _⟩, ⟨by (with_reducible repeat (first | apply Kd.R_alloc | apply Kd.R_drewN | apply Kd.R_drew)); exact HO144.out⟩, ⟨by repeat (first | (with_reducible first | exact HB.out | apply bal | apply pwn | apply bdw) | exact HB.out)⟩⟩
      case round =>
        clear H'
        try clear c1
        try clear p2
        try clear c5
        try clear c5b0
        try clear c5b1
        try clear c6
        try clear c6b0
        try clear c6b1
        try clear p6
        obtain ⟨x6_1, x7_1, x8_1, rfl, rfl, HA, HK1, HO_6, HB⟩ := hrel
        cases gk with
        | zero => exact absurd HA.out (by simp [spec_sum.l0])
        | succ k1 =>
          have H := HA.out
          clear HA
          simp only [spec_sum.l0] at H
          by_cases c9 : x8_1 < ji4
          · rw [if_pos c9] at H
            have c9b0 : decide (x8_1 < ji4) = true := decide_eq_true c9
            clear c9
            replace H := Option.bind_eq_some_iff.mp H
            obtain ⟨t145, A100, H⟩ := H
            replace H : ((spec_digit.f l1 x8_1).bind fun t146 => (if 0 ≤ (wrap64 ((wrap64 (ji4 - 1)) - x8_1)) then (if (wrap64 ((wrap64 (ji4 - 1)) - x8_1)) < (x6_1.length : Int) then (spec_sum.l0 k1 l0 l1 ji4 (x6_1.set ((wrap64 ((wrap64 (ji4 - 1)) - x8_1)) : Int).toNat ((Int.tmod (wrap64 ((wrap64 (t145 + t146)) + x7_1)) 256) % 256)) (wrap64 (Int.tdiv (wrap64 ((wrap64 (t145 + t146)) + x7_1)) 256)) (wrap64 (x8_1 + 1))) else (none)) else (none))) = some r := H
            have A10 := As.mk A100
            clear A100
            replace H := Option.bind_eq_some_iff.mp H
            obtain ⟨t146, A110, H⟩ := H
            replace H : (if 0 ≤ (wrap64 ((wrap64 (ji4 - 1)) - x8_1)) then (if (wrap64 ((wrap64 (ji4 - 1)) - x8_1)) < (x6_1.length : Int) then (spec_sum.l0 k1 l0 l1 ji4 (x6_1.set ((wrap64 ((wrap64 (ji4 - 1)) - x8_1)) : Int).toNat ((Int.tmod (wrap64 ((wrap64 (t145 + t146)) + x7_1)) 256) % 256)) (wrap64 (Int.tdiv (wrap64 ((wrap64 (t145 + t146)) + x7_1)) 256)) (wrap64 (x8_1 + 1))) else (none)) else (none)) = some r := H
            have A11 := As.mk A110
            clear A110
            obtain ⟨ji12, hji12⟩ : ∃ j_ : Int, (wrap64 ((wrap64 (ji4 - 1)) - x8_1)) = j_ := ⟨_, rfl⟩
            replace H : (if 0 ≤ (ji12) then (if (ji12) < (x6_1.length : Int) then (spec_sum.l0 k1 l0 l1 ji4 (x6_1.set ((ji12) : Int).toNat ((Int.tmod (wrap64 ((wrap64 (t145 + t146)) + x7_1)) 256) % 256)) (wrap64 (Int.tdiv (wrap64 ((wrap64 (t145 + t146)) + x7_1)) 256)) (wrap64 (x8_1 + 1))) else (none)) else (none)) = some r := by first | (rw [hji12] at H; exact H) | (simp only [hji12] at H ⊢; exact H)
            (try rw [hji12] at A10)
            (try rw [hji12] at A11)
            have hji12w : (IntKind.i64.wrap ((wrap64 (ji4 - 1)) - x8_1)) = ji12 := (i64_w _).trans hji12
            by_cases c13 : 0 ≤ (ji12)
            · rw [if_pos c13] at H
              have c13b0 : decide (0 ≤ (ji12)) = true := decide_eq_true c13
              clear c13
              by_cases c14 : (ji12) < (x6_1.length : Int)
              · rw [if_pos c14] at H
                have c14b0 : decide ((ji12) < (x6_1.length : Int)) = true := decide_eq_true c14
                clear c14
                obtain ⟨y147, hy147⟩ : ∃ y_ : List Int, y_ = (x6_1.set ((ji12) : Int).toNat ((Int.tmod (wrap64 ((wrap64 (t145 + t146)) + x7_1)) 256) % 256)) := ⟨_, rfl⟩
                replace H : (spec_sum.l0 k1 l0 l1 ji4 y147 (wrap64 (Int.tdiv (wrap64 ((wrap64 (t145 + t146)) + x7_1)) 256)) (wrap64 (x8_1 + 1))) = some r := by first | (rw [hy147]; with_reducible exact H) | (have H2_ := (Option.bind_some _ _).symm.trans H; rw [hy147]; with_reducible exact H2_) | (have H2_ := (Option.bind_some _ _).symm.trans H; with_reducible exact H2_) | with_reducible exact H | (rw [hy147]; exact H) | exact H
                have Ny147 := As.mk hy147
                clear hy147
                have H' := As.mk H
                clear H
                go_wp2_with (first | ((with_reducible refine gate_callee (f := 84) rfl ?_); refine goesL_ (some 25) rfl rfl Tryz.func84 (by kernel_rfl) rfl #[.slice A0 l0.length c0, .int .i64 x8_1] rfl (by (try simp only [List.map_toArray, List.map_cons, List.map_nil]); first | done | rfl | (simp only [List.length_drop, List.length_take]; rfl)) ?_; (with_reducible refine (spec_digit.calls _ _ l0 x8_1 t145 _ ?side1 ?side2 A10.out).mono ?_); (case side1 => repeat (first | exact (Kd.C_below HR0.out HB.out) | (with_reducible refine Kd.C_alloc ?_ _) | (with_reducible refine Kd.C_drewN ?_ _) | (with_reducible refine Kd.C_drew ?_))); (case side2 => exact HC0.out); rintro e w' ⟨rfl, ⟨nd, rfl⟩⟩; refine ⟨_, rfl, ?_⟩; (try (rw [drewN_self wr]; generalize hq_ : World.drewN wr _ = wr; have n0_ : As (Kd.R (Kd.int .u8) 5 wr w.heap.size (fun _ => True) v143 x6_1) := ⟨by rw [← hq_]; exact (by (with_reducible repeat (first | apply Kd.R_alloc | apply Kd.R_drewN | apply Kd.R_drew)); exact HO_6.out)⟩; have n1_ : As (Below w.heap.size w wr) := ⟨by rw [← hq_]; exact (by repeat (first | (with_reducible first | exact HB.out | apply bal | apply pwn | apply bdw) | exact HB.out))⟩; clear HO_6 HB hq_; have HO_6 := n0_; have HB := n1_; clear n0_ n1_))) | ((with_reducible refine gate_callee (f := 84) rfl ?_); refine goesL_ (some 28) rfl rfl Tryz.func84 (by kernel_rfl) rfl #[.slice A1 l1.length c1, .int .i64 x8_1] rfl (by (try simp only [List.map_toArray, List.map_cons, List.map_nil]); first | done | rfl | (simp only [List.length_drop, List.length_take]; rfl)) ?_; (with_reducible refine (spec_digit.calls _ _ l1 x8_1 t146 _ ?side1 ?side2 A11.out).mono ?_); (case side1 => repeat (first | exact (Kd.C_below HR1.out HB.out) | (with_reducible refine Kd.C_alloc ?_ _) | (with_reducible refine Kd.C_drewN ?_ _) | (with_reducible refine Kd.C_drew ?_))); (case side2 => exact HC1.out); rintro e w' ⟨rfl, ⟨nd, rfl⟩⟩; refine ⟨_, rfl, ?_⟩; (try (rw [drewN_self wr]; generalize hq_ : World.drewN wr _ = wr; have n0_ : As (Kd.R (Kd.int .u8) 5 wr w.heap.size (fun _ => True) v143 x6_1) := ⟨by rw [← hq_]; exact (by (with_reducible repeat (first | apply Kd.R_alloc | apply Kd.R_drewN | apply Kd.R_drew)); exact HO_6.out)⟩; have n1_ : As (Below w.heap.size w wr) := ⟨by rw [← hq_]; exact (by repeat (first | (with_reducible first | exact HB.out | apply bal | apply pwn | apply bdw) | exact HB.out))⟩; clear HO_6 HB hq_; have HO_6 := n0_; have HB := n1_; clear n0_ n1_)); have p15 : 0 ≤ ((ji12) : Int) := of_decide_eq_true (by first | (with_reducible assumption) | assumption); have q15 : ((ji12) : Int) < ((x6_1.length : Int) : Int) := of_decide_eq_true (by first | (with_reducible assumption) | assumption); obtain ⟨go15, co15, eo15, gb15, gl15, cl15, HG15⟩ := Kd.R_form HO_6.out (by omega); (first | cases eo15 | (injection eo15 with ea_ en_ ec_; (first | subst ea_ | (injection ea_ with ea_; subst ea_)); subst ec_; clear en_)); have GB15 := As.mk gb15; have GG15 := As.mk HG15; clear gb15 gl15 HG15; obtain ⟨hx15_0, hf15_0⟩ := Kd.R_celln 0 HO_6.out ((ji12) : Int) p15 q15; replace p15 := eq_true p15; replace q15 := eq_true q15; obtain ⟨hy16_, hz16_⟩ := Kd.R_celln 0 HO_6.out ((ji12) : Int) (of_decide_eq_true (by first | (with_reducible assumption) | assumption)) (of_decide_eq_true (by first | (with_reducible assumption) | assumption)); have HP16 := Kd.R_putg HO_6.out ((ji12) : Int) ((Int.tmod (wrap64 ((wrap64 (t145 + t146)) + x7_1)) 256) % 256)) | ((with_reducible refine gate_store (t := 5) (p := 40) rfl ?_); refine store_event (t := 5) (p := 40) (v := ?vo_w17) (w1 := (wr.setCell ⟨go15, ((ji12) : Int).toNat, none⟩ (.int .u8 ((Int.tmod (wrap64 ((wrap64 (t145 + t146)) + x7_1)) 256) % 256)))) ?hg ?ho ?hn ?hr ?_; (case ho => rfl); (case hg => rfl); (case hn => rfl); (case hr => first | (go_simp; done) | (go_simp; rfl)); intro w17 hw; have hg : wr.grownBy w17 (some go15) := (by rw [hw]; exact HP16.2); have hp_ : Kd.R (Kd.int .u8) 5 w17 w.heap.size (fun _ => True) (.slice (some ⟨go15, 0, none⟩) x6_1.length co15) y147 := (by rw [hw, Ny147.out]; exact HP16.1); clear HP16; have n0_ := As.mk (hp_); have n1_ := As.mk ((by rw [hw]; exact bst (HB.out) GB15.out : Below w.heap.size w w17)); clear HO_6; clear HB; have HO_6 := n0_; have HB := n1_; clear n0_ n1_; clear hg hw hp_))
                go_roundg k1
                case measure => have := HK1.out; omega
                case rel => exact ⟨(y147), (wrap64 (Int.tdiv (wrap64 ((wrap64 (t145 + t146)) + x7_1)) 256)), (wrap64 (x8_1 + 1)), (by first | rfl | (simp; done) | (simp [*]; done)), (by first | rfl | (simp; done) | (simp [*]; done)), H', ⟨by have := HK1.out; omega⟩, ⟨by (with_reducible repeat (first | apply Kd.R_alloc | apply Kd.R_drewN | apply Kd.R_drew)); exact HO_6.out⟩, ⟨by repeat (first | (with_reducible first | exact HB.out | apply bal | apply pwn | apply bdw) | exact HB.out)⟩⟩
              · rw [if_neg c14] at H
                exact absurd H (by simp)
            · rw [if_neg c13] at H
              exact absurd H (by simp)
          · rw [if_neg c9] at H
            have c9b0 : decide (x8_1 < ji4) = false := decide_eq_false c9
            clear c9
            replace H := Option.bind_eq_some_iff.mp H
            obtain ⟨t148, A180, H⟩ := H
            replace H : (some t148) = some r := H
            have A18 := As.mk A180
            clear A180
            obtain rfl := Option.some.inj H
            obtain ⟨Ao19, co19, eo19⟩ := Kd.R_slice HO_6.out
            subst eo19
            go_wp2_with (first | ((with_reducible refine gate_callee (f := 15) rfl ?_); refine goesL_ (some 44) rfl rfl Tryz.func15 (by kernel_rfl) rfl #[.slice Ao19 x6_1.length co19] rfl (by (try simp only [List.map_toArray, List.map_cons, List.map_nil]); first | done | rfl | (simp only [List.length_drop, List.length_take]; rfl)) ?_; (with_reducible refine (spec_cut.calls k1 _ _ x6_1 t148 _ ?side1 ?side2 A18.out).mono ?_); (case side1 => repeat (first | exact (Kd.R_reads' HO_6.out).2.2 | (with_reducible refine Kd.C_alloc ?_ _) | (with_reducible refine Kd.C_drewN ?_ _) | (with_reducible refine Kd.C_drew ?_))); (case side2 => exact (Kd.R_reads' HO_6.out).2.1); rintro e w20 ⟨v149, rfl, ho0, hb⟩; refine ⟨_, rfl, ?_⟩; have n0_ := As.mk (Kd.R_elder' (by (with_reducible repeat (first | apply Kd.R_alloc | apply Kd.R_drewN | apply Kd.R_drew)); exact HO_6.out) (Kd.R_base ho0) hb); have n1_ := As.mk (Kd.R_lower (Kd.R_new' ho0 (Kd.R_lt (by (with_reducible repeat (first | apply Kd.R_alloc | apply Kd.R_drewN | apply Kd.R_drew)); exact HO_6.out))) (bsz (by repeat (first | (with_reducible first | exact HB.out | apply bal | apply pwn | apply bdw) | exact HB.out)))); have n2_ := As.mk (bsp (by repeat (first | (with_reducible first | exact HB.out | apply bal | apply pwn | apply bdw) | exact HB.out)) hb); clear HO_6; clear HB; have HO_6 := n0_; have HO150 := n1_; have HB := n2_; clear n0_ n1_ n2_; (try clear hb); (try clear hb2); (try clear hk); (try clear hi); (try clear ho0)))
            go_ret
            exact ⟨_, by first | rfl | (simp [errW_none, errW_some] <;> rfl) | (simp only [← hji3, ← hji4]; first | rfl | (simp [errW_none, errW_some] <;> rfl)) | (simp [*, errW_none, errW_some] <;> rfl), by (with_reducible repeat (first | apply Kd.R_alloc | apply Kd.R_drewN | apply Kd.R_drew)); exact Kd.R_mono HO150.out (fun _ hk => trivial), by repeat (first | (with_reducible first | exact HB.out | apply bal | apply pwn | apply bdw) | exact HB.out)⟩
    · rw [if_neg c6] at H
      exact absurd H (by simp)
  · rw [if_neg c5] at H
    exact absurd H (by simp)
def spec_less.l0 : Nat → List Int → List Int → List Int → Int → Int → Option (List Int)
  | 0, _, _, _, _, _ => none
  | k + 1, x0, x1, x5, x6, x7 => if x7 < (x0.length : Int) then ((spec_digit.f x0 x7).bind fun t157 => ((spec_digit.f x1 x7).bind fun t158 => (if (wrap64 ((wrap64 (t157 - t158)) - x6)) < 0 then (if 0 ≤ (wrap64 ((wrap64 ((x0.length : Int) - 1)) - x7)) then (if (wrap64 ((wrap64 ((x0.length : Int) - 1)) - x7)) < (x5.length : Int) then (spec_less.l0 k x0 x1 (x5.set ((wrap64 ((wrap64 ((x0.length : Int) - 1)) - x7)) : Int).toNat ((wrap64 ((wrap64 ((wrap64 (t157 - t158)) - x6)) + 256)) % 256)) 1 (wrap64 (x7 + 1))) else (none)) else (none)) else (if 0 ≤ (wrap64 ((wrap64 ((x0.length : Int) - 1)) - x7)) then (if (wrap64 ((wrap64 ((x0.length : Int) - 1)) - x7)) < (x5.length : Int) then (spec_less.l0 k x0 x1 (x5.set ((wrap64 ((wrap64 ((x0.length : Int) - 1)) - x7)) : Int).toNat ((wrap64 ((wrap64 (t157 - t158)) - x6)) % 256)) 0 (wrap64 (x7 + 1))) else (none)) else (none))))) else ((spec_cut.f k x5).bind fun t154 => (some t154))
def spec_less.f (k : Nat) (l0 : List Int) (l1 : List Int) : Option (List Int) := if 0 ≤ (l0.length : Int) then (if ((l0.length : Int) : Int).toNat ≤ 281474976710656 then (spec_less.l0 k l0 l1 (List.replicate ((l0.length : Int) : Int).toNat 0) 0 0) else (none)) else (none)
theorem spec_less.mono_l : ∀ k, (∀ y0 y1 y2 y3 y4, LeO (spec_less.l0 k y0 y1 y2 y3 y4) (spec_less.l0 (k + 1) y0 y1 y2 y3 y4))
  | 0 => fun _ _ _ _ _ r h => by simp [spec_less.l0] at h
  | k + 1 => by
    have ih0 := spec_less.mono_l k
    · intro y0 y1 y2 y3 y4
      unfold spec_less.l0
      repeat' first
      | (with_reducible exact ih0 _ _ _ _ _)
      | (with_reducible exact spec_cut.mono _ _)
      | (with_reducible exact LeO.refl _)
      | (with_reducible exact LeO.none _)
      | (with_reducible refine LeO.ite ?_ ?_)
      | (with_reducible refine LeO.bind ?_ (fun _ => ?_))
      | exact ih0 _ _ _ _ _
      | exact spec_cut.mono _ _
      | exact LeO.none _
      | refine LeO.ite ?_ ?_
      | refine LeO.bind ?_ (fun _ => ?_)
theorem spec_less.mono : ∀ a0 a1 k, LeO (spec_less.f k a0 a1) (spec_less.f (k + 1) a0 a1) := by
  intro a0 a1 k
  have ih0 := spec_less.mono_l k
  unfold spec_less.f
  repeat' first
      | (with_reducible exact ih0 _ _ _ _ _)
      | (with_reducible exact spec_cut.mono _ _)
      | (with_reducible exact LeO.refl _)
      | (with_reducible exact LeO.none _)
      | (with_reducible refine LeO.ite ?_ ?_)
      | (with_reducible refine LeO.bind ?_ (fun _ => ?_))
      | exact ih0 _ _ _ _ _
      | exact spec_cut.mono _ _
      | exact LeO.none _
      | refine LeO.ite ?_ ?_
      | refine LeO.bind ?_ (fun _ => ?_)
set_option maxHeartbeats 8000000 in
set_option maxRecDepth 100000 in
theorem spec_less.calls (k : Nat) (A0 : Option Addr) (c0 : Nat) (l0 : List Int) (A1 : Option Addr) (c1 : Nat) (l1 : List Int) (r : List Int) (w : World) (hr0 : Kd.C (Kd.int .u8) w A0 l0.length l0) (hc0 : l0.length ≤ c0) (hr1 : Kd.C (Kd.int .u8) w A1 l1.length l1) (hc1 : l1.length ≤ c1) (h : spec_less.f k l0 l1 = some r) :
    Calls Tryz.prog 61 #[.slice A0 l0.length c0, .slice A1 l1.length c1] w fun e w' => ∃ v0_ : Value, e = .returned (v0_) ∧ Kd.R (Kd.int .u8) 5 w' w.heap.size (fun _ => True) v0_ r ∧ Below w.heap.size w w' := by
  have HR0 := As.mk hr0
  have HC0 := As.mk hc0
  clear hr0 hc0
  have HR1 := As.mk hr1
  have HC1 := As.mk hc1
  clear hr1 hc1
  have HB := As.mk (Below.refl w.heap.size w)
  have H : (if 0 ≤ (l0.length : Int) then (if ((l0.length : Int) : Int).toNat ≤ 281474976710656 then (spec_less.l0 k l0 l1 (List.replicate ((l0.length : Int) : Int).toNat 0) 0 0) else (none)) else (none)) = some r := h
  clear h
  by_cases c3 : 0 ≤ (l0.length : Int)
  · rw [if_pos c3] at H
    have c3b0 := eq_true c3
    have c3b1 : decide (0 ≤ (l0.length : Int)) = true := decide_eq_true c3
    clear c3
    by_cases c4 : ((l0.length : Int) : Int).toNat ≤ 281474976710656
    · rw [if_pos c4] at H
      have c4b0 := eq_true c4
      have c4b1 : decide (((l0.length : Int) : Int).toNat ≤ 281474976710656) = true := decide_eq_true c4
      clear c4
      obtain ⟨y151, hy151⟩ : ∃ y_ : List Int, y_ = (List.replicate ((l0.length : Int) : Int).toNat 0) := ⟨_, rfl⟩
      replace H : (spec_less.l0 k l0 l1 y151 0 0) = some r := by first | (rw [hy151]; with_reducible exact H) | (have H2_ := (Option.bind_some _ _).symm.trans H; rw [hy151]; with_reducible exact H2_) | (have H2_ := (Option.bind_some _ _).symm.trans H; with_reducible exact H2_) | with_reducible exact H | (rw [hy151]; exact H) | exact H
      have Ny151 := As.mk hy151
      clear hy151
      have H' := As.mk H
      clear H
      go_enter Tryz.func61, Tryz.ntmps61
      go_wp2_with (first | ((with_reducible refine gate_dst (N := 11) rfl ?_); refine Kd.R_make (Kd.int .u8) _ 5 rfl (N := 11) rfl 23 _ _ rfl (l0.length : Int) rfl rfl Tryz.underlying23 (.int .u8 0) 1 info5 rfl (by decide) (by omega) 0 (ok := fun _ => True) (okp := fun _ => True) rfl (fun _ hk => hk) trivial (of_decide_eq_true (by first | (with_reducible assumption) | assumption)) (Nat.le_trans (Nat.mul_le_mul_right _ (of_decide_eq_true (by first | (with_reducible assumption) | assumption) : (l0.length : Int).toNat ≤ 281474976710656)) (by omega)) (Below.refl _ _) (Nat.le_refl _) ?_; intro v152 w5 ho6 hb hg_ hnew_; clear hg_ hnew_; (first | rw [← Ny151.out] at ho6 | (simp only [Int.reduceToNat] at ho6; rw [← Ny151.out] at ho6)); have n0_ := As.mk (Kd.R_lower ho6 (bsz (by repeat (first | (with_reducible first | exact HB.out | apply bal | apply pwn | apply bdw) | exact HB.out)))); have n1_ := As.mk (bsp (by repeat (first | (with_reducible first | exact HB.out | apply bal | apply pwn | apply bdw) | exact HB.out)) hb); clear HB; have HO153 := n0_; have HB := n1_; clear n0_ n1_; clear hb ho6))
      go_loopg [6, 7] k (fun kq v6 v7 w' => ∃ (x5_1 : List Int) (x6_1 : Int) (x7_1 : Int), v6 = .int .i64 x6_1 ∧ v7 = .int .i64 x7_1 ∧ As (spec_less.l0 kq l0 l1 x5_1 x6_1 x7_1 = some r) ∧ As (kq ≤ k) ∧ As (Kd.R (Kd.int .u8) 5 w' w.heap.size (fun _ => True) v152 x5_1) ∧ As (Below w.heap.size w w'))
      case atStart => exact ⟨(y151), (0), (0), (by first | rfl | (simp; done) | (simp [*]; done)), (by first | rfl | (simp; done) | (simp [*]; done)), H', ⟨Nat.le_refl _⟩, ⟨by (with_reducible repeat (first | apply Kd.R_alloc | apply Kd.R_drewN | apply Kd.R_drew)); exact HO153.out⟩, ⟨by repeat (first | (with_reducible first | exact HB.out | apply bal | apply pwn | apply bdw) | exact HB.out)⟩⟩
      case round =>
        clear H'
        try clear c1
        try clear p2
        try clear c3
        try clear c3b0
        try clear c3b1
        try clear c4
        try clear c4b0
        try clear c4b1
        try clear c6
        obtain ⟨x5_1, x6_1, x7_1, rfl, rfl, HA, HK1, HO_5, HB⟩ := hrel
        cases gk with
        | zero => exact absurd HA.out (by simp [spec_less.l0])
        | succ k1 =>
          have H := HA.out
          clear HA
          simp only [spec_less.l0] at H
          by_cases c7 : x7_1 < (l0.length : Int)
          · rw [if_pos c7] at H
            have c7b0 : decide (x7_1 < (l0.length : Int)) = true := decide_eq_true c7
            clear c7
            replace H := Option.bind_eq_some_iff.mp H
            obtain ⟨t157, A80, H⟩ := H
            replace H : ((spec_digit.f l1 x7_1).bind fun t158 => (if (wrap64 ((wrap64 (t157 - t158)) - x6_1)) < 0 then (if 0 ≤ (wrap64 ((wrap64 ((l0.length : Int) - 1)) - x7_1)) then (if (wrap64 ((wrap64 ((l0.length : Int) - 1)) - x7_1)) < (x5_1.length : Int) then (spec_less.l0 k1 l0 l1 (x5_1.set ((wrap64 ((wrap64 ((l0.length : Int) - 1)) - x7_1)) : Int).toNat ((wrap64 ((wrap64 ((wrap64 (t157 - t158)) - x6_1)) + 256)) % 256)) 1 (wrap64 (x7_1 + 1))) else (none)) else (none)) else (if 0 ≤ (wrap64 ((wrap64 ((l0.length : Int) - 1)) - x7_1)) then (if (wrap64 ((wrap64 ((l0.length : Int) - 1)) - x7_1)) < (x5_1.length : Int) then (spec_less.l0 k1 l0 l1 (x5_1.set ((wrap64 ((wrap64 ((l0.length : Int) - 1)) - x7_1)) : Int).toNat ((wrap64 ((wrap64 (t157 - t158)) - x6_1)) % 256)) 0 (wrap64 (x7_1 + 1))) else (none)) else (none)))) = some r := H
            have A8 := As.mk A80
            clear A80
            replace H := Option.bind_eq_some_iff.mp H
            obtain ⟨t158, A90, H⟩ := H
            replace H : (if (wrap64 ((wrap64 (t157 - t158)) - x6_1)) < 0 then (if 0 ≤ (wrap64 ((wrap64 ((l0.length : Int) - 1)) - x7_1)) then (if (wrap64 ((wrap64 ((l0.length : Int) - 1)) - x7_1)) < (x5_1.length : Int) then (spec_less.l0 k1 l0 l1 (x5_1.set ((wrap64 ((wrap64 ((l0.length : Int) - 1)) - x7_1)) : Int).toNat ((wrap64 ((wrap64 ((wrap64 (t157 - t158)) - x6_1)) + 256)) % 256)) 1 (wrap64 (x7_1 + 1))) else (none)) else (none)) else (if 0 ≤ (wrap64 ((wrap64 ((l0.length : Int) - 1)) - x7_1)) then (if (wrap64 ((wrap64 ((l0.length : Int) - 1)) - x7_1)) < (x5_1.length : Int) then (spec_less.l0 k1 l0 l1 (x5_1.set ((wrap64 ((wrap64 ((l0.length : Int) - 1)) - x7_1)) : Int).toNat ((wrap64 ((wrap64 (t157 - t158)) - x6_1)) % 256)) 0 (wrap64 (x7_1 + 1))) else (none)) else (none))) = some r := H
            have A9 := As.mk A90
            clear A90
            by_cases c10 : (wrap64 ((wrap64 (t157 - t158)) - x6_1)) < 0
            · rw [if_pos c10] at H
              have c10b0 : decide ((wrap64 ((wrap64 (t157 - t158)) - x6_1)) < 0) = true := decide_eq_true c10
              clear c10
              obtain ⟨ji11, hji11⟩ : ∃ j_ : Int, (wrap64 ((wrap64 ((l0.length : Int) - 1)) - x7_1)) = j_ := ⟨_, rfl⟩
              replace H : (if 0 ≤ (ji11) then (if (ji11) < (x5_1.length : Int) then (spec_less.l0 k1 l0 l1 (x5_1.set ((ji11) : Int).toNat ((wrap64 ((wrap64 ((wrap64 (t157 - t158)) - x6_1)) + 256)) % 256)) 1 (wrap64 (x7_1 + 1))) else (none)) else (none)) = some r := by first | (rw [hji11] at H; exact H) | (simp only [hji11] at H ⊢; exact H)
              (try rw [hji11] at A8)
              (try rw [hji11] at A9)
              have hji11w : (IntKind.i64.wrap ((wrap64 ((l0.length : Int) - 1)) - x7_1)) = ji11 := (i64_w _).trans hji11
              by_cases c12 : 0 ≤ (ji11)
              · rw [if_pos c12] at H
                have c12b0 : decide (0 ≤ (ji11)) = true := decide_eq_true c12
                clear c12
                by_cases c13 : (ji11) < (x5_1.length : Int)
                · rw [if_pos c13] at H
                  have c13b0 : decide ((ji11) < (x5_1.length : Int)) = true := decide_eq_true c13
                  clear c13
                  obtain ⟨y159, hy159⟩ : ∃ y_ : List Int, y_ = (x5_1.set ((ji11) : Int).toNat ((wrap64 ((wrap64 ((wrap64 (t157 - t158)) - x6_1)) + 256)) % 256)) := ⟨_, rfl⟩
                  replace H : (spec_less.l0 k1 l0 l1 y159 1 (wrap64 (x7_1 + 1))) = some r := by first | (rw [hy159]; with_reducible exact H) | (have H2_ := (Option.bind_some _ _).symm.trans H; rw [hy159]; with_reducible exact H2_) | (have H2_ := (Option.bind_some _ _).symm.trans H; with_reducible exact H2_) | with_reducible exact H | (rw [hy159]; exact H) | exact H
                  have Ny159 := As.mk hy159
                  clear hy159
                  have H' := As.mk H
                  clear H
                  go_wp2_with (first | ((with_reducible refine gate_callee (f := 84) rfl ?_); refine goesL_ (some 20) rfl rfl Tryz.func84 (by kernel_rfl) rfl #[.slice A0 l0.length c0, .int .i64 x7_1] rfl (by (try simp only [List.map_toArray, List.map_cons, List.map_nil]); first | done | rfl | (simp only [List.length_drop, List.length_take]; rfl)) ?_; (with_reducible refine (spec_digit.calls _ _ l0 x7_1 t157 _ ?side1 ?side2 A8.out).mono ?_); (case side1 => repeat (first | exact (Kd.C_below HR0.out HB.out) | (with_reducible refine Kd.C_alloc ?_ _) | (with_reducible refine Kd.C_drewN ?_ _) | (with_reducible refine Kd.C_drew ?_))); (case side2 => exact HC0.out); rintro e w' ⟨rfl, ⟨nd, rfl⟩⟩; refine ⟨_, rfl, ?_⟩; (try (rw [drewN_self wr]; generalize hq_ : World.drewN wr _ = wr; have n0_ : As (Kd.R (Kd.int .u8) 5 wr w.heap.size (fun _ => True) v152 x5_1) := ⟨by rw [← hq_]; exact (by (with_reducible repeat (first | apply Kd.R_alloc | apply Kd.R_drewN | apply Kd.R_drew)); exact HO_5.out)⟩; have n1_ : As (Below w.heap.size w wr) := ⟨by rw [← hq_]; exact (by repeat (first | (with_reducible first | exact HB.out | apply bal | apply pwn | apply bdw) | exact HB.out))⟩; clear HO_5 HB hq_; have HO_5 := n0_; have HB := n1_; clear n0_ n1_))) | ((with_reducible refine gate_callee (f := 84) rfl ?_); refine goesL_ (some 23) rfl rfl Tryz.func84 (by kernel_rfl) rfl #[.slice A1 l1.length c1, .int .i64 x7_1] rfl (by (try simp only [List.map_toArray, List.map_cons, List.map_nil]); first | done | rfl | (simp only [List.length_drop, List.length_take]; rfl)) ?_; (with_reducible refine (spec_digit.calls _ _ l1 x7_1 t158 _ ?side1 ?side2 A9.out).mono ?_); (case side1 => repeat (first | exact (Kd.C_below HR1.out HB.out) | (with_reducible refine Kd.C_alloc ?_ _) | (with_reducible refine Kd.C_drewN ?_ _) | (with_reducible refine Kd.C_drew ?_))); (case side2 => exact HC1.out); rintro e w' ⟨rfl, ⟨nd, rfl⟩⟩; refine ⟨_, rfl, ?_⟩; (try (rw [drewN_self wr]; generalize hq_ : World.drewN wr _ = wr; have n0_ : As (Kd.R (Kd.int .u8) 5 wr w.heap.size (fun _ => True) v152 x5_1) := ⟨by rw [← hq_]; exact (by (with_reducible repeat (first | apply Kd.R_alloc | apply Kd.R_drewN | apply Kd.R_drew)); exact HO_5.out)⟩; have n1_ : As (Below w.heap.size w wr) := ⟨by rw [← hq_]; exact (by repeat (first | (with_reducible first | exact HB.out | apply bal | apply pwn | apply bdw) | exact HB.out))⟩; clear HO_5 HB hq_; have HO_5 := n0_; have HB := n1_; clear n0_ n1_)); have p14 : 0 ≤ ((ji11) : Int) := of_decide_eq_true (by first | (with_reducible assumption) | assumption); have q14 : ((ji11) : Int) < ((x5_1.length : Int) : Int) := of_decide_eq_true (by first | (with_reducible assumption) | assumption); obtain ⟨go14, co14, eo14, gb14, gl14, cl14, HG14⟩ := Kd.R_form HO_5.out (by omega); (first | cases eo14 | (injection eo14 with ea_ en_ ec_; (first | subst ea_ | (injection ea_ with ea_; subst ea_)); subst ec_; clear en_)); have GB14 := As.mk gb14; have GG14 := As.mk HG14; clear gb14 gl14 HG14; obtain ⟨hx14_0, hf14_0⟩ := Kd.R_celln 0 HO_5.out ((ji11) : Int) p14 q14; replace p14 := eq_true p14; replace q14 := eq_true q14; obtain ⟨hy15_, hz15_⟩ := Kd.R_celln 0 HO_5.out ((ji11) : Int) (of_decide_eq_true (by first | (with_reducible assumption) | assumption)) (of_decide_eq_true (by first | (with_reducible assumption) | assumption)); have HP15 := Kd.R_putg HO_5.out ((ji11) : Int) ((wrap64 ((wrap64 ((wrap64 (t157 - t158)) - x6_1)) + 256)) % 256)) | ((with_reducible refine gate_store (t := 5) (p := 39) rfl ?_); refine store_event (t := 5) (p := 39) (v := ?vo_w16) (w1 := (wr.setCell ⟨go14, ((ji11) : Int).toNat, none⟩ (.int .u8 ((wrap64 ((wrap64 ((wrap64 (t157 - t158)) - x6_1)) + 256)) % 256)))) ?hg ?ho ?hn ?hr ?_; (case ho => rfl); (case hg => rfl); (case hn => rfl); (case hr => first | (go_simp; done) | (go_simp; rfl)); intro w16 hw; have hg : wr.grownBy w16 (some go14) := (by rw [hw]; exact HP15.2); have hp_ : Kd.R (Kd.int .u8) 5 w16 w.heap.size (fun _ => True) (.slice (some ⟨go14, 0, none⟩) x5_1.length co14) y159 := (by rw [hw, Ny159.out]; exact HP15.1); clear HP15; have n0_ := As.mk (hp_); have n1_ := As.mk ((by rw [hw]; exact bst (HB.out) GB14.out : Below w.heap.size w w16)); clear HO_5; clear HB; have HO_5 := n0_; have HB := n1_; clear n0_ n1_; clear hg hw hp_))
                  go_roundg k1
                  case measure => have := HK1.out; omega
                  case rel => exact ⟨(y159), (1), (wrap64 (x7_1 + 1)), (by first | rfl | (simp; done) | (simp [*]; done)), (by first | rfl | (simp; done) | (simp [*]; done)), H', ⟨by have := HK1.out; omega⟩, ⟨by (with_reducible repeat (first | apply Kd.R_alloc | apply Kd.R_drewN | apply Kd.R_drew)); exact HO_5.out⟩, ⟨by repeat (first | (with_reducible first | exact HB.out | apply bal | apply pwn | apply bdw) | exact HB.out)⟩⟩
                · rw [if_neg c13] at H
                  exact absurd H (by simp)
              · rw [if_neg c12] at H
                exact absurd H (by simp)
            · rw [if_neg c10] at H
              have c10b0 : decide ((wrap64 ((wrap64 (t157 - t158)) - x6_1)) < 0) = false := decide_eq_false c10
              clear c10
              obtain ⟨ji17, hji17⟩ : ∃ j_ : Int, (wrap64 ((wrap64 ((l0.length : Int) - 1)) - x7_1)) = j_ := ⟨_, rfl⟩
              replace H : (if 0 ≤ (ji17) then (if (ji17) < (x5_1.length : Int) then (spec_less.l0 k1 l0 l1 (x5_1.set ((ji17) : Int).toNat ((wrap64 ((wrap64 (t157 - t158)) - x6_1)) % 256)) 0 (wrap64 (x7_1 + 1))) else (none)) else (none)) = some r := by first | (rw [hji17] at H; exact H) | (simp only [hji17] at H ⊢; exact H)
              (try rw [hji17] at A8)
              (try rw [hji17] at A9)
              have hji17w : (IntKind.i64.wrap ((wrap64 ((l0.length : Int) - 1)) - x7_1)) = ji17 := (i64_w _).trans hji17
              by_cases c18 : 0 ≤ (ji17)
              · rw [if_pos c18] at H
                have c18b0 : decide (0 ≤ (ji17)) = true := decide_eq_true c18
                clear c18
                by_cases c19 : (ji17) < (x5_1.length : Int)
                · rw [if_pos c19] at H
                  have c19b0 : decide ((ji17) < (x5_1.length : Int)) = true := decide_eq_true c19
                  clear c19
                  obtain ⟨y160, hy160⟩ : ∃ y_ : List Int, y_ = (x5_1.set ((ji17) : Int).toNat ((wrap64 ((wrap64 (t157 - t158)) - x6_1)) % 256)) := ⟨_, rfl⟩
                  replace H : (spec_less.l0 k1 l0 l1 y160 0 (wrap64 (x7_1 + 1))) = some r := by first | (rw [hy160]; with_reducible exact H) | (have H2_ := (Option.bind_some _ _).symm.trans H; rw [hy160]; with_reducible exact H2_) | (have H2_ := (Option.bind_some _ _).symm.trans H; with_reducible exact H2_) | with_reducible exact H | (rw [hy160]; exact H) | exact H
                  have Ny160 := As.mk hy160
                  clear hy160
                  have H' := As.mk H
                  clear H
                  go_wp2_with (first | ((with_reducible refine gate_callee (f := 84) rfl ?_); refine goesL_ (some 20) rfl rfl Tryz.func84 (by kernel_rfl) rfl #[.slice A0 l0.length c0, .int .i64 x7_1] rfl (by (try simp only [List.map_toArray, List.map_cons, List.map_nil]); first | done | rfl | (simp only [List.length_drop, List.length_take]; rfl)) ?_; (with_reducible refine (spec_digit.calls _ _ l0 x7_1 t157 _ ?side1 ?side2 A8.out).mono ?_); (case side1 => repeat (first | exact (Kd.C_below HR0.out HB.out) | (with_reducible refine Kd.C_alloc ?_ _) | (with_reducible refine Kd.C_drewN ?_ _) | (with_reducible refine Kd.C_drew ?_))); (case side2 => exact HC0.out); rintro e w' ⟨rfl, ⟨nd, rfl⟩⟩; refine ⟨_, rfl, ?_⟩; (try (rw [drewN_self wr]; generalize hq_ : World.drewN wr _ = wr; have n0_ : As (Kd.R (Kd.int .u8) 5 wr w.heap.size (fun _ => True) v152 x5_1) := ⟨by rw [← hq_]; exact (by (with_reducible repeat (first | apply Kd.R_alloc | apply Kd.R_drewN | apply Kd.R_drew)); exact HO_5.out)⟩; have n1_ : As (Below w.heap.size w wr) := ⟨by rw [← hq_]; exact (by repeat (first | (with_reducible first | exact HB.out | apply bal | apply pwn | apply bdw) | exact HB.out))⟩; clear HO_5 HB hq_; have HO_5 := n0_; have HB := n1_; clear n0_ n1_))) | ((with_reducible refine gate_callee (f := 84) rfl ?_); refine goesL_ (some 23) rfl rfl Tryz.func84 (by kernel_rfl) rfl #[.slice A1 l1.length c1, .int .i64 x7_1] rfl (by (try simp only [List.map_toArray, List.map_cons, List.map_nil]); first | done | rfl | (simp only [List.length_drop, List.length_take]; rfl)) ?_; (with_reducible refine (spec_digit.calls _ _ l1 x7_1 t158 _ ?side1 ?side2 A9.out).mono ?_); (case side1 => repeat (first | exact (Kd.C_below HR1.out HB.out) | (with_reducible refine Kd.C_alloc ?_ _) | (with_reducible refine Kd.C_drewN ?_ _) | (with_reducible refine Kd.C_drew ?_))); (case side2 => exact HC1.out); rintro e w' ⟨rfl, ⟨nd, rfl⟩⟩; refine ⟨_, rfl, ?_⟩; (try (rw [drewN_self wr]; generalize hq_ : World.drewN wr _ = wr; have n0_ : As (Kd.R (Kd.int .u8) 5 wr w.heap.size (fun _ => True) v152 x5_1) := ⟨by rw [← hq_]; exact (by (with_reducible repeat (first | apply Kd.R_alloc | apply Kd.R_drewN | apply Kd.R_drew)); exact HO_5.out)⟩; have n1_ : As (Below w.heap.size w wr) := ⟨by rw [← hq_]; exact (by repeat (first | (with_reducible first | exact HB.out | apply bal | apply pwn | apply bdw) | exact HB.out))⟩; clear HO_5 HB hq_; have HO_5 := n0_; have HB := n1_; clear n0_ n1_)); have p20 : 0 ≤ ((ji17) : Int) := of_decide_eq_true (by first | (with_reducible assumption) | assumption); have q20 : ((ji17) : Int) < ((x5_1.length : Int) : Int) := of_decide_eq_true (by first | (with_reducible assumption) | assumption); obtain ⟨go20, co20, eo20, gb20, gl20, cl20, HG20⟩ := Kd.R_form HO_5.out (by omega); (first | cases eo20 | (injection eo20 with ea_ en_ ec_; (first | subst ea_ | (injection ea_ with ea_; subst ea_)); subst ec_; clear en_)); have GB20 := As.mk gb20; have GG20 := As.mk HG20; clear gb20 gl20 HG20; obtain ⟨hx20_0, hf20_0⟩ := Kd.R_celln 0 HO_5.out ((ji17) : Int) p20 q20; replace p20 := eq_true p20; replace q20 := eq_true q20; obtain ⟨hy21_, hz21_⟩ := Kd.R_celln 0 HO_5.out ((ji17) : Int) (of_decide_eq_true (by first | (with_reducible assumption) | assumption)) (of_decide_eq_true (by first | (with_reducible assumption) | assumption)); have HP21 := Kd.R_putg HO_5.out ((ji17) : Int) ((wrap64 ((wrap64 (t157 - t158)) - x6_1)) % 256)) | ((with_reducible refine gate_store (t := 5) (p := 39) rfl ?_); refine store_event (t := 5) (p := 39) (v := ?vo_w22) (w1 := (wr.setCell ⟨go20, ((ji17) : Int).toNat, none⟩ (.int .u8 ((wrap64 ((wrap64 (t157 - t158)) - x6_1)) % 256)))) ?hg ?ho ?hn ?hr ?_; (case ho => rfl); (case hg => rfl); (case hn => rfl); (case hr => first | (go_simp; done) | (go_simp; rfl)); intro w22 hw; have hg : wr.grownBy w22 (some go20) := (by rw [hw]; exact HP21.2); have hp_ : Kd.R (Kd.int .u8) 5 w22 w.heap.size (fun _ => True) (.slice (some ⟨go20, 0, none⟩) x5_1.length co20) y160 := (by rw [hw, Ny160.out]; exact HP21.1); clear HP21; have n0_ := As.mk (hp_); have n1_ := As.mk ((by rw [hw]; exact bst (HB.out) GB20.out : Below w.heap.size w w22)); clear HO_5; clear HB; have HO_5 := n0_; have HB := n1_; clear n0_ n1_; clear hg hw hp_))
                  go_roundg k1
                  case measure => have := HK1.out; omega
                  case rel => exact ⟨(y160), (0), (wrap64 (x7_1 + 1)), (by first | rfl | (simp; done) | (simp [*]; done)), (by first | rfl | (simp; done) | (simp [*]; done)), H', ⟨by have := HK1.out; omega⟩, ⟨by (with_reducible repeat (first | apply Kd.R_alloc | apply Kd.R_drewN | apply Kd.R_drew)); exact HO_5.out⟩, ⟨by repeat (first | (with_reducible first | exact HB.out | apply bal | apply pwn | apply bdw) | exact HB.out)⟩⟩
                · rw [if_neg c19] at H
                  exact absurd H (by simp)
              · rw [if_neg c18] at H
                exact absurd H (by simp)
          · rw [if_neg c7] at H
            have c7b0 : decide (x7_1 < (l0.length : Int)) = false := decide_eq_false c7
            clear c7
            replace H := Option.bind_eq_some_iff.mp H
            obtain ⟨t154, A230, H⟩ := H
            replace H : (some t154) = some r := H
            have A23 := As.mk A230
            clear A230
            obtain rfl := Option.some.inj H
            obtain ⟨Ao24, co24, eo24⟩ := Kd.R_slice HO_5.out
            subst eo24
            go_wp2_with (first | ((with_reducible refine gate_callee (f := 15) rfl ?_); refine goesL_ (some 41) rfl rfl Tryz.func15 (by kernel_rfl) rfl #[.slice Ao24 x5_1.length co24] rfl (by (try simp only [List.map_toArray, List.map_cons, List.map_nil]); first | done | rfl | (simp only [List.length_drop, List.length_take]; rfl)) ?_; (with_reducible refine (spec_cut.calls k1 _ _ x5_1 t154 _ ?side1 ?side2 A23.out).mono ?_); (case side1 => repeat (first | exact (Kd.R_reads' HO_5.out).2.2 | (with_reducible refine Kd.C_alloc ?_ _) | (with_reducible refine Kd.C_drewN ?_ _) | (with_reducible refine Kd.C_drew ?_))); (case side2 => exact (Kd.R_reads' HO_5.out).2.1); rintro e w25 ⟨v155, rfl, ho0, hb⟩; refine ⟨_, rfl, ?_⟩; have n0_ := As.mk (Kd.R_elder' (by (with_reducible repeat (first | apply Kd.R_alloc | apply Kd.R_drewN | apply Kd.R_drew)); exact HO_5.out) (Kd.R_base ho0) hb); have n1_ := As.mk (Kd.R_lower (Kd.R_new' ho0 (Kd.R_lt (by (with_reducible repeat (first | apply Kd.R_alloc | apply Kd.R_drewN | apply Kd.R_drew)); exact HO_5.out))) (bsz (by repeat (first | (with_reducible first | exact HB.out | apply bal | apply pwn | apply bdw) | exact HB.out)))); have n2_ := As.mk (bsp (by repeat (first | (with_reducible first | exact HB.out | apply bal | apply pwn | apply bdw) | exact HB.out)) hb); clear HO_5; clear HB; have HO_5 := n0_; have HO156 := n1_; have HB := n2_; clear n0_ n1_ n2_; (try clear hb); (try clear hb2); (try clear hk); (try clear hi); (try clear ho0)))
            go_ret
            exact ⟨_, by first | rfl | (simp [errW_none, errW_some] <;> rfl) | (simp [*, errW_none, errW_some] <;> rfl), by (with_reducible repeat (first | apply Kd.R_alloc | apply Kd.R_drewN | apply Kd.R_drew)); exact Kd.R_mono HO156.out (fun _ hk => trivial), by repeat (first | (with_reducible first | exact HB.out | apply bal | apply pwn | apply bdw) | exact HB.out)⟩
    · rw [if_neg c4] at H
      exact absurd H (by simp)
  · rw [if_neg c3] at H
    exact absurd H (by simp)
end Go.Proofs.YtldejfallphhbaaGreatDoor.PNearest
