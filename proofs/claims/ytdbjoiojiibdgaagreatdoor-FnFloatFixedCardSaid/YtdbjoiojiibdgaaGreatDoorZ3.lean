/-
  A part of the proof of FnFloatFixed (packed out of smaller texts by a program of this session; what the proof does not reach is left out).
-/
import Derived.Test.YtdbjoiojiibdgaaGreatDoorProg
import Derived.Test.YtdbjoiojiibdgaaGreatDoorZ1
import Derived.Test.YtdbjoiojiibdgaaGreatDoorZ2
import Derived.Below
import Derived.Deep.Draws
import Derived.Deep.AppendLies
import Derived.Maps.AppendAt
import Derived.OwnWalk
import Derived.Laws.BytesArg
import Derived.Laws.MakeOwn
import Derived.Laws.OwnMore
import Derived.Deep.OwnRows
import Derived.Tactics
import Derived.Lib.ConvBytes
import Derived.Laws.Slices
import Derived.WalkKit
import Derived.KernelRfl
import Derived.RowKit3
import Derived.Deep.LoopGhost
import Derived.Deep.QuietTactic
import Derived.BigQuiet
import Derived.WideLaws
import Derived.Deep.DeepCutAuto
import Derived.Deep.CutBlock
import Derived.Deep.RegionHeld3
import Derived.Laws.Rows
import Derived.Lib.AppendStr
import Derived.ArgAppend
import Derived.Laws.IdiomCopy
import Derived.OrdersHeld
import Derived.Laws.BitsLemmas
import Derived.RowKit
namespace Go.Proofs.YtdbjoiojiibdgaaGreatDoor.PFixed
open Go.RowKit Go.Proofs.YtdbjoiojiibdgaaGreatDoorW.PrintWords Go.Proofs.YtdbjoiojiibdgaaGreatDoorW.PrintLast Go.Proofs.YtdbjoiojiibdgaaGreatDoorW.PrintMore
attribute [local go_sem] max2_int min2_int max_two min_two max_three min_three max_four min_four
set_option linter.unusedVariables false
set_option linter.unusedSimpArgs false
def errW : Option Int → Value
  | none => .nilIface
  | some c => .iface 0 (.int .i64 c)
theorem errW_none : errW none = .nilIface := rfl
theorem errW_some (c : Int) : errW (some c) = .iface 0 (.int .i64 c) := rfl
theorem info3 : (Tryz.prog.info? 3).map (fun i => (i.zero, i.size, i.bytes)) = some (some (.int .i64 0), 1, 8) := by kernel_rfl
theorem info5 : (Tryz.prog.info? 5).map (fun i => (i.zero, i.size, i.bytes)) = some (some (.int .u8 0), 1, 1) := by kernel_rfl
end Go.Proofs.YtdbjoiojiibdgaaGreatDoor.PFixed
namespace Go.Proofs.YtdbjoiojiibdgaaGreatDoor.PFixed
open Go.RowKit Go.Proofs.YtdbjoiojiibdgaaGreatDoorW.PrintWords Go.Proofs.YtdbjoiojiibdgaaGreatDoorW.PrintLast Go.Proofs.YtdbjoiojiibdgaaGreatDoorW.PrintMore
attribute [local go_sem] max2_int min2_int max_two min_two max_three min_three max_four min_four
set_option linter.unusedVariables false
set_option linter.unusedSimpArgs false
def spec_padded.l0 : Nat → ByteArray → Int → Option (ByteArray)
  | 0, _, _ => none
  | k + 1, x0, x1 => if (x0.size : Int) < x1 then (if 1 + x0.size ≤ 9223372036854775807 then (spec_padded.l0 k ((⟨#[48]⟩ : ByteArray) ++ x0) x1) else (none)) else (some x0)
def spec_padded.f (k : Nat) (a0 : ByteArray) (a1 : Int) : Option (ByteArray) := spec_padded.l0 k a0 a1
set_option maxHeartbeats 8000000 in
set_option maxRecDepth 100000 in
theorem spec_padded.calls (k : Nat) (a0 : ByteArray) (a1 : Int) (r : ByteArray) (w : World) (h : spec_padded.f k a0 a1 = some r) :
    Calls Tryz.prog 13 #[.string a0, .int .i64 a1] w fun e w' => e = .returned (.string r) ∧ Drawn0 w w' := by
  have H : (spec_padded.l0 k a0 a1) = some r := h
  clear h
  have H' := Aside0.mk H
  clear H
  go_enter Tryz.func13, Tryz.ntmps13
  go_wp2
  go_loopg [0] k (fun kq v0 w' => ∃ (x0_1 : ByteArray), v0 = .string x0_1 ∧ Aside0 (spec_padded.l0 kq x0_1 a1 = some r) ∧ Aside0 (kq ≤ k) ∧ Drawn0 w w')
  case atStart => exact ⟨(a0), (by first | rfl | (simp; done) | (simp [*]; done)), H', ⟨Nat.le_refl _⟩, by repeat (first | exact Drawn0.refl _ | apply Drawn0.step)⟩
  case round =>
    clear H'
    try clear c1
    try clear p2
    obtain ⟨x0_1, rfl, HA, HK1, ⟨m1, rfl⟩⟩ := hrel
    cases gk with
    | zero => exact absurd HA.out (by simp [spec_padded.l0])
    | succ k1 =>
      have H := HA.out
      clear HA
      simp only [spec_padded.l0] at H
      by_cases c3 : (x0_1.size : Int) < a1
      · rw [if_pos c3] at H
        have c3b0 : decide ((x0_1.size : Int) < a1) = true := decide_eq_true c3
        clear c3
        by_cases c4 : 1 + x0_1.size ≤ 9223372036854775807
        · rw [if_pos c4] at H
          have c4b0 := eq_true c4
          have c4b1 : decide (1 + x0_1.size ≤ 9223372036854775807) = true := decide_eq_true c4
          try have c4b2 : (9223372036854775807 < 1 + x0_1.size) = False := eq_false (Nat.not_lt.2 c4)
          have H' := Aside0.mk H
          clear H
          go_wp2
          go_roundg k1
          case measure => have := HK1.out; omega
          case rel => exact ⟨((⟨#[48]⟩ : ByteArray) ++ x0_1), (by first | rfl | (simp; done) | (simp [*]; done)), H', ⟨by have := HK1.out; omega⟩, by repeat (first | exact Drawn0.refl _ | apply Drawn0.step)⟩
        · rw [if_neg c4] at H
          exact absurd H (by simp)
      · rw [if_neg c3] at H
        have c3b0 : decide ((x0_1.size : Int) < a1) = false := decide_eq_false c3
        clear c3
        obtain rfl := Option.some.inj H
        go_wp2
        go_ret
        exact ⟨by first | rfl | (simp; done) | (simp [*]; done), by repeat (first | exact Drawn0.refl _ | apply Drawn0.step)⟩
def spec_cut.l0 : Nat → List Int → Int → Option (List Int)
  | 0, _, _ => none
  | k + 1, x0, x3 => if x3 < (x0.length : Int) then (if 0 ≤ x3 then (if (rd x0 x3) = 0 then (spec_cut.l0 k x0 (wrap64 (x3 + 1))) else ((some (([] : List Int) : List Int)).bind fun y102 => (if x3 ≤ (x0.length : Int) then (if y102.length + (x0.drop (x3 : Int).toNat).length < 140737488355328 then (some (y102 ++ (x0.drop (x3 : Int).toNat))) else (none)) else (none)))) else (none)) else ((some (([] : List Int) : List Int)).bind fun y109 => (if 0 ≤ x3 then (if x3 ≤ (x0.length : Int) then (if y109.length + (x0.drop (x3 : Int).toNat).length < 140737488355328 then (some (y109 ++ (x0.drop (x3 : Int).toNat))) else (none)) else (none)) else (none)))
def spec_cut.f (k : Nat) (l0 : List Int) : Option (List Int) := spec_cut.l0 k l0 0
theorem spec_cut.mono_l : ∀ k, (∀ y0 y1, LeO (spec_cut.l0 k y0 y1) (spec_cut.l0 (k + 1) y0 y1))
  | 0 => fun _ _ r h => by simp [spec_cut.l0] at h
  | k + 1 => by
    have ih0 := spec_cut.mono_l k
    · intro y0 y1
      unfold spec_cut.l0
      repeat' first
      | (with_reducible exact ih0 _ _)
      | (with_reducible exact LeO.refl _)
      | (with_reducible exact LeO.none _)
      | (with_reducible refine LeO.ite ?_ ?_)
      | (with_reducible refine LeO.bind ?_ (fun _ => ?_))
      | exact ih0 _ _
      | exact LeO.none _
      | refine LeO.ite ?_ ?_
      | refine LeO.bind ?_ (fun _ => ?_)
theorem spec_cut.mono : ∀ a0 k, LeO (spec_cut.f k a0) (spec_cut.f (k + 1) a0) := by
  intro a0 k
  have ih0 := spec_cut.mono_l k
  unfold spec_cut.f
  repeat' first
      | (with_reducible exact ih0 _ _)
      | (with_reducible exact LeO.refl _)
      | (with_reducible exact LeO.none _)
      | (with_reducible refine LeO.ite ?_ ?_)
      | (with_reducible refine LeO.bind ?_ (fun _ => ?_))
      | exact ih0 _ _
      | exact LeO.none _
      | refine LeO.ite ?_ ?_
      | refine LeO.bind ?_ (fun _ => ?_)
set_option maxHeartbeats 8000000 in
set_option maxRecDepth 100000 in
theorem spec_cut.calls (k : Nat) (A0 : Option Addr) (c0 : Nat) (l0 : List Int) (r : List Int) (w : World) (hr0 : Kd.C (Kd.int .u8) w A0 l0.length l0) (hc0 : l0.length ≤ c0) (h : spec_cut.f k l0 = some r) :
    Calls Tryz.prog 32 #[.slice A0 l0.length c0] w fun e w' => ∃ v0_ : Value, e = .returned (v0_) ∧ Kd.R (Kd.int .u8) 5 w' w.heap.size (fun _ => True) v0_ r ∧ Below w.heap.size w w' := by
  have HR0 := Aside0.mk hr0
  have HC0 := Aside0.mk hc0
  clear hr0 hc0
  have HB := Aside0.mk (Below.refl w.heap.size w)
  have H : (spec_cut.l0 k l0 0) = some r := h
  clear h
  have H' := Aside0.mk H
  clear H
  go_enter Tryz.func32, Tryz.ntmps32
  go_wp2
  go_loopg [3] k (fun kq v3 w' => ∃ (x3_1 : Int), v3 = .int .i64 x3_1 ∧ Aside0 (spec_cut.l0 kq l0 x3_1 = some r) ∧ Aside0 (kq ≤ k) ∧ Aside0 (Below w.heap.size w w'))
  case atStart => exact ⟨(0), (by first | rfl | (simp; done) | (simp [*]; done)), H', ⟨Nat.le_refl _⟩, ⟨by repeat (first | (with_reducible first | exact HB.out | apply below_alloc | apply pw_below_drewN | apply below_drew1) | exact HB.out)⟩⟩
  case round =>
    clear H'
    obtain ⟨x3_1, rfl, HA, HK1, HB⟩ := hrel
    cases gk with
    | zero => exact absurd HA.out (by simp [spec_cut.l0])
    | succ k1 =>
      have H := HA.out
      clear HA
      simp only [spec_cut.l0] at H
      by_cases c2 : x3_1 < (l0.length : Int)
      · rw [if_pos c2] at H
        have c2b0 : decide (x3_1 < (l0.length : Int)) = true := decide_eq_true c2
        clear c2
        by_cases c3 : 0 ≤ x3_1
        · rw [if_pos c3] at H
          have c3b0 : decide (0 ≤ x3_1) = true := decide_eq_true c3
          clear c3
          by_cases c4 : (rd l0 x3_1) = 0
          · rw [if_pos c4] at H
            have c4b0 : ((rd l0 x3_1) == 0) = true := beq_iff_eq.mpr c4
            have c4b1 : ((rd l0 x3_1) != 0) = false := bne_eq_false_iff_eq.mpr c4
            clear c4
            have H' := Aside0.mk H
            clear H
            have p101 : 0 ≤ (x3_1 : Int) := of_decide_eq_true (by first | (with_reducible assumption) | assumption)
            have q101 : x3_1 < (l0.length : Int) := of_decide_eq_true (by first | (with_reducible assumption) | assumption)
            obtain ⟨ad101, e101, hx101_0⟩ := Kd.at_int HR0.out x3_1 p101 q101
            cases e101
            replace hx101_0 := (HB.out.cell (World.block_lt_of_cell? w _ hx101_0)).trans hx101_0
            replace p101 := eq_true p101
            replace q101 := eq_true q101
            go_wp2
            go_roundg k1
            case measure => have := HK1.out; omega
            case rel => exact ⟨(wrap64 (x3_1 + 1)), (by first | rfl | (simp; done) | (simp [*]; done)), H', ⟨by have := HK1.out; omega⟩, ⟨by repeat (first | (with_reducible first | exact HB.out | apply below_alloc | apply pw_below_drewN | apply below_drew1) | exact HB.out)⟩⟩
          · rw [if_neg c4] at H
            have c4b0 : ((rd l0 x3_1) == 0) = false := beq_eq_false_iff_ne.mpr c4
            have c4b1 : ((rd l0 x3_1) != 0) = true := bne_iff_ne.mpr c4
            obtain ⟨y102, hy102⟩ : ∃ y_ : List Int, y_ = (([] : List Int)) := ⟨_, rfl⟩
            replace H : (if x3_1 ≤ (l0.length : Int) then (if y102.length + (l0.drop (x3_1 : Int).toNat).length < 140737488355328 then (some (y102 ++ (l0.drop (x3_1 : Int).toNat))) else (none)) else (none)) = some r := by first | (rw [hy102]; with_reducible exact H) | (have H2_ := (Option.bind_some _ _).symm.trans H; rw [hy102]; with_reducible exact H2_) | (have H2_ := (Option.bind_some _ _).symm.trans H; with_reducible exact H2_) | with_reducible exact H | (rw [hy102]; exact H) | exact H
            have Ny102 := Aside0.mk hy102
            clear hy102
            have c5b0 := eq_true (of_decide_eq_true (by first | (with_reducible assumption) | assumption) : 0 ≤ x3_1)
            by_cases c6 : x3_1 ≤ (l0.length : Int)
            · rw [if_pos c6] at H
              have c6b0 := eq_true c6
              have c6b1 : decide (x3_1 ≤ (l0.length : Int)) = true := decide_eq_true c6
              clear c6
              by_cases c7 : y102.length + (l0.drop (x3_1 : Int).toNat).length < 140737488355328
              · rw [if_pos c7] at H
                have LMc7 := Aside0.mk c7
                clear c7
                obtain ⟨y106, hy106⟩ : ∃ y_ : List Int, y_ = (y102 ++ (l0.drop (x3_1 : Int).toNat)) := ⟨_, rfl⟩
                replace H : (some y106) = some r := by first | (rw [hy106]; with_reducible exact H) | (have H2_ := (Option.bind_some _ _).symm.trans H; rw [hy106]; with_reducible exact H2_) | (have H2_ := (Option.bind_some _ _).symm.trans H; with_reducible exact H2_) | with_reducible exact H | (rw [hy106]; exact H) | exact H
                have Ny106 := Aside0.mk hy106
                clear hy106
                obtain rfl := Option.some.inj H
                have p101 : 0 ≤ (x3_1 : Int) := of_decide_eq_true (by first | (with_reducible assumption) | assumption)
                have q101 : x3_1 < (l0.length : Int) := of_decide_eq_true (by first | (with_reducible assumption) | assumption)
                obtain ⟨ad101, e101, hx101_0⟩ := Kd.at_int HR0.out x3_1 p101 q101
                cases e101
                replace hx101_0 := (HB.out.cell (World.block_lt_of_cell? w _ hx101_0)).trans hx101_0
                replace p101 := eq_true p101
                replace q101 := eq_true q101
                go_wp2_with (first | ((with_reducible refine gate_dst (N := 17) rfl ?_); refine Kd.R_lit (Kd.int .u8) _ 5 ?hg (N := 17) ?hd (xs := ([] : List Int)) (inner := []) (ok := fun _ => True) (okp := fun _ => True) ?hr ?hp (fun _ hk => hk) trivial (Below.refl _ _) (Nat.le_refl _) (by simp) ?_; (case hd => rfl); (case hg => rfl); (case hr => first | (go_simp; done) | (go_simp; rfl)); (case hp => exact (Reps.none _ _)); intro v103 w8 ho9 hb hg_ hnew_; clear hg_ hnew_; (first | rw [← Ny102.out] at ho9 | (simp only [Int.reduceToNat] at ho9; rw [← Ny102.out] at ho9)); have n0_ := Aside0.mk (Kd.R_lower ho9 (below_size (by repeat (first | (with_reducible first | exact HB.out | apply below_alloc | apply pw_below_drewN | apply below_drew1) | exact HB.out)))); have n1_ := Aside0.mk (below_step (by repeat (first | (with_reducible first | exact HB.out | apply below_alloc | apply pw_below_drewN | apply below_drew1) | exact HB.out)) hb); clear HB; have HO104 := n0_; have HB := n1_; clear n0_ n1_; clear hb ho9; obtain ⟨i010, hi010, _, hsz10, _⟩ := info_parts info5; obtain ⟨A10, hcut10, hA10, hC10⟩ := print_drop_of (P := Tryz.prog) (Value.int .u8) 0 35 5 .i64 Tryz.underlying35 hi010 hsz10 (some ad101) c0 l0 x3_1 (of_decide_eq_true (by first | (with_reducible assumption) | assumption)) (of_decide_eq_true (by first | (with_reducible assumption) | assumption)) HC0.out; have HR105 := Aside0.mk (Kd.C_of_reads (h1 := fun _ => rfl) (hA10 _ (Kd.reads_of_C HR0.out))); have HC105 := Aside0.mk hC10; clear hA10 hC10 hi010 hsz10) | ((with_reducible refine gate_builtin (b := .append) (xs := #[.tmp 17, .tmp 20]) rfl ?_); at_builtin; refine Kd.R_append_rows (Kd.int .u8) (w0 := w) w.heap.size rfl (.tmp 17) (.tmp 20) 35 5 (.int .u8 0) 1 rfl Tryz.underlying35 info5 rfl (by decide) (by omega) v103 y102 (l0.drop (x3_1 : Int).toNat) _ _ _ (fun _ => True) (fun _ => False) rfl rfl ?aO ?aR (fun _ _ h => h) (fun _ h => h.elim) ?aF ?aB ?aS ?aL ?_; (case aR => first | (rw [← show (l0.drop (x3_1 : Int).toNat).length = (l0.length - x3_1.toNat) from List.length_drop]; repeat (first | exact (Kd.C_below HR105.out HB.out) | (with_reducible refine Kd.C_alloc ?_ _) | (with_reducible refine Kd.C_drewN ?_ _) | (with_reducible refine Kd.C_drew ?_))) | (repeat (first | exact (Kd.C_below HR105.out HB.out) | (with_reducible refine Kd.C_alloc ?_ _) | (with_reducible refine Kd.C_drewN ?_ _) | (with_reducible refine Kd.C_drew ?_)))); (case aB => exact (by repeat (first | (with_reducible first | exact HB.out | apply below_alloc | apply pw_below_drewN | apply below_drew1) | exact HB.out))); (case aF => exact (fun _ _ => trivial)); (case aO => exact (by (with_reducible repeat (first | apply Kd.R_alloc | apply Kd.R_drewN | apply Kd.R_drew)); exact HO104.out)); (case aS => exact (below_size (by repeat (first | (with_reducible first | exact HB.out | apply below_alloc | apply pw_below_drewN | apply below_drew1) | exact HB.out)))); (case aL => have := LMc7.out; have hlx_ := (show (l0.drop (x3_1 : Int).toNat).length = (l0.length - x3_1.toNat) from List.length_drop); omega); intro v107 w11 ho hb hg hat; rw [← Ny106.out] at ho; have n0_ := Aside0.mk (hb); have n1_ := Aside0.mk (ho); clear HB; clear HO104; have HB := n0_; have HO108 := n1_; clear n0_ n1_; clear ho hb hg hat))
                go_ret
                exact ⟨_, by first | rfl | (simp [errW_none, errW_some] <;> rfl) | (simp [*, errW_none, errW_some] <;> rfl), by (with_reducible repeat (first | apply Kd.R_alloc | apply Kd.R_drewN | apply Kd.R_drew)); exact HO108.out, by repeat (first | (with_reducible first | exact HB.out | apply below_alloc | apply pw_below_drewN | apply below_drew1) | exact HB.out)⟩
              · rw [if_neg c7] at H
                exact absurd H (by simp)
            · rw [if_neg c6] at H
              exact absurd H (by simp)
        · rw [if_neg c3] at H
          exact absurd H (by simp)
      · rw [if_neg c2] at H
        have c2b0 : decide (x3_1 < (l0.length : Int)) = false := decide_eq_false c2
        clear c2
        obtain ⟨y109, hy109⟩ : ∃ y_ : List Int, y_ = (([] : List Int)) := ⟨_, rfl⟩
        replace H : (if 0 ≤ x3_1 then (if x3_1 ≤ (l0.length : Int) then (if y109.length + (l0.drop (x3_1 : Int).toNat).length < 140737488355328 then (some (y109 ++ (l0.drop (x3_1 : Int).toNat))) else (none)) else (none)) else (none)) = some r := by first | (rw [hy109]; with_reducible exact H) | (have H2_ := (Option.bind_some _ _).symm.trans H; rw [hy109]; with_reducible exact H2_) | (have H2_ := (Option.bind_some _ _).symm.trans H; with_reducible exact H2_) | with_reducible exact H | (rw [hy109]; exact H) | exact H
        have Ny109 := Aside0.mk hy109
        clear hy109
        by_cases c12 : 0 ≤ x3_1
        · rw [if_pos c12] at H
          have c12b0 := eq_true c12
          have c12b1 : decide (0 ≤ x3_1) = true := decide_eq_true c12
          clear c12
          by_cases c13 : x3_1 ≤ (l0.length : Int)
          · rw [if_pos c13] at H
            have c13b0 := eq_true c13
            have c13b1 : decide (x3_1 ≤ (l0.length : Int)) = true := decide_eq_true c13
            clear c13
            by_cases c14 : y109.length + (l0.drop (x3_1 : Int).toNat).length < 140737488355328
            · rw [if_pos c14] at H
              have LMc14 := Aside0.mk c14
              clear c14
              obtain ⟨y113, hy113⟩ : ∃ y_ : List Int, y_ = (y109 ++ (l0.drop (x3_1 : Int).toNat)) := ⟨_, rfl⟩
              replace H : (some y113) = some r := by first | (rw [hy113]; with_reducible exact H) | (have H2_ := (Option.bind_some _ _).symm.trans H; rw [hy113]; with_reducible exact H2_) | (have H2_ := (Option.bind_some _ _).symm.trans H; with_reducible exact H2_) | with_reducible exact H | (rw [hy113]; exact H) | exact H
              have Ny113 := Aside0.mk hy113
              clear hy113
              obtain rfl := Option.some.inj H
              go_wp2_with (first | ((with_reducible refine gate_dst (N := 17) rfl ?_); refine Kd.R_lit (Kd.int .u8) _ 5 ?hg (N := 17) ?hd (xs := ([] : List Int)) (inner := []) (ok := fun _ => True) (okp := fun _ => True) ?hr ?hp (fun _ hk => hk) trivial (Below.refl _ _) (Nat.le_refl _) (by simp) ?_; (case hd => rfl); (case hg => rfl); (case hr => first | (go_simp; done) | (go_simp; rfl)); (case hp => exact (Reps.none _ _)); intro v110 w15 ho16 hb hg_ hnew_; clear hg_ hnew_; (first | rw [← Ny109.out] at ho16 | (simp only [Int.reduceToNat] at ho16; rw [← Ny109.out] at ho16)); have n0_ := Aside0.mk (Kd.R_lower ho16 (below_size (by repeat (first | (with_reducible first | exact HB.out | apply below_alloc | apply pw_below_drewN | apply below_drew1) | exact HB.out)))); have n1_ := Aside0.mk (below_step (by repeat (first | (with_reducible first | exact HB.out | apply below_alloc | apply pw_below_drewN | apply below_drew1) | exact HB.out)) hb); clear HB; have HO111 := n0_; have HB := n1_; clear n0_ n1_; clear hb ho16; obtain ⟨i017, hi017, _, hsz17, _⟩ := info_parts info5; obtain ⟨A17, hcut17, hA17, hC17⟩ := print_drop_of (P := Tryz.prog) (Value.int .u8) 0 35 5 .i64 Tryz.underlying35 hi017 hsz17 A0 c0 l0 x3_1 (of_decide_eq_true (by first | (with_reducible assumption) | assumption)) (of_decide_eq_true (by first | (with_reducible assumption) | assumption)) HC0.out; have HR112 := Aside0.mk (Kd.C_of_reads (h1 := fun _ => rfl) (hA17 _ (Kd.reads_of_C HR0.out))); have HC112 := Aside0.mk hC17; clear hA17 hC17 hi017 hsz17) | ((with_reducible refine gate_builtin (b := .append) (xs := #[.tmp 17, .tmp 20]) rfl ?_); at_builtin; refine Kd.R_append_rows (Kd.int .u8) (w0 := w) w.heap.size rfl (.tmp 17) (.tmp 20) 35 5 (.int .u8 0) 1 rfl Tryz.underlying35 info5 rfl (by decide) (by omega) v110 y109 (l0.drop (x3_1 : Int).toNat) _ _ _ (fun _ => True) (fun _ => False) rfl rfl ?aO ?aR (fun _ _ h => h) (fun _ h => h.elim) ?aF ?aB ?aS ?aL ?_; (case aR => first | (rw [← show (l0.drop (x3_1 : Int).toNat).length = (l0.length - x3_1.toNat) from List.length_drop]; repeat (first | exact (Kd.C_below HR112.out HB.out) | (with_reducible refine Kd.C_alloc ?_ _) | (with_reducible refine Kd.C_drewN ?_ _) | (with_reducible refine Kd.C_drew ?_))) | (repeat (first | exact (Kd.C_below HR112.out HB.out) | (with_reducible refine Kd.C_alloc ?_ _) | (with_reducible refine Kd.C_drewN ?_ _) | (with_reducible refine Kd.C_drew ?_)))); (case aB => exact (by repeat (first | (with_reducible first | exact HB.out | apply below_alloc | apply pw_below_drewN | apply below_drew1) | exact HB.out))); (case aF => exact (fun _ _ => trivial)); (case aO => exact (by (with_reducible repeat (first | apply Kd.R_alloc | apply Kd.R_drewN | apply Kd.R_drew)); exact HO111.out)); (case aS => exact (below_size (by repeat (first | (with_reducible first | exact HB.out | apply below_alloc | apply pw_below_drewN | apply below_drew1) | exact HB.out)))); (case aL => have := LMc14.out; have hlx_ := (show (l0.drop (x3_1 : Int).toNat).length = (l0.length - x3_1.toNat) from List.length_drop); omega); intro v114 w18 ho hb hg hat; rw [← Ny113.out] at ho; have n0_ := Aside0.mk (hb); have n1_ := Aside0.mk (ho); clear HB; clear HO111; have HB := n0_; have HO115 := n1_; clear n0_ n1_; clear ho hb hg hat))
              go_ret
              exact ⟨_, by first | rfl | (simp [errW_none, errW_some] <;> rfl) | (simp [*, errW_none, errW_some] <;> rfl), by (with_reducible repeat (first | apply Kd.R_alloc | apply Kd.R_drewN | apply Kd.R_drew)); exact HO115.out, by repeat (first | (with_reducible first | exact HB.out | apply below_alloc | apply pw_below_drewN | apply below_drew1) | exact HB.out)⟩
            · rw [if_neg c14] at H
              exact absurd H (by simp)
          · rw [if_neg c13] at H
            exact absurd H (by simp)
        · rw [if_neg c12] at H
          exact absurd H (by simp)
def spec_Of.f (k : Nat) (a0 : Bool) (l1 : List Int) : Option (Bool × List Int) := (spec_cut.f k l1).bind fun t117 => (if a0 = true then (some (decide ((t117.length : Int) > 0), t117)) else (some (false, t117)))
theorem spec_Of.mono : ∀ a0 a1 k, LeO (spec_Of.f k a0 a1) (spec_Of.f (k + 1) a0 a1) := by
  intro a0 a1 k
  unfold spec_Of.f
  repeat' first
      | (with_reducible exact spec_cut.mono _ _)
      | (with_reducible exact LeO.refl _)
      | (with_reducible exact LeO.none _)
      | (with_reducible refine LeO.ite ?_ ?_)
      | (with_reducible refine LeO.bind ?_ (fun _ => ?_))
      | exact spec_cut.mono _ _
      | exact LeO.none _
      | refine LeO.ite ?_ ?_
      | refine LeO.bind ?_ (fun _ => ?_)
set_option maxHeartbeats 8000000 in
set_option maxRecDepth 100000 in
theorem spec_Of.calls (k : Nat) (a0 : Bool) (A1 : Option Addr) (c1 : Nat) (l1 : List Int) (r1 : Bool) (r2 : List Int) (w : World) (hr1 : Kd.C (Kd.int .u8) w A1 l1.length l1) (hc1 : l1.length ≤ c1) (h : spec_Of.f k a0 l1 = some (r1, r2)) :
    Calls Tryz.prog 20 #[.bool a0, .slice A1 l1.length c1] w fun e w' => ∃ v1_ : Value, e = .returned (.agg #[.bool r1, v1_]) ∧ Kd.R (Kd.int .u8) 5 w' w.heap.size (fun _ => True) v1_ r2 ∧ Below w.heap.size w w' := by
  have hu37 := Tryz.underlying37
  have HR1 := Aside0.mk hr1
  have HC1 := Aside0.mk hc1
  clear hr1 hc1
  have HB := Aside0.mk (Below.refl w.heap.size w)
  have H : ((spec_cut.f k l1).bind fun t117 => (if a0 = true then (some (decide ((t117.length : Int) > 0), t117)) else (some (false, t117)))) = some (r1, r2) := h
  clear h
  replace H := Option.bind_eq_some_iff.mp H
  obtain ⟨t117, A30, H⟩ := H
  replace H : (if a0 = true then (some (decide ((t117.length : Int) > 0), t117)) else (some (false, t117))) = some (r1, r2) := H
  have A3 := Aside0.mk A30
  clear A30
  by_cases c4 : a0 = true
  · subst c4
    have H1 : (some (decide ((t117.length : Int) > 0), t117)) = some (r1, r2) := by rw [if_pos rfl] at H; exact H
    clear H
    have H := H1
    clear H1
    simp only [Option.some.injEq, Prod.mk.injEq] at H
    obtain ⟨rfl, rfl⟩ := H
    go_enter Tryz.func20, Tryz.ntmps20
    go_wp2_with (first | ((with_reducible refine gate_dst (N := 4) rfl ?_); (try (refine gate_guard (by rfl) ?_; dsimp only)); refine box_event ?hg (N := 4) ?hd (cs := #[.bool false, .slice none 0 0]) (t := 37) ?hr ?_; (case hd => rfl); (case hg => rfl); (case hr => first | (go_simp; done) | (go_simp; rfl)); intro gb116 hg w5 hbox hb; have n0_ := Aside0.mk (below_step (by repeat (first | (with_reducible first | exact HB.out | apply below_alloc | apply pw_below_drewN | apply below_drew1) | exact HB.out)) hb); have n1_ := Aside0.mk (hbox); have n2_ := Aside0.mk ((by rw [hg]; exact (below_size (by repeat (first | (with_reducible first | exact HB.out | apply below_alloc | apply pw_below_drewN | apply below_drew1) | exact HB.out))) : w.heap.size ≤ gb116)); have n3_ := Aside0.mk ((by rw [hg]; exact (below_size (by repeat (first | (with_reducible first | exact HB.out | apply below_alloc | apply pw_below_drewN | apply below_drew1) | exact HB.out))) : w.heap.size ≤ gb116)); clear HB; have HB := n0_; have BK116 := n1_; have GW116 := n2_; have GE116 := n3_; clear n0_ n1_ n2_ n3_; clear hb hbox hg) | ((with_reducible refine gate_callee (f := 32) rfl ?_); refine goesL_ (some 7) rfl rfl Tryz.func32 (by kernel_rfl) rfl #[.slice A1 l1.length c1] rfl (by (try simp only [List.map_toArray, List.map_cons, List.map_nil]); first | done | rfl | (simp only [List.length_drop, List.length_take]; rfl)) ?_; (with_reducible refine (spec_cut.calls k _ _ l1 t117 _ ?side1 ?side2 A3.out).mono ?_); (case side1 => repeat (first | exact (Kd.C_below HR1.out HB.out) | (with_reducible refine Kd.C_alloc ?_ _) | (with_reducible refine Kd.C_drewN ?_ _) | (with_reducible refine Kd.C_drew ?_))); (case side2 => exact HC1.out); rintro e w6 ⟨v118, rfl, ho0, hb⟩; refine ⟨_, rfl, ?_⟩; have n0_ := Aside0.mk (Kd.R_lower ho0 (below_size (by repeat (first | (with_reducible first | exact HB.out | apply below_alloc | apply pw_below_drewN | apply below_drew1 | refine below_set ?_ GE116.out) | exact HB.out)))); have n1_ := Aside0.mk (blk_below (g := gb116) (o := .cells #[.bool false, .slice none 0 0] 37 (0, 0)) (by (with_reducible repeat (first | refine blk_drewN ?_ _ | refine blk_drew ?_ | refine blk_alloc ?_ _)); exact BK116.out) hb); have n2_ := Aside0.mk (below_step (by repeat (first | (with_reducible first | exact HB.out | apply below_alloc | apply pw_below_drewN | apply below_drew1 | refine below_set ?_ GE116.out) | exact HB.out)) hb); clear BK116; clear HB; have HO119 := n0_; have BK116 := n1_; have HB := n2_; clear n0_ n1_ n2_; (try clear hb); (try clear hb2); (try clear hk); (try clear hi); (try clear ho0); obtain ⟨Ao7, co7, eo7⟩ := Kd.R_slice HO119.out; subst eo7; have hcz8_0 : w6.cell? ⟨gb116, 0, none⟩ = some (.bool false) := (blk_cell BK116.out 0).trans rfl; have hcz8_1 : w6.cell? ⟨gb116, 1, none⟩ = some (.slice none 0 0) := (blk_cell BK116.out 1).trans rfl; have hfz8_0 := blk_frozen BK116.out 0; have hfz8_1 := blk_frozen BK116.out 1))
    refine bodyPost_ret (results_cell_row rfl _ _ gb116 37 #[.bool (decide (0 < t117.length)), .slice Ao7 t117.length co7] (0, 0) _ rfl (by (with_reducible repeat (first | refine blk_drewN ?_ _ | refine blk_drew ?_ | refine blk_alloc ?_ _)); refine blk_put (cs := #[.bool (decide (0 < t117.length)), .slice none 0 0]) ?_ 1 _ rfl; (with_reducible repeat (first | refine blk_drewN ?_ _ | refine blk_drew ?_ | refine blk_alloc ?_ _)); refine blk_put (cs := #[.bool false, .slice none 0 0]) ?_ 0 _ rfl; (with_reducible repeat (first | refine blk_drewN ?_ _ | refine blk_drew ?_ | refine blk_alloc ?_ _)); exact BK116.out) Tryz.underlying37 rfl (by kernel_rfl)) rfl ?_
    exact ⟨_, by first | rfl | (simp [errW_none, errW_some] <;> rfl) | (simp [*, errW_none, errW_some] <;> rfl), by (with_reducible repeat (first | apply Kd.R_alloc | apply Kd.R_drewN | apply Kd.R_drew)); exact Kd.R_mono (Kd.R_far (p := ⟨gb116, 1, none⟩) (Kd.R_far (p := ⟨gb116, 0, none⟩) (Kd.R_types HO119.out BK116.out (by decide)) (fun _ hk => hk.2) (.bool (decide (0 < t117.length)))) (fun _ hk => hk.2) (.slice Ao7 t117.length co7)) (fun _ hk => trivial), by repeat (first | (with_reducible first | exact HB.out | apply below_alloc | apply pw_below_drewN | apply below_drew1 | refine below_set ?_ GE116.out) | exact HB.out)⟩
  · replace c4 := Bool.eq_false_iff.mpr c4
    subst c4
    have H1 : (some (false, t117)) = some (r1, r2) := by rw [if_neg (show ¬ (false = true) by decide)] at H; exact H
    clear H
    have H := H1
    clear H1
    simp only [Option.some.injEq, Prod.mk.injEq] at H
    obtain ⟨rfl, rfl⟩ := H
    go_enter Tryz.func20, Tryz.ntmps20
    go_wp2_with (first | ((with_reducible refine gate_dst (N := 4) rfl ?_); (try (refine gate_guard (by rfl) ?_; dsimp only)); refine box_event ?hg (N := 4) ?hd (cs := #[.bool false, .slice none 0 0]) (t := 37) ?hr ?_; (case hd => rfl); (case hg => rfl); (case hr => first | (go_simp; done) | (go_simp; rfl)); intro gb116 hg w9 hbox hb; have n0_ := Aside0.mk (below_step (by repeat (first | (with_reducible first | exact HB.out | apply below_alloc | apply pw_below_drewN | apply below_drew1) | exact HB.out)) hb); have n1_ := Aside0.mk (hbox); have n2_ := Aside0.mk ((by rw [hg]; exact (below_size (by repeat (first | (with_reducible first | exact HB.out | apply below_alloc | apply pw_below_drewN | apply below_drew1) | exact HB.out))) : w.heap.size ≤ gb116)); have n3_ := Aside0.mk ((by rw [hg]; exact (below_size (by repeat (first | (with_reducible first | exact HB.out | apply below_alloc | apply pw_below_drewN | apply below_drew1) | exact HB.out))) : w.heap.size ≤ gb116)); clear HB; have HB := n0_; have BK116 := n1_; have GW116 := n2_; have GE116 := n3_; clear n0_ n1_ n2_ n3_; clear hb hbox hg) | ((with_reducible refine gate_callee (f := 32) rfl ?_); refine goesL_ (some 7) rfl rfl Tryz.func32 (by kernel_rfl) rfl #[.slice A1 l1.length c1] rfl (by (try simp only [List.map_toArray, List.map_cons, List.map_nil]); first | done | rfl | (simp only [List.length_drop, List.length_take]; rfl)) ?_; (with_reducible refine (spec_cut.calls k _ _ l1 t117 _ ?side1 ?side2 A3.out).mono ?_); (case side1 => repeat (first | exact (Kd.C_below HR1.out HB.out) | (with_reducible refine Kd.C_alloc ?_ _) | (with_reducible refine Kd.C_drewN ?_ _) | (with_reducible refine Kd.C_drew ?_))); (case side2 => exact HC1.out); rintro e w10 ⟨v118, rfl, ho0, hb⟩; refine ⟨_, rfl, ?_⟩; have n0_ := Aside0.mk (Kd.R_lower ho0 (below_size (by repeat (first | (with_reducible first | exact HB.out | apply below_alloc | apply pw_below_drewN | apply below_drew1 | refine below_set ?_ GE116.out) | exact HB.out)))); have n1_ := Aside0.mk (blk_below (g := gb116) (o := .cells #[.bool false, .slice none 0 0] 37 (0, 0)) (by (with_reducible repeat (first | refine blk_drewN ?_ _ | refine blk_drew ?_ | refine blk_alloc ?_ _)); exact BK116.out) hb); have n2_ := Aside0.mk (below_step (by repeat (first | (with_reducible first | exact HB.out | apply below_alloc | apply pw_below_drewN | apply below_drew1 | refine below_set ?_ GE116.out) | exact HB.out)) hb); clear BK116; clear HB; have HO119 := n0_; have BK116 := n1_; have HB := n2_; clear n0_ n1_ n2_; (try clear hb); (try clear hb2); (try clear hk); (try clear hi); (try clear ho0); obtain ⟨Ao11, co11, eo11⟩ := Kd.R_slice HO119.out; subst eo11; have hcz12_0 : w10.cell? ⟨gb116, 0, none⟩ = some (.bool false) := (blk_cell BK116.out 0).trans rfl; have hcz12_1 : w10.cell? ⟨gb116, 1, none⟩ = some (.slice none 0 0) := (blk_cell BK116.out 1).trans rfl; have hfz12_0 := blk_frozen BK116.out 0; have hfz12_1 := blk_frozen BK116.out 1))
    refine bodyPost_ret (results_cell_row rfl _ _ gb116 37 #[.bool false, .slice Ao11 t117.length co11] (0, 0) _ rfl (by (with_reducible repeat (first | refine blk_drewN ?_ _ | refine blk_drew ?_ | refine blk_alloc ?_ _)); refine blk_put (cs := #[.bool false, .slice none 0 0]) ?_ 1 _ rfl; (with_reducible repeat (first | refine blk_drewN ?_ _ | refine blk_drew ?_ | refine blk_alloc ?_ _)); refine blk_put (cs := #[.bool false, .slice none 0 0]) ?_ 0 _ rfl; (with_reducible repeat (first | refine blk_drewN ?_ _ | refine blk_drew ?_ | refine blk_alloc ?_ _)); exact BK116.out) Tryz.underlying37 rfl (by kernel_rfl)) rfl ?_
    exact ⟨_, by first | rfl | (simp [errW_none, errW_some] <;> rfl) | (simp [*, errW_none, errW_some] <;> rfl), by (with_reducible repeat (first | apply Kd.R_alloc | apply Kd.R_drewN | apply Kd.R_drew)); exact Kd.R_mono (Kd.R_far (p := ⟨gb116, 1, none⟩) (Kd.R_far (p := ⟨gb116, 0, none⟩) (Kd.R_types HO119.out BK116.out (by decide)) (fun _ hk => hk.2) (.bool false)) (fun _ hk => hk.2) (.slice Ao11 t117.length co11)) (fun _ hk => trivial), by repeat (first | (with_reducible first | exact HB.out | apply below_alloc | apply pw_below_drewN | apply below_drew1 | refine below_set ?_ GE116.out) | exact HB.out)⟩
def spec_bytesOf.l0 : Nat → Int → List Int → Int → Option (List Int)
  | 0, _, _, _ => none
  | k + 1, x0, x3, x4 => if x4 ≥ 0 then (if 0 ≤ x4 then (if x4 < (x3.length : Int) then (spec_bytesOf.l0 k (x0 / 256) (x3.set (x4 : Int).toNat ((x0) % 256)) (wrap64 (x4 - 1))) else (none)) else (none)) else (some x3)
def spec_bytesOf.f (k : Nat) (a0 : Int) : Option (List Int) := if 8 ≤ 281474976710656 then (spec_bytesOf.l0 k a0 (List.replicate 8 0) 7) else (none)
theorem spec_bytesOf.mono_l : ∀ k, (∀ y0 y1 y2, LeO (spec_bytesOf.l0 k y0 y1 y2) (spec_bytesOf.l0 (k + 1) y0 y1 y2))
  | 0 => fun _ _ _ r h => by simp [spec_bytesOf.l0] at h
  | k + 1 => by
    have ih0 := spec_bytesOf.mono_l k
    · intro y0 y1 y2
      unfold spec_bytesOf.l0
      repeat' first
      | (with_reducible exact ih0 _ _ _)
      | (with_reducible exact LeO.refl _)
      | (with_reducible exact LeO.none _)
      | (with_reducible refine LeO.ite ?_ ?_)
      | (with_reducible refine LeO.bind ?_ (fun _ => ?_))
      | exact ih0 _ _ _
      | exact LeO.none _
      | refine LeO.ite ?_ ?_
      | refine LeO.bind ?_ (fun _ => ?_)
theorem spec_bytesOf.mono : ∀ a0 k, LeO (spec_bytesOf.f k a0) (spec_bytesOf.f (k + 1) a0) := by
  intro a0 k
  have ih0 := spec_bytesOf.mono_l k
  unfold spec_bytesOf.f
  repeat' first
      | (with_reducible exact ih0 _ _ _)
      | (with_reducible exact LeO.refl _)
      | (with_reducible exact LeO.none _)
      | (with_reducible refine LeO.ite ?_ ?_)
      | (with_reducible refine LeO.bind ?_ (fun _ => ?_))
      | exact ih0 _ _ _
      | exact LeO.none _
      | refine LeO.ite ?_ ?_
      | refine LeO.bind ?_ (fun _ => ?_)
set_option maxHeartbeats 8000000 in
set_option maxRecDepth 100000 in
theorem spec_bytesOf.calls (k : Nat) (a0 : Int) (r : List Int) (w : World) (h : spec_bytesOf.f k a0 = some r) :
    Calls Tryz.prog 21 #[.int .u64 a0] w fun e w' => ∃ v0_ : Value, e = .returned (v0_) ∧ Kd.R (Kd.int .u8) 5 w' w.heap.size (fun _ => True) v0_ r ∧ Below w.heap.size w w' := by
  have HB := Aside0.mk (Below.refl w.heap.size w)
  have H : (if 8 ≤ 281474976710656 then (spec_bytesOf.l0 k a0 (List.replicate 8 0) 7) else (none)) = some r := h
  clear h
  by_cases c2 : 8 ≤ 281474976710656
  · rw [if_pos c2] at H
    have c2b0 := eq_true c2
    have c2b1 : decide (8 ≤ 281474976710656) = true := decide_eq_true c2
    clear c2
    obtain ⟨y120, hy120⟩ : ∃ y_ : List Int, y_ = (List.replicate 8 0) := ⟨_, rfl⟩
    replace H : (spec_bytesOf.l0 k a0 y120 7) = some r := by first | (rw [hy120]; with_reducible exact H) | (have H2_ := (Option.bind_some _ _).symm.trans H; rw [hy120]; with_reducible exact H2_) | (have H2_ := (Option.bind_some _ _).symm.trans H; with_reducible exact H2_) | with_reducible exact H | (rw [hy120]; exact H) | exact H
    have Ny120 := Aside0.mk hy120
    clear hy120
    have H' := Aside0.mk H
    clear H
    go_enter Tryz.func21, Tryz.ntmps21
    go_wp2_with (first | ((with_reducible refine gate_dst (N := 5) rfl ?_); refine Kd.R_make (Kd.int .u8) _ 5 rfl (N := 5) rfl 35 _ _ rfl 8 rfl rfl Tryz.underlying35 (.int .u8 0) 1 info5 rfl (by decide) (by omega) 0 (ok := fun _ => True) (okp := fun _ => True) rfl (fun _ hk => hk) trivial (by omega) (by omega) (Below.refl _ _) (Nat.le_refl _) ?_; intro v121 w3 ho4 hb hg_ hnew_; clear hg_ hnew_; (first | rw [← Ny120.out] at ho4 | (simp only [Int.reduceToNat] at ho4; rw [← Ny120.out] at ho4)); have n0_ := Aside0.mk (Kd.R_lower ho4 (below_size (by repeat (first | (with_reducible first | exact HB.out | apply below_alloc | apply pw_below_drewN | apply below_drew1) | exact HB.out)))); have n1_ := Aside0.mk (below_step (by repeat (first | (with_reducible first | exact HB.out | apply below_alloc | apply pw_below_drewN | apply below_drew1) | exact HB.out)) hb); clear HB; have HO122 := n0_; have HB := n1_; clear n0_ n1_; clear hb ho4))
    go_loopg [0, 4] k (fun kq v0 v4 w' => ∃ (x0_1 : Int) (x3_1 : List Int) (x4_1 : Int), v0 = .int .u64 x0_1 ∧ v4 = .int .i64 x4_1 ∧ Aside0 (spec_bytesOf.l0 kq x0_1 x3_1 x4_1 = some r) ∧ Aside0 (kq ≤ k) ∧ Aside0 (Kd.R (Kd.int .u8) 5 w' w.heap.size (fun _ => True) v121 x3_1) ∧ Aside0 (Below w.heap.size w w'))
    case atStart => exact ⟨(a0), (y120), (7), (by first | rfl | (simp; done) | (simp [*]; done)), (by first | rfl | (simp; done) | (simp [*]; done)), H', ⟨Nat.le_refl _⟩, ⟨by (with_reducible repeat (first | apply Kd.R_alloc | apply Kd.R_drewN | apply Kd.R_drew)); exact HO122.out⟩, ⟨by repeat (first | (with_reducible first | exact HB.out | apply below_alloc | apply pw_below_drewN | apply below_drew1) | exact HB.out)⟩⟩
    case round =>
      clear H'
      try clear c2
      try clear c2b0
      try clear c2b1
      try clear p2
      obtain ⟨x0_1, x3_1, x4_1, rfl, rfl, HA, HK1, HO_3, HB⟩ := hrel
      cases gk with
      | zero => exact absurd HA.out (by simp [spec_bytesOf.l0])
      | succ k1 =>
        have H := HA.out
        clear HA
        simp only [spec_bytesOf.l0] at H
        by_cases c5 : x4_1 ≥ 0
        · rw [if_pos c5] at H
          have c5b0 : decide (0 ≤ x4_1) = true := decide_eq_true c5
          clear c5
          by_cases c6 : 0 ≤ x4_1
          · rw [if_pos c6] at H
            have c6b0 : decide (0 ≤ x4_1) = true := decide_eq_true c6
            clear c6
            by_cases c7 : x4_1 < (x3_1.length : Int)
            · rw [if_pos c7] at H
              have c7b0 : decide (x4_1 < (x3_1.length : Int)) = true := decide_eq_true c7
              clear c7
              obtain ⟨y123, hy123⟩ : ∃ y_ : List Int, y_ = (x3_1.set (x4_1 : Int).toNat ((x0_1) % 256)) := ⟨_, rfl⟩
              replace H : (spec_bytesOf.l0 k1 (x0_1 / 256) y123 (wrap64 (x4_1 - 1))) = some r := by first | (rw [hy123]; with_reducible exact H) | (have H2_ := (Option.bind_some _ _).symm.trans H; rw [hy123]; with_reducible exact H2_) | (have H2_ := (Option.bind_some _ _).symm.trans H; with_reducible exact H2_) | with_reducible exact H | (rw [hy123]; exact H) | exact H
              have Ny123 := Aside0.mk hy123
              clear hy123
              have H' := Aside0.mk H
              clear H
              have p8 : 0 ≤ (x4_1 : Int) := of_decide_eq_true (by first | (with_reducible assumption) | assumption)
              have q8 : (x4_1 : Int) < ((x3_1.length : Int) : Int) := of_decide_eq_true (by first | (with_reducible assumption) | assumption)
              obtain ⟨go8, co8, eo8, gb8, gl8, cl8, HG8⟩ := Kd.R_form HO_3.out (by omega)
              (first | cases eo8 | (injection eo8 with ea_ en_ ec_; (first | subst ea_ | (injection ea_ with ea_; subst ea_)); subst ec_; clear en_))
              have GB8 := Aside0.mk gb8
              have GG8 := Aside0.mk HG8
              clear gb8 gl8 HG8
              obtain ⟨hx8_0, hf8_0⟩ := Kd.R_celln 0 HO_3.out (x4_1 : Int) p8 q8
              replace p8 := eq_true p8
              replace q8 := eq_true q8
              have HP9 := Kd.R_putg HO_3.out (x4_1 : Int) ((x0_1) % 256)
              go_wp2_with (first | ((with_reducible refine gate_store (t := 5) (p := 14) rfl ?_); refine store_event (t := 5) (p := 14) (v := ?vo_w10) (w1 := (wr.setCell ⟨go8, (x4_1 : Int).toNat, none⟩ (.int .u8 ((x0_1) % 256)))) ?hg ?ho ?hn ?hr ?_; (case ho => rfl); (case hg => rfl); (case hn => rfl); (case hr => first | (go_simp; done) | (go_simp; rfl)); intro w10 hw; have hg : wr.grownBy w10 (some go8) := (by rw [hw]; exact HP9.2); have hp_ : Kd.R (Kd.int .u8) 5 w10 w.heap.size (fun _ => True) (.slice (some ⟨go8, 0, none⟩) x3_1.length co8) y123 := (by rw [hw, Ny123.out]; exact HP9.1); clear HP9; have n0_ := Aside0.mk (hp_); have n1_ := Aside0.mk ((by rw [hw]; exact below_set (HB.out) GB8.out : Below w.heap.size w w10)); clear HO_3; clear HB; have HO_3 := n0_; have HB := n1_; clear n0_ n1_; clear hg hw hp_))
              go_roundg k1
              case measure => have := HK1.out; omega
              case rel => exact ⟨(x0_1 / 256), (y123), (wrap64 (x4_1 - 1)), (by first | rfl | (simp; done) | (simp [*]; done)), (by first | rfl | (simp; done) | (simp [*]; done)), H', ⟨by have := HK1.out; omega⟩, ⟨by (with_reducible repeat (first | apply Kd.R_alloc | apply Kd.R_drewN | apply Kd.R_drew)); exact HO_3.out⟩, ⟨by repeat (first | (with_reducible first | exact HB.out | apply below_alloc | apply pw_below_drewN | apply below_drew1) | exact HB.out)⟩⟩
            · rw [if_neg c7] at H
              exact absurd H (by simp)
          · rw [if_neg c6] at H
            exact absurd H (by simp)
        · rw [if_neg c5] at H
          have c5b0 : decide (0 ≤ x4_1) = false := decide_eq_false c5
          clear c5
          obtain rfl := Option.some.inj H
          go_wp2
          go_ret
          exact ⟨_, by first | rfl | (simp [errW_none, errW_some] <;> rfl) | (simp [*, errW_none, errW_some] <;> rfl), by (with_reducible repeat (first | apply Kd.R_alloc | apply Kd.R_drewN | apply Kd.R_drew)); exact HO_3.out, by repeat (first | (with_reducible first | exact HB.out | apply below_alloc | apply pw_below_drewN | apply below_drew1) | exact HB.out)⟩
  · rw [if_neg c2] at H
    exact absurd H (by simp)
def spec_Small.f (k : Nat) (a0 : Int) : Option (Bool × List Int) := if a0 < 0 then ((spec_bytesOf.f k (IntKind.u64.wrap (-(IntKind.u64.wrap (a0))))).bind fun t125 => ((spec_Of.f k (decide (a0 < 0)) t125).bind fun bt128 => (some (bt128.1, bt128.2)))) else ((spec_bytesOf.f k (IntKind.u64.wrap (a0))).bind fun t132 => ((spec_Of.f k (decide (a0 < 0)) t132).bind fun bt135 => (some (bt135.1, bt135.2))))
theorem spec_Small.mono : ∀ a0 k, LeO (spec_Small.f k a0) (spec_Small.f (k + 1) a0) := by
  intro a0 k
  unfold spec_Small.f
  repeat' first
      | (with_reducible exact spec_Of.mono _ _ _)
      | (with_reducible exact spec_bytesOf.mono _ _)
      | (with_reducible exact LeO.refl _)
      | (with_reducible exact LeO.none _)
      | (with_reducible refine LeO.ite ?_ ?_)
      | (with_reducible refine LeO.bind ?_ (fun _ => ?_))
      | exact spec_Of.mono _ _ _
      | exact spec_bytesOf.mono _ _
      | exact LeO.none _
      | refine LeO.ite ?_ ?_
      | refine LeO.bind ?_ (fun _ => ?_)
set_option maxHeartbeats 8000000 in
set_option maxRecDepth 100000 in
theorem spec_Small.calls (k : Nat) (a0 : Int) (r1 : Bool) (r2 : List Int) (w : World) (h : spec_Small.f k a0 = some (r1, r2)) :
    Calls Tryz.prog 22 #[.int .i64 a0] w fun e w' => ∃ v1_ : Value, e = .returned (.agg #[.bool r1, v1_]) ∧ Kd.R (Kd.int .u8) 5 w' w.heap.size (fun _ => True) v1_ r2 ∧ Below w.heap.size w w' := by
  have hu37 := Tryz.underlying37
  have HB := Aside0.mk (Below.refl w.heap.size w)
  have H : (if a0 < 0 then ((spec_bytesOf.f k (IntKind.u64.wrap (-(IntKind.u64.wrap (a0))))).bind fun t125 => ((spec_Of.f k (decide (a0 < 0)) t125).bind fun bt128 => (some (bt128.1, bt128.2)))) else ((spec_bytesOf.f k (IntKind.u64.wrap (a0))).bind fun t132 => ((spec_Of.f k (decide (a0 < 0)) t132).bind fun bt135 => (some (bt135.1, bt135.2))))) = some (r1, r2) := h
  clear h
  by_cases c2 : a0 < 0
  · rw [if_pos c2] at H
    have c2b0 : decide (a0 < 0) = true := decide_eq_true c2
    clear c2
    replace H := Option.bind_eq_some_iff.mp H
    obtain ⟨t125, A30, H⟩ := H
    replace H : ((spec_Of.f k (decide (a0 < 0)) t125).bind fun bt128 => (some (bt128.1, bt128.2))) = some (r1, r2) := H
    have A3 := Aside0.mk A30
    clear A30
    replace H := Option.bind_eq_some_iff.mp H
    obtain ⟨⟨t128, t129⟩, A40, H⟩ := H
    replace H : (some (t128, t129)) = some (r1, r2) := H
    rw [c2b0] at A40
    have A4 := Aside0.mk A40
    clear A40
    simp only [Option.some.injEq, Prod.mk.injEq] at H
    obtain ⟨rfl, rfl⟩ := H
    go_enter Tryz.func22, Tryz.ntmps22
    go_wp2_with (first | ((with_reducible refine gate_dst (N := 2) rfl ?_); refine box_event ?hg (N := 2) ?hd (cs := #[.bool false, .slice none 0 0]) (t := 37) ?hr ?_; (case hd => rfl); (case hg => rfl); (case hr => first | (go_simp; done) | (go_simp; rfl)); intro gb124 hg w5 hbox hb; have n0_ := Aside0.mk (below_step (by repeat (first | (with_reducible first | exact HB.out | apply below_alloc | apply pw_below_drewN | apply below_drew1) | exact HB.out)) hb); have n1_ := Aside0.mk (hbox); have n2_ := Aside0.mk ((by rw [hg]; exact (below_size (by repeat (first | (with_reducible first | exact HB.out | apply below_alloc | apply pw_below_drewN | apply below_drew1) | exact HB.out))) : w.heap.size ≤ gb124)); have n3_ := Aside0.mk ((by rw [hg]; exact (below_size (by repeat (first | (with_reducible first | exact HB.out | apply below_alloc | apply pw_below_drewN | apply below_drew1) | exact HB.out))) : w.heap.size ≤ gb124)); clear HB; have HB := n0_; have BK124 := n1_; have GW124 := n2_; have GE124 := n3_; clear n0_ n1_ n2_ n3_; clear hb hbox hg) | ((with_reducible refine gate_callee (f := 21) rfl ?_); refine goesL_ (some 13) rfl rfl Tryz.func21 (by kernel_rfl) rfl #[.int .u64 (IntKind.u64.wrap (-(IntKind.u64.wrap (a0))))] rfl (by (try simp only [List.map_toArray, List.map_cons, List.map_nil]); first | done | rfl | (simp only [List.length_drop, List.length_take]; rfl)) ?_; (with_reducible refine (spec_bytesOf.calls k (IntKind.u64.wrap (-(IntKind.u64.wrap (a0)))) t125 _ A3.out).mono ?_); rintro e w6 ⟨v126, rfl, ho0, hb⟩; refine ⟨_, rfl, ?_⟩; have n0_ := Aside0.mk (Kd.R_lower ho0 (below_size (by repeat (first | (with_reducible first | exact HB.out | apply below_alloc | apply pw_below_drewN | apply below_drew1 | refine below_set ?_ GE124.out) | exact HB.out)))); have n1_ := Aside0.mk (blk_below (g := gb124) (o := .cells #[.bool false, .slice none 0 0] 37 (0, 0)) (by (with_reducible repeat (first | refine blk_drewN ?_ _ | refine blk_drew ?_ | refine blk_alloc ?_ _)); exact BK124.out) hb); have n2_ := Aside0.mk (below_step (by repeat (first | (with_reducible first | exact HB.out | apply below_alloc | apply pw_below_drewN | apply below_drew1 | refine below_set ?_ GE124.out) | exact HB.out)) hb); clear BK124; clear HB; have HO127 := n0_; have BK124 := n1_; have HB := n2_; clear n0_ n1_ n2_; (try clear hb); (try clear hb2); (try clear hk); (try clear hi); (try clear ho0); obtain ⟨Ao7, co7, eo7⟩ := Kd.R_slice HO127.out; subst eo7) | ((with_reducible refine gate_callee (f := 20) rfl ?_); refine goesL_ (some 14) rfl rfl Tryz.func20 (by kernel_rfl) rfl #[.bool true, .slice Ao7 t125.length co7] rfl (by (try simp only [List.map_toArray, List.map_cons, List.map_nil]); first | done | rfl | (simp only [List.length_drop, List.length_take]; rfl)) ?_; (with_reducible refine (spec_Of.calls k true _ _ t125 t128 t129 _ ?side1 ?side2 A4.out).mono ?_); (case side1 => repeat (first | exact (Kd.R_reads' HO127.out).2.2 | (with_reducible refine Kd.C_alloc ?_ _) | (with_reducible refine Kd.C_drewN ?_ _) | (with_reducible refine Kd.C_drew ?_))); (case side2 => exact (Kd.R_reads' HO127.out).2.1); rintro e w8 ⟨v130, rfl, ho0, hb⟩; refine ⟨_, rfl, ?_⟩; have n0_ := Aside0.mk (Kd.R_elder' (by (with_reducible repeat (first | apply Kd.R_alloc | apply Kd.R_drewN | apply Kd.R_drew)); exact HO127.out) (Kd.R_base ho0) hb); have n1_ := Aside0.mk (Kd.R_lower (Kd.R_new' ho0 (Kd.R_lt (by (with_reducible repeat (first | apply Kd.R_alloc | apply Kd.R_drewN | apply Kd.R_drew)); exact HO127.out))) (below_size (by repeat (first | (with_reducible first | exact HB.out | apply below_alloc | apply pw_below_drewN | apply below_drew1 | refine below_set ?_ GE124.out) | exact HB.out)))); have n2_ := Aside0.mk (blk_below (g := gb124) (o := .cells #[.bool false, .slice none 0 0] 37 (0, 0)) (by (with_reducible repeat (first | refine blk_drewN ?_ _ | refine blk_drew ?_ | refine blk_alloc ?_ _)); exact BK124.out) hb); have n3_ := Aside0.mk (below_step (by repeat (first | (with_reducible first | exact HB.out | apply below_alloc | apply pw_below_drewN | apply below_drew1 | refine below_set ?_ GE124.out) | exact HB.out)) hb); clear HO127; clear BK124; clear HB; have HO127 := n0_; have HO131 := n1_; have BK124 := n2_; have HB := n3_; clear n0_ n1_ n2_ n3_; (try clear hb); (try clear hb2); (try clear hk); (try clear hi); (try clear ho0); have hcz9_0 : w8.cell? ⟨gb124, 0, none⟩ = some (.bool false) := (blk_cell BK124.out 0).trans rfl; have hcz9_1 : w8.cell? ⟨gb124, 1, none⟩ = some (.slice none 0 0) := (blk_cell BK124.out 1).trans rfl; have hfz9_0 := blk_frozen BK124.out 0; have hfz9_1 := blk_frozen BK124.out 1; obtain ⟨Ao10, co10, eo10⟩ := Kd.R_slice HO131.out; subst eo10))
    refine bodyPost_ret (results_cell_row rfl _ _ gb124 37 #[.bool t128, .slice Ao10 t129.length co10] (0, 0) _ rfl (by (with_reducible repeat (first | refine blk_drewN ?_ _ | refine blk_drew ?_ | refine blk_alloc ?_ _)); refine blk_put (cs := #[.bool t128, .slice none 0 0]) ?_ 1 _ rfl; (with_reducible repeat (first | refine blk_drewN ?_ _ | refine blk_drew ?_ | refine blk_alloc ?_ _)); refine blk_put (cs := #[.bool false, .slice none 0 0]) ?_ 0 _ rfl; (with_reducible repeat (first | refine blk_drewN ?_ _ | refine blk_drew ?_ | refine blk_alloc ?_ _)); exact BK124.out) Tryz.underlying37 rfl (by kernel_rfl)) rfl ?_
    exact ⟨_, by first | rfl | (simp [errW_none, errW_some] <;> rfl) | (simp [*, errW_none, errW_some] <;> rfl), by (with_reducible repeat (first | apply Kd.R_alloc | apply Kd.R_drewN | apply Kd.R_drew)); exact Kd.R_mono (Kd.R_far (p := ⟨gb124, 1, none⟩) (Kd.R_far (p := ⟨gb124, 0, none⟩) (Kd.R_types HO131.out BK124.out (by decide)) (fun _ hk => hk.2) (.bool t128)) (fun _ hk => hk.2) (.slice Ao10 t129.length co10)) (fun _ hk => trivial), by repeat (first | (with_reducible first | exact HB.out | apply below_alloc | apply pw_below_drewN | apply below_drew1 | refine below_set ?_ GE124.out) | exact HB.out)⟩
  · rw [if_neg c2] at H
    have c2b0 : decide (a0 < 0) = false := decide_eq_false c2
    clear c2
    replace H := Option.bind_eq_some_iff.mp H
    obtain ⟨t132, A110, H⟩ := H
    replace H : ((spec_Of.f k (decide (a0 < 0)) t132).bind fun bt135 => (some (bt135.1, bt135.2))) = some (r1, r2) := H
    have A11 := Aside0.mk A110
    clear A110
    replace H := Option.bind_eq_some_iff.mp H
    obtain ⟨⟨t135, t136⟩, A120, H⟩ := H
    replace H : (some (t135, t136)) = some (r1, r2) := H
    rw [c2b0] at A120
    have A12 := Aside0.mk A120
    clear A120
    simp only [Option.some.injEq, Prod.mk.injEq] at H
    obtain ⟨rfl, rfl⟩ := H
    go_enter Tryz.func22, Tryz.ntmps22
    go_wp2_with (first | ((with_reducible refine gate_dst (N := 2) rfl ?_); refine box_event ?hg (N := 2) ?hd (cs := #[.bool false, .slice none 0 0]) (t := 37) ?hr ?_; (case hd => rfl); (case hg => rfl); (case hr => first | (go_simp; done) | (go_simp; rfl)); intro gb124 hg w13 hbox hb; have n0_ := Aside0.mk (below_step (by repeat (first | (with_reducible first | exact HB.out | apply below_alloc | apply pw_below_drewN | apply below_drew1) | exact HB.out)) hb); have n1_ := Aside0.mk (hbox); have n2_ := Aside0.mk ((by rw [hg]; exact (below_size (by repeat (first | (with_reducible first | exact HB.out | apply below_alloc | apply pw_below_drewN | apply below_drew1) | exact HB.out))) : w.heap.size ≤ gb124)); have n3_ := Aside0.mk ((by rw [hg]; exact (below_size (by repeat (first | (with_reducible first | exact HB.out | apply below_alloc | apply pw_below_drewN | apply below_drew1) | exact HB.out))) : w.heap.size ≤ gb124)); clear HB; have HB := n0_; have BK124 := n1_; have GW124 := n2_; have GE124 := n3_; clear n0_ n1_ n2_ n3_; clear hb hbox hg) | ((with_reducible refine gate_callee (f := 21) rfl ?_); refine goesL_ (some 13) rfl rfl Tryz.func21 (by kernel_rfl) rfl #[.int .u64 (IntKind.u64.wrap (a0))] rfl (by (try simp only [List.map_toArray, List.map_cons, List.map_nil]); first | done | rfl | (simp only [List.length_drop, List.length_take]; rfl)) ?_; (with_reducible refine (spec_bytesOf.calls k (IntKind.u64.wrap (a0)) t132 _ A11.out).mono ?_); rintro e w14 ⟨v133, rfl, ho0, hb⟩; refine ⟨_, rfl, ?_⟩; have n0_ := Aside0.mk (Kd.R_lower ho0 (below_size (by repeat (first | (with_reducible first | exact HB.out | apply below_alloc | apply pw_below_drewN | apply below_drew1 | refine below_set ?_ GE124.out) | exact HB.out)))); have n1_ := Aside0.mk (blk_below (g := gb124) (o := .cells #[.bool false, .slice none 0 0] 37 (0, 0)) (by (with_reducible repeat (first | refine blk_drewN ?_ _ | refine blk_drew ?_ | refine blk_alloc ?_ _)); exact BK124.out) hb); have n2_ := Aside0.mk (below_step (by repeat (first | (with_reducible first | exact HB.out | apply below_alloc | apply pw_below_drewN | apply below_drew1 | refine below_set ?_ GE124.out) | exact HB.out)) hb); clear BK124; clear HB; have HO134 := n0_; have BK124 := n1_; have HB := n2_; clear n0_ n1_ n2_; (try clear hb); (try clear hb2); (try clear hk); (try clear hi); (try clear ho0); obtain ⟨Ao15, co15, eo15⟩ := Kd.R_slice HO134.out; subst eo15) | ((with_reducible refine gate_callee (f := 20) rfl ?_); refine goesL_ (some 14) rfl rfl Tryz.func20 (by kernel_rfl) rfl #[.bool false, .slice Ao15 t132.length co15] rfl (by (try simp only [List.map_toArray, List.map_cons, List.map_nil]); first | done | rfl | (simp only [List.length_drop, List.length_take]; rfl)) ?_; (with_reducible refine (spec_Of.calls k false _ _ t132 t135 t136 _ ?side1 ?side2 A12.out).mono ?_); (case side1 => repeat (first | exact (Kd.R_reads' HO134.out).2.2 | (with_reducible refine Kd.C_alloc ?_ _) | (with_reducible refine Kd.C_drewN ?_ _) | (with_reducible refine Kd.C_drew ?_))); (case side2 => exact (Kd.R_reads' HO134.out).2.1); rintro e w16 ⟨v137, rfl, ho0, hb⟩; refine ⟨_, rfl, ?_⟩; have n0_ := Aside0.mk (Kd.R_elder' (by (with_reducible repeat (first | apply Kd.R_alloc | apply Kd.R_drewN | apply Kd.R_drew)); exact HO134.out) (Kd.R_base ho0) hb); have n1_ := Aside0.mk (Kd.R_lower (Kd.R_new' ho0 (Kd.R_lt (by (with_reducible repeat (first | apply Kd.R_alloc | apply Kd.R_drewN | apply Kd.R_drew)); exact HO134.out))) (below_size (by repeat (first | (with_reducible first | exact HB.out | apply below_alloc | apply pw_below_drewN | apply below_drew1 | refine below_set ?_ GE124.out) | exact HB.out)))); have n2_ := Aside0.mk (blk_below (g := gb124) (o := .cells #[.bool false, .slice none 0 0] 37 (0, 0)) (by (with_reducible repeat (first | refine blk_drewN ?_ _ | refine blk_drew ?_ | refine blk_alloc ?_ _)); exact BK124.out) hb); have n3_ := Aside0.mk (below_step (by repeat (first | (with_reducible first | exact HB.out | apply below_alloc | apply pw_below_drewN | apply below_drew1 | refine below_set ?_ GE124.out) | exact HB.out)) hb); clear HO134; clear BK124; clear HB; have HO134 := n0_; have HO138 := n1_; have BK124 := n2_; have HB := n3_; clear n0_ n1_ n2_ n3_; (try clear hb); (try clear hb2); (try clear hk); (try clear hi); (try clear ho0); have hcz17_0 : w16.cell? ⟨gb124, 0, none⟩ = some (.bool false) := (blk_cell BK124.out 0).trans rfl; have hcz17_1 : w16.cell? ⟨gb124, 1, none⟩ = some (.slice none 0 0) := (blk_cell BK124.out 1).trans rfl; have hfz17_0 := blk_frozen BK124.out 0; have hfz17_1 := blk_frozen BK124.out 1; obtain ⟨Ao18, co18, eo18⟩ := Kd.R_slice HO138.out; subst eo18))
    refine bodyPost_ret (results_cell_row rfl _ _ gb124 37 #[.bool t135, .slice Ao18 t136.length co18] (0, 0) _ rfl (by (with_reducible repeat (first | refine blk_drewN ?_ _ | refine blk_drew ?_ | refine blk_alloc ?_ _)); refine blk_put (cs := #[.bool t135, .slice none 0 0]) ?_ 1 _ rfl; (with_reducible repeat (first | refine blk_drewN ?_ _ | refine blk_drew ?_ | refine blk_alloc ?_ _)); refine blk_put (cs := #[.bool false, .slice none 0 0]) ?_ 0 _ rfl; (with_reducible repeat (first | refine blk_drewN ?_ _ | refine blk_drew ?_ | refine blk_alloc ?_ _)); exact BK124.out) Tryz.underlying37 rfl (by kernel_rfl)) rfl ?_
    exact ⟨_, by first | rfl | (simp [errW_none, errW_some] <;> rfl) | (simp [*, errW_none, errW_some] <;> rfl), by (with_reducible repeat (first | apply Kd.R_alloc | apply Kd.R_drewN | apply Kd.R_drew)); exact Kd.R_mono (Kd.R_far (p := ⟨gb124, 1, none⟩) (Kd.R_far (p := ⟨gb124, 0, none⟩) (Kd.R_types HO138.out BK124.out (by decide)) (fun _ hk => hk.2) (.bool t135)) (fun _ hk => hk.2) (.slice Ao18 t136.length co18)) (fun _ hk => trivial), by repeat (first | (with_reducible first | exact HB.out | apply below_alloc | apply pw_below_drewN | apply below_drew1 | refine below_set ?_ GE124.out) | exact HB.out)⟩
def spec_digit.f (l0 : List Int) (a1 : Int) : Option (Int) := if a1 ≥ (l0.length : Int) then (some 0) else (if 0 ≤ (wrap64 ((wrap64 ((l0.length : Int) - 1)) - a1)) then (if (wrap64 ((wrap64 ((l0.length : Int) - 1)) - a1)) < (l0.length : Int) then (some (wrap64 (rd l0 (wrap64 ((wrap64 ((l0.length : Int) - 1)) - a1))))) else (none)) else (none))
set_option maxHeartbeats 8000000 in
set_option maxRecDepth 100000 in
theorem spec_digit.calls (A0 : Option Addr) (c0 : Nat) (l0 : List Int) (a1 : Int) (r : Int) (w : World) (hr0 : Kd.C (Kd.int .u8) w A0 l0.length l0) (hc0 : l0.length ≤ c0) (h : spec_digit.f l0 a1 = some r) :
    Calls Tryz.prog 35 #[.slice A0 l0.length c0, .int .i64 a1] w fun e w' => e = .returned (.int .i64 r) ∧ Drawn0 w w' := by
  have HR0 := Aside0.mk hr0
  have HC0 := Aside0.mk hc0
  clear hr0 hc0
  have H : (if a1 ≥ (l0.length : Int) then (some 0) else (if 0 ≤ (wrap64 ((wrap64 ((l0.length : Int) - 1)) - a1)) then (if (wrap64 ((wrap64 ((l0.length : Int) - 1)) - a1)) < (l0.length : Int) then (some (wrap64 (rd l0 (wrap64 ((wrap64 ((l0.length : Int) - 1)) - a1))))) else (none)) else (none))) = some r := h
  clear h
  by_cases c3 : a1 ≥ (l0.length : Int)
  · rw [if_pos c3] at H
    have c3b0 : decide ((l0.length : Int) ≤ a1) = true := decide_eq_true c3
    clear c3
    obtain rfl := Option.some.inj H
    go_enter Tryz.func35, Tryz.ntmps35
    go_wp2
    go_ret
    exact ⟨by first | rfl | (simp; done) | (simp [*]; done), by repeat (first | exact Drawn0.refl _ | apply Drawn0.step)⟩
  · rw [if_neg c3] at H
    have c3b0 : decide ((l0.length : Int) ≤ a1) = false := decide_eq_false c3
    clear c3
    obtain ⟨ji4, hji4⟩ : ∃ j_ : Int, (wrap64 ((wrap64 ((l0.length : Int) - 1)) - a1)) = j_ := ⟨_, rfl⟩
    replace H : (if 0 ≤ (ji4) then (if (ji4) < (l0.length : Int) then (some (wrap64 (rd l0 (ji4)))) else (none)) else (none)) = some r := by first | (rw [hji4] at H; exact H) | (simp only [hji4] at H ⊢; exact H)
    have hji4w : (IntKind.i64.wrap ((wrap64 ((l0.length : Int) - 1)) - a1)) = ji4 := (i64_w _).trans hji4
    by_cases c5 : 0 ≤ (ji4)
    · rw [if_pos c5] at H
      have c5b0 : decide (0 ≤ (ji4)) = true := decide_eq_true c5
      clear c5
      by_cases c6 : (ji4) < (l0.length : Int)
      · rw [if_pos c6] at H
        have c6b0 : decide ((ji4) < (l0.length : Int)) = true := decide_eq_true c6
        clear c6
        obtain rfl := Option.some.inj H
        have p139 : 0 ≤ ((ji4) : Int) := of_decide_eq_true (by first | (with_reducible assumption) | assumption)
        have q139 : (ji4) < (l0.length : Int) := of_decide_eq_true (by first | (with_reducible assumption) | assumption)
        obtain ⟨ad139, e139, hx139_0⟩ := Kd.at_int HR0.out (ji4) p139 q139
        cases e139
        replace p139 := eq_true p139
        replace q139 := eq_true q139
        go_enter Tryz.func35, Tryz.ntmps35
        go_wp2
        go_ret
        exact ⟨by first | rfl | (simp; done) | (simp only [← hji4] <;> (first | rfl | simp)) | (simp [*]; done), by repeat (first | exact Drawn0.refl _ | apply Drawn0.step)⟩
      · rw [if_neg c6] at H
        exact absurd H (by simp)
    · rw [if_neg c5] at H
      exact absurd H (by simp)
end Go.Proofs.YtdbjoiojiibdgaaGreatDoor.PFixed
namespace Go.Proofs.YtdbjoiojiibdgaaGreatDoor.PFixed
open Go.RowKit Go.Proofs.YtdbjoiojiibdgaaGreatDoorW.PrintWords Go.Proofs.YtdbjoiojiibdgaaGreatDoorW.PrintLast Go.Proofs.YtdbjoiojiibdgaaGreatDoorW.PrintMore
attribute [local go_sem] max2_int min2_int max_two min_two max_three min_three max_four min_four
set_option linter.unusedVariables false
set_option linter.unusedSimpArgs false
mutual
def spec_Int_Mul.l0 : Nat → Int → List Int → Int → Bool → List Int → Bool → List Int → Option (Bool × List Int)
  | 0, _, _, _, _, _, _, _ => none
  | k + 1, x5, x6, x7, x141000, x141001, x142000, x142001 => if x7 < (x141001.length : Int) then (spec_Int_Mul.l1 k x5 x6 x7 0 0 x141000 x141001 x142000 x142001) else (if 0 ≤ x5 then (if (x5 : Int).toNat ≤ 281474976710656 then (spec_Int_Mul.l2 k x5 x6 (List.replicate (x5 : Int).toNat 0) 0 x141000 x141001 x142000 x142001) else (none)) else (none))
def spec_Int_Mul.l1 : Nat → Int → List Int → Int → Int → Int → Bool → List Int → Bool → List Int → Option (Bool × List Int)
  | 0, _, _, _, _, _, _, _, _, _ => none
  | k + 1, x5, x6, x7, x8, x9, x141000, x141001, x142000, x142001 => if x9 < (x142001.length : Int) then (spec_Int_Mul.j2 k x5 x6 x7 x8 x9 true x141000 x141001 x142000 x142001) else (spec_Int_Mul.j2 k x5 x6 x7 x8 x9 (decide (x8 > 0)) x141000 x141001 x142000 x142001)
def spec_Int_Mul.j2 : Nat → Int → List Int → Int → Int → Int → Bool → Bool → List Int → Bool → List Int → Option (Bool × List Int)
  | 0, _, _, _, _, _, _, _, _, _, _ => none
  | k + 1, x5, x6, x7, x8, x9, x38, x141000, x141001, x142000, x142001 => if x38 = true then (if 0 ≤ (wrap64 (x7 + x9)) then (if (wrap64 (x7 + x9)) < (x6.length : Int) then ((spec_digit.f x141001 x7).bind fun t147 => ((spec_digit.f x142001 x9).bind fun t148 => (spec_Int_Mul.l1 k x5 (x6.set ((wrap64 (x7 + x9)) : Int).toNat (Int.tmod (wrap64 ((wrap64 ((rd x6 (wrap64 (x7 + x9))) + (wrap64 (t147 * t148)))) + x8)) 256)) x7 (wrap64 (Int.tdiv (wrap64 ((wrap64 ((rd x6 (wrap64 (x7 + x9))) + (wrap64 (t147 * t148)))) + x8)) 256)) (wrap64 (x9 + 1)) x141000 x141001 x142000 x142001))) else (none)) else (none)) else (spec_Int_Mul.l0 k x5 x6 (wrap64 (x7 + 1)) x141000 x141001 x142000 x142001)
def spec_Int_Mul.l2 : Nat → Int → List Int → List Int → Int → Bool → List Int → Bool → List Int → Option (Bool × List Int)
  | 0, _, _, _, _, _, _, _, _ => none
  | k + 1, x5, x6, x11, x12, x141000, x141001, x142000, x142001 => if x12 < x5 then (if 0 ≤ x12 then (if x12 < (x6.length : Int) then (if 0 ≤ (wrap64 ((wrap64 (x5 - 1)) - x12)) then (if (wrap64 ((wrap64 (x5 - 1)) - x12)) < (x11.length : Int) then (spec_Int_Mul.l2 k x5 x6 (x11.set ((wrap64 ((wrap64 (x5 - 1)) - x12)) : Int).toNat ((rd x6 x12) % 256)) (wrap64 (x12 + 1)) x141000 x141001 x142000 x142001) else (none)) else (none)) else (none)) else (none)) else ((spec_Of.f k (x141000 != x142000) x11).bind fun bt155 => (some (bt155.1, bt155.2)))
end
def spec_Int_Mul.f (k : Nat) (a0_0 : Bool) (l0_1 : List Int) (a1_0 : Bool) (l1_1 : List Int) : Option (Bool × List Int) := if 0 ≤ (wrap64 ((wrap64 ((l0_1.length : Int) + (l1_1.length : Int))) + 1)) then (if (wrap64 ((wrap64 ((l0_1.length : Int) + (l1_1.length : Int))) + 1) : Int).toNat ≤ 35184372088832 then (spec_Int_Mul.l0 k (wrap64 ((l0_1.length : Int) + (l1_1.length : Int))) (List.replicate (wrap64 ((wrap64 ((l0_1.length : Int) + (l1_1.length : Int))) + 1) : Int).toNat 0) 0 a0_0 l0_1 a1_0 l1_1) else (none)) else (none)
theorem spec_Int_Mul.mono_l : ∀ k, (∀ y0 y1 y2 y3 y4 y5 y6, LeO (spec_Int_Mul.l0 k y0 y1 y2 y3 y4 y5 y6) (spec_Int_Mul.l0 (k + 1) y0 y1 y2 y3 y4 y5 y6)) ∧ (∀ y0 y1 y2 y3 y4 y5 y6 y7 y8, LeO (spec_Int_Mul.l1 k y0 y1 y2 y3 y4 y5 y6 y7 y8) (spec_Int_Mul.l1 (k + 1) y0 y1 y2 y3 y4 y5 y6 y7 y8)) ∧ (∀ y0 y1 y2 y3 y4 y5 y6 y7 y8 y9, LeO (spec_Int_Mul.j2 k y0 y1 y2 y3 y4 y5 y6 y7 y8 y9) (spec_Int_Mul.j2 (k + 1) y0 y1 y2 y3 y4 y5 y6 y7 y8 y9)) ∧ (∀ y0 y1 y2 y3 y4 y5 y6 y7, LeO (spec_Int_Mul.l2 k y0 y1 y2 y3 y4 y5 y6 y7) (spec_Int_Mul.l2 (k + 1) y0 y1 y2 y3 y4 y5 y6 y7))
  | 0 => ⟨fun _ _ _ _ _ _ _ r h => by simp [spec_Int_Mul.l0] at h, fun _ _ _ _ _ _ _ _ _ r h => by simp [spec_Int_Mul.l1] at h, fun _ _ _ _ _ _ _ _ _ _ r h => by simp [spec_Int_Mul.j2] at h, fun _ _ _ _ _ _ _ _ r h => by simp [spec_Int_Mul.l2] at h⟩
  | k + 1 => by
    obtain ⟨ih0, ih1, ih2, ih3⟩ := spec_Int_Mul.mono_l k
    refine ⟨?_, ?_, ?_, ?_⟩
    · intro y0 y1 y2 y3 y4 y5 y6
      unfold spec_Int_Mul.l0
      repeat' first
      | (with_reducible exact ih0 _ _ _ _ _ _ _)
      | (with_reducible exact ih1 _ _ _ _ _ _ _ _ _)
      | (with_reducible exact ih2 _ _ _ _ _ _ _ _ _ _)
      | (with_reducible exact ih3 _ _ _ _ _ _ _ _)
      | (with_reducible exact spec_Of.mono _ _ _)
      | (with_reducible exact LeO.refl _)
      | (with_reducible exact LeO.none _)
      | (with_reducible refine LeO.ite ?_ ?_)
      | (with_reducible refine LeO.bind ?_ (fun _ => ?_))
      | exact ih0 _ _ _ _ _ _ _
      | exact ih1 _ _ _ _ _ _ _ _ _
      | exact ih2 _ _ _ _ _ _ _ _ _ _
      | exact ih3 _ _ _ _ _ _ _ _
      | exact spec_Of.mono _ _ _
      | exact LeO.none _
      | refine LeO.ite ?_ ?_
      | refine LeO.bind ?_ (fun _ => ?_)
    · intro y0 y1 y2 y3 y4 y5 y6 y7 y8
      unfold spec_Int_Mul.l1
      repeat' first
      | (with_reducible exact ih0 _ _ _ _ _ _ _)
      | (with_reducible exact ih1 _ _ _ _ _ _ _ _ _)
      | (with_reducible exact ih2 _ _ _ _ _ _ _ _ _ _)
      | (with_reducible exact ih3 _ _ _ _ _ _ _ _)
      | (with_reducible exact spec_Of.mono _ _ _)
      | (with_reducible exact LeO.refl _)
      | (with_reducible exact LeO.none _)
      | (with_reducible refine LeO.ite ?_ ?_)
      | (with_reducible refine LeO.bind ?_ (fun _ => ?_))
      | exact ih0 _ _ _ _ _ _ _
      | exact ih1 _ _ _ _ _ _ _ _ _
      | exact ih2 _ _ _ _ _ _ _ _ _ _
      | exact ih3 _ _ _ _ _ _ _ _
      | exact spec_Of.mono _ _ _
      | exact LeO.none _
      | refine LeO.ite ?_ ?_
      | refine LeO.bind ?_ (fun _ => ?_)
    · intro y0 y1 y2 y3 y4 y5 y6 y7 y8 y9
      unfold spec_Int_Mul.j2
      repeat' first
      | (with_reducible exact ih0 _ _ _ _ _ _ _)
      | (with_reducible exact ih1 _ _ _ _ _ _ _ _ _)
      | (with_reducible exact ih2 _ _ _ _ _ _ _ _ _ _)
      | (with_reducible exact ih3 _ _ _ _ _ _ _ _)
      | (with_reducible exact spec_Of.mono _ _ _)
      | (with_reducible exact LeO.refl _)
      | (with_reducible exact LeO.none _)
      | (with_reducible refine LeO.ite ?_ ?_)
      | (with_reducible refine LeO.bind ?_ (fun _ => ?_))
      | exact ih0 _ _ _ _ _ _ _
      | exact ih1 _ _ _ _ _ _ _ _ _
      | exact ih2 _ _ _ _ _ _ _ _ _ _
      | exact ih3 _ _ _ _ _ _ _ _
      | exact spec_Of.mono _ _ _
      | exact LeO.none _
      | refine LeO.ite ?_ ?_
      | refine LeO.bind ?_ (fun _ => ?_)
    · intro y0 y1 y2 y3 y4 y5 y6 y7
      unfold spec_Int_Mul.l2
      repeat' first
      | (with_reducible exact ih0 _ _ _ _ _ _ _)
      | (with_reducible exact ih1 _ _ _ _ _ _ _ _ _)
      | (with_reducible exact ih2 _ _ _ _ _ _ _ _ _ _)
      | (with_reducible exact ih3 _ _ _ _ _ _ _ _)
      | (with_reducible exact spec_Of.mono _ _ _)
      | (with_reducible exact LeO.refl _)
      | (with_reducible exact LeO.none _)
      | (with_reducible refine LeO.ite ?_ ?_)
      | (with_reducible refine LeO.bind ?_ (fun _ => ?_))
      | exact ih0 _ _ _ _ _ _ _
      | exact ih1 _ _ _ _ _ _ _ _ _
      | exact ih2 _ _ _ _ _ _ _ _ _ _
      | exact ih3 _ _ _ _ _ _ _ _
      | exact spec_Of.mono _ _ _
      | exact LeO.none _
      | refine LeO.ite ?_ ?_
      | refine LeO.bind ?_ (fun _ => ?_)
theorem spec_Int_Mul.mono : ∀ a0 a1 a2 a3 k, LeO (spec_Int_Mul.f k a0 a1 a2 a3) (spec_Int_Mul.f (k + 1) a0 a1 a2 a3) := by
  intro a0 a1 a2 a3 k
  obtain ⟨ih0, ih1, ih2, ih3⟩ := spec_Int_Mul.mono_l k
  unfold spec_Int_Mul.f
  repeat' first
      | (with_reducible exact ih0 _ _ _ _ _ _ _)
      | (with_reducible exact ih1 _ _ _ _ _ _ _ _ _)
      | (with_reducible exact ih2 _ _ _ _ _ _ _ _ _ _)
      | (with_reducible exact ih3 _ _ _ _ _ _ _ _)
      | (with_reducible exact spec_Of.mono _ _ _)
      | (with_reducible exact LeO.refl _)
      | (with_reducible exact LeO.none _)
      | (with_reducible refine LeO.ite ?_ ?_)
      | (with_reducible refine LeO.bind ?_ (fun _ => ?_))
      | exact ih0 _ _ _ _ _ _ _
      | exact ih1 _ _ _ _ _ _ _ _ _
      | exact ih2 _ _ _ _ _ _ _ _ _ _
      | exact ih3 _ _ _ _ _ _ _ _
      | exact spec_Of.mono _ _ _
      | exact LeO.none _
      | refine LeO.ite ?_ ?_
      | refine LeO.bind ?_ (fun _ => ?_)
set_option maxHeartbeats 8000000 in
set_option maxRecDepth 100000 in
theorem spec_Int_Mul.calls (k : Nat) (a0_0 : Bool) (A0_1 : Option Addr) (c0_1 : Nat) (l0_1 : List Int) (a1_0 : Bool) (A1_1 : Option Addr) (c1_1 : Nat) (l1_1 : List Int) (r1 : Bool) (r2 : List Int) (w : World) (hr0_1 : Kd.C (Kd.int .u8) w A0_1 l0_1.length l0_1) (hc0_1 : l0_1.length ≤ c0_1) (hr1_1 : Kd.C (Kd.int .u8) w A1_1 l1_1.length l1_1) (hc1_1 : l1_1.length ≤ c1_1) (h : spec_Int_Mul.f k a0_0 l0_1 a1_0 l1_1 = some (r1, r2)) :
    Calls Tryz.prog 24 #[.agg #[.bool a0_0, .slice A0_1 l0_1.length c0_1], .agg #[.bool a1_0, .slice A1_1 l1_1.length c1_1]] w fun e w' => ∃ v1_ : Value, e = .returned (.agg #[.bool r1, v1_]) ∧ Kd.R (Kd.int .u8) 5 w' w.heap.size (fun _ => True) v1_ r2 ∧ Below w.heap.size w w' := by
  have hu37 := Tryz.underlying37
  have HR0_1 := Aside0.mk hr0_1
  have HC0_1 := Aside0.mk hc0_1
  clear hr0_1 hc0_1
  have HR1_1 := Aside0.mk hr1_1
  have HC1_1 := Aside0.mk hc1_1
  clear hr1_1 hc1_1
  have HB := Aside0.mk (Below.refl w.heap.size w)
  have H : (if 0 ≤ (wrap64 ((wrap64 ((l0_1.length : Int) + (l1_1.length : Int))) + 1)) then (if (wrap64 ((wrap64 ((l0_1.length : Int) + (l1_1.length : Int))) + 1) : Int).toNat ≤ 35184372088832 then (spec_Int_Mul.l0 k (wrap64 ((l0_1.length : Int) + (l1_1.length : Int))) (List.replicate (wrap64 ((wrap64 ((l0_1.length : Int) + (l1_1.length : Int))) + 1) : Int).toNat 0) 0 a0_0 l0_1 a1_0 l1_1) else (none)) else (none)) = some (r1, r2) := h
  clear h
  obtain ⟨ji3, hji3⟩ : ∃ j_ : Int, (wrap64 ((wrap64 ((l0_1.length : Int) + (l1_1.length : Int))) + 1)) = j_ := ⟨_, rfl⟩
  replace H : (if 0 ≤ (ji3) then (if (ji3 : Int).toNat ≤ 35184372088832 then (spec_Int_Mul.l0 k (wrap64 ((l0_1.length : Int) + (l1_1.length : Int))) (List.replicate (ji3 : Int).toNat 0) 0 a0_0 l0_1 a1_0 l1_1) else (none)) else (none)) = some (r1, r2) := by first | (rw [hji3] at H; exact H) | (simp only [hji3] at H ⊢; exact H)
  have hji3w : (IntKind.i64.wrap ((wrap64 ((l0_1.length : Int) + (l1_1.length : Int))) + 1)) = ji3 := (i64_w _).trans hji3
  by_cases c4 : 0 ≤ (ji3)
  · rw [if_pos c4] at H
    have c4b0 := eq_true c4
    have c4b1 : decide (0 ≤ (ji3)) = true := decide_eq_true c4
    clear c4
    by_cases c5 : (ji3 : Int).toNat ≤ 35184372088832
    · rw [if_pos c5] at H
      have c5b0 := eq_true c5
      have c5b1 : decide ((ji3 : Int).toNat ≤ 35184372088832) = true := decide_eq_true c5
      clear c5
      obtain ⟨y143, hy143⟩ : ∃ y_ : List Int, y_ = (List.replicate (ji3 : Int).toNat 0) := ⟨_, rfl⟩
      replace H : (spec_Int_Mul.l0 k (wrap64 ((l0_1.length : Int) + (l1_1.length : Int))) y143 0 a0_0 l0_1 a1_0 l1_1) = some (r1, r2) := by first | (rw [hy143]; with_reducible exact H) | (have H2_ := (Option.bind_some _ _).symm.trans H; rw [hy143]; with_reducible exact H2_) | (have H2_ := (Option.bind_some _ _).symm.trans H; with_reducible exact H2_) | with_reducible exact H | (rw [hy143]; exact H) | exact H
      have Ny143 := Aside0.mk hy143
      clear hy143
      have H' := Aside0.mk H
      clear H
      go_enter Tryz.func24, Tryz.ntmps24
      go_wp2_with (first | ((with_reducible refine gate_dst (N := 2) rfl ?_); refine box_event ?hg (N := 2) ?hd (cs := #[.bool a0_0, .slice A0_1 l0_1.length c0_1]) (t := 37) ?hr ?_; (case hd => rfl); (case hg => rfl); (case hr => first | (go_simp; done) | (go_simp; rfl)); intro gb140 hg w6 hbox hb; have n0_ := Aside0.mk (below_step (by repeat (first | (with_reducible first | exact HB.out | apply below_alloc | apply pw_below_drewN | apply below_drew1) | exact HB.out)) hb); have n1_ := Aside0.mk (hbox); have n2_ := Aside0.mk ((by rw [hg]; exact (below_size (by repeat (first | (with_reducible first | exact HB.out | apply below_alloc | apply pw_below_drewN | apply below_drew1) | exact HB.out))) : w.heap.size ≤ gb140)); have n3_ := Aside0.mk ((by rw [hg]; exact (below_size (by repeat (first | (with_reducible first | exact HB.out | apply below_alloc | apply pw_below_drewN | apply below_drew1) | exact HB.out))) : w.heap.size ≤ gb140)); clear HB; have HB := n0_; have BK140 := n1_; have GW140 := n2_; have GE140 := n3_; clear n0_ n1_ n2_ n3_; clear hb hbox hg) | ((with_reducible refine gate_dst (N := 3) rfl ?_); refine box_event ?hg (N := 3) ?hd (cs := #[.bool a1_0, .slice A1_1 l1_1.length c1_1]) (t := 37) ?hr ?_; (case hd => rfl); (case hg => rfl); (case hr => first | (go_simp; done) | (go_simp; rfl)); intro gb141 hg w7 hbox hb; have n0_ := Aside0.mk (blk_below (g := gb140) (o := .cells #[.bool a0_0, .slice A0_1 l0_1.length c0_1] 37 (0, 0)) (by (with_reducible repeat (first | refine blk_drewN ?_ _ | refine blk_drew ?_ | refine blk_alloc ?_ _)); exact BK140.out) hb); have n1_ := Aside0.mk (below_step (by repeat (first | (with_reducible first | exact HB.out | apply below_alloc | apply pw_below_drewN | apply below_drew1 | refine below_set ?_ GE140.out) | exact HB.out)) hb); have n2_ := Aside0.mk (hbox); have n3_ := Aside0.mk ((by rw [hg]; exact (below_size (by repeat (first | (with_reducible first | exact HB.out | apply below_alloc | apply pw_below_drewN | apply below_drew1 | refine below_set ?_ GE140.out) | exact HB.out))) : w.heap.size ≤ gb141)); have n4_ := Aside0.mk ((by rw [hg]; exact (below_size (by repeat (first | (with_reducible first | exact HB.out | apply below_alloc | apply pw_below_drewN | apply below_drew1 | refine below_set ?_ GE140.out) | exact HB.out))) : w.heap.size ≤ gb141)); have n5_ := Aside0.mk ((by rw [hg]; exact Nat.ne_of_lt (blk_lt (g := gb140) (o := .cells #[.bool a0_0, .slice A0_1 l0_1.length c0_1] 37 (0, 0)) (by (with_reducible repeat (first | refine blk_drewN ?_ _ | refine blk_drew ?_ | refine blk_alloc ?_ _)); exact BK140.out)) : gb140 ≠ gb141)); have n6_ := Aside0.mk ((by rw [hg]; exact Nat.ne_of_gt (blk_lt (g := gb140) (o := .cells #[.bool a0_0, .slice A0_1 l0_1.length c0_1] 37 (0, 0)) (by (with_reducible repeat (first | refine blk_drewN ?_ _ | refine blk_drew ?_ | refine blk_alloc ?_ _)); exact BK140.out)) : gb141 ≠ gb140)); clear BK140; clear HB; have BK140 := n0_; have HB := n1_; have BK141 := n2_; have GW141 := n3_; have GE141 := n4_; have NB140_141 := n5_; have NB141_140 := n6_; clear n0_ n1_ n2_ n3_ n4_ n5_ n6_; clear hb hbox hg) | ((with_reducible refine gate_dst (N := 4) rfl ?_); refine box_event ?hg (N := 4) ?hd (cs := #[.bool false, .slice none 0 0]) (t := 37) ?hr ?_; (case hd => rfl); (case hg => rfl); (case hr => first | (go_simp; done) | (go_simp; rfl)); intro gb142 hg w8 hbox hb; have n0_ := Aside0.mk (blk_below (g := gb140) (o := .cells #[.bool a0_0, .slice A0_1 l0_1.length c0_1] 37 (0, 0)) (by (with_reducible repeat (first | refine blk_drewN ?_ _ | refine blk_drew ?_ | refine blk_alloc ?_ _)); exact BK140.out) hb); have n1_ := Aside0.mk (blk_below (g := gb141) (o := .cells #[.bool a1_0, .slice A1_1 l1_1.length c1_1] 37 (0, 0)) (by (with_reducible repeat (first | refine blk_drewN ?_ _ | refine blk_drew ?_ | refine blk_alloc ?_ _)); exact BK141.out) hb); have n2_ := Aside0.mk (below_step (by repeat (first | (with_reducible first | exact HB.out | apply below_alloc | apply pw_below_drewN | apply below_drew1 | refine below_set ?_ GE140.out | refine below_set ?_ GE141.out) | exact HB.out)) hb); have n3_ := Aside0.mk (hbox); have n4_ := Aside0.mk ((by rw [hg]; exact (below_size (by repeat (first | (with_reducible first | exact HB.out | apply below_alloc | apply pw_below_drewN | apply below_drew1 | refine below_set ?_ GE140.out | refine below_set ?_ GE141.out) | exact HB.out))) : w.heap.size ≤ gb142)); have n5_ := Aside0.mk ((by rw [hg]; exact (below_size (by repeat (first | (with_reducible first | exact HB.out | apply below_alloc | apply pw_below_drewN | apply below_drew1 | refine below_set ?_ GE140.out | refine below_set ?_ GE141.out) | exact HB.out))) : w.heap.size ≤ gb142)); have n6_ := Aside0.mk ((by rw [hg]; exact Nat.ne_of_lt (blk_lt (g := gb140) (o := .cells #[.bool a0_0, .slice A0_1 l0_1.length c0_1] 37 (0, 0)) (by (with_reducible repeat (first | refine blk_drewN ?_ _ | refine blk_drew ?_ | refine blk_alloc ?_ _)); exact BK140.out)) : gb140 ≠ gb142)); have n7_ := Aside0.mk ((by rw [hg]; exact Nat.ne_of_gt (blk_lt (g := gb140) (o := .cells #[.bool a0_0, .slice A0_1 l0_1.length c0_1] 37 (0, 0)) (by (with_reducible repeat (first | refine blk_drewN ?_ _ | refine blk_drew ?_ | refine blk_alloc ?_ _)); exact BK140.out)) : gb142 ≠ gb140)); have n8_ := Aside0.mk ((by rw [hg]; exact Nat.ne_of_lt (blk_lt (g := gb141) (o := .cells #[.bool a1_0, .slice A1_1 l1_1.length c1_1] 37 (0, 0)) (by (with_reducible repeat (first | refine blk_drewN ?_ _ | refine blk_drew ?_ | refine blk_alloc ?_ _)); exact BK141.out)) : gb141 ≠ gb142)); have n9_ := Aside0.mk ((by rw [hg]; exact Nat.ne_of_gt (blk_lt (g := gb141) (o := .cells #[.bool a1_0, .slice A1_1 l1_1.length c1_1] 37 (0, 0)) (by (with_reducible repeat (first | refine blk_drewN ?_ _ | refine blk_drew ?_ | refine blk_alloc ?_ _)); exact BK141.out)) : gb142 ≠ gb141)); clear BK140; clear BK141; clear HB; have BK140 := n0_; have BK141 := n1_; have HB := n2_; have BK142 := n3_; have GW142 := n4_; have GE142 := n5_; have NB140_142 := n6_; have NB142_140 := n7_; have NB141_142 := n8_; have NB142_141 := n9_; clear n0_ n1_ n2_ n3_ n4_ n5_ n6_ n7_ n8_ n9_; clear hb hbox hg; have hnb9 := NB140_141.out; have hnc9 := NB141_140.out; have hnb10 := NB140_142.out; have hnc10 := NB142_140.out; have hcz11_0 : w8.cell? ⟨gb140, 0, none⟩ = some (.bool a0_0) := (blk_cell BK140.out 0).trans rfl; have hcz11_1 : w8.cell? ⟨gb140, 1, none⟩ = some (.slice A0_1 l0_1.length c0_1) := (blk_cell BK140.out 1).trans rfl; have hfz11_0 := blk_frozen BK140.out 0; have hfz11_1 := blk_frozen BK140.out 1; have hnb12 := NB141_142.out; have hnc12 := NB142_141.out; have hcz13_0 : w8.cell? ⟨gb141, 0, none⟩ = some (.bool a1_0) := (blk_cell BK141.out 0).trans rfl; have hcz13_1 : w8.cell? ⟨gb141, 1, none⟩ = some (.slice A1_1 l1_1.length c1_1) := (blk_cell BK141.out 1).trans rfl; have hfz13_0 := blk_frozen BK141.out 0; have hfz13_1 := blk_frozen BK141.out 1) | ((with_reducible refine gate_dst (N := 22) rfl ?_); refine Kd.R_make (Kd.int .i64) _ 3 rfl (N := 22) rfl 64 _ _ rfl ji3 rfl rfl Tryz.underlying64 (.int .i64 0) 8 info3 rfl (by decide) (by omega) 0 (ok := fun _ => True) (okp := fun _ => True) rfl (fun _ hk => hk) trivial (of_decide_eq_true (by first | (with_reducible assumption) | assumption)) (Nat.le_trans (Nat.mul_le_mul_right _ (of_decide_eq_true (by first | (with_reducible assumption) | assumption) : ji3.toNat ≤ 35184372088832)) (by omega)) (Below.refl _ _) (Nat.le_refl _) ?_; intro v144 w14 ho15 hb hg_ hnew_; clear hg_ hnew_; (first | rw [← Ny143.out] at ho15 | (simp only [Int.reduceToNat] at ho15; rw [← Ny143.out] at ho15)); have n0_ := Aside0.mk (Kd.R_lower ho15 (below_size (by repeat (first | (with_reducible first | exact HB.out | apply below_alloc | apply pw_below_drewN | apply below_drew1 | refine below_set ?_ GE140.out | refine below_set ?_ GE141.out | refine below_set ?_ GE142.out) | exact HB.out)))); have n1_ := Aside0.mk (blk_below (g := gb140) (o := .cells #[.bool a0_0, .slice A0_1 l0_1.length c0_1] 37 (0, 0)) (by (with_reducible repeat (first | refine blk_drewN ?_ _ | refine blk_drew ?_ | refine blk_alloc ?_ _)); exact BK140.out) hb); have n2_ := Aside0.mk (blk_below (g := gb141) (o := .cells #[.bool a1_0, .slice A1_1 l1_1.length c1_1] 37 (0, 0)) (by (with_reducible repeat (first | refine blk_drewN ?_ _ | refine blk_drew ?_ | refine blk_alloc ?_ _)); exact BK141.out) hb); have n3_ := Aside0.mk (blk_below (g := gb142) (o := .cells #[.bool false, .slice none 0 0] 37 (0, 0)) (by (with_reducible repeat (first | refine blk_drewN ?_ _ | refine blk_drew ?_ | refine blk_alloc ?_ _)); exact BK142.out) hb); have n4_ := Aside0.mk (below_step (by repeat (first | (with_reducible first | exact HB.out | apply below_alloc | apply pw_below_drewN | apply below_drew1 | refine below_set ?_ GE140.out | refine below_set ?_ GE141.out | refine below_set ?_ GE142.out) | exact HB.out)) hb); clear BK140; clear BK141; clear BK142; clear HB; have HO145 := n0_; have BK140 := n1_; have BK141 := n2_; have BK142 := n3_; have HB := n4_; clear n0_ n1_ n2_ n3_ n4_; clear hb ho15))
      repeat (go_quiet (first | ((with_reducible refine gate_dst (N := 2) rfl ?_); refine box_event ?hg (N := 2) ?hd (cs := #[.bool a0_0, .slice A0_1 l0_1.length c0_1]) (t := 37) ?hr ?_; (case hd => rfl); (case hg => rfl); (case hr => first | (go_simp; done) | (go_simp; rfl)); intro gb140 hg w6 hbox hb; have n0_ := Aside0.mk (below_step (by repeat (first | (with_reducible first | exact HB.out | apply below_alloc | apply pw_below_drewN | apply below_drew1) | exact HB.out)) hb); have n1_ := Aside0.mk (hbox); have n2_ := Aside0.mk ((by rw [hg]; exact (below_size (by repeat (first | (with_reducible first | exact HB.out | apply below_alloc | apply pw_below_drewN | apply below_drew1) | exact HB.out))) : w.heap.size ≤ gb140)); have n3_ := Aside0.mk ((by rw [hg]; exact (below_size (by repeat (first | (with_reducible first | exact HB.out | apply below_alloc | apply pw_below_drewN | apply below_drew1) | exact HB.out))) : w.heap.size ≤ gb140)); clear HB; have HB := n0_; have BK140 := n1_; have GW140 := n2_; have GE140 := n3_; clear n0_ n1_ n2_ n3_; clear hb hbox hg) | ((with_reducible refine gate_dst (N := 3) rfl ?_); refine box_event ?hg (N := 3) ?hd (cs := #[.bool a1_0, .slice A1_1 l1_1.length c1_1]) (t := 37) ?hr ?_; (case hd => rfl); (case hg => rfl); (case hr => first | (go_simp; done) | (go_simp; rfl)); intro gb141 hg w7 hbox hb; have n0_ := Aside0.mk (blk_below (g := gb140) (o := .cells #[.bool a0_0, .slice A0_1 l0_1.length c0_1] 37 (0, 0)) (by (with_reducible repeat (first | refine blk_drewN ?_ _ | refine blk_drew ?_ | refine blk_alloc ?_ _)); exact BK140.out) hb); have n1_ := Aside0.mk (below_step (by repeat (first | (with_reducible first | exact HB.out | apply below_alloc | apply pw_below_drewN | apply below_drew1 | refine below_set ?_ GE140.out) | exact HB.out)) hb); have n2_ := Aside0.mk (hbox); have n3_ := Aside0.mk ((by rw [hg]; exact (below_size (by repeat (first | (with_reducible first | exact HB.out | apply below_alloc | apply pw_below_drewN | apply below_drew1 | refine below_set ?_ GE140.out) | exact HB.out))) : w.heap.size ≤ gb141)); have n4_ := Aside0.mk ((by rw [hg]; exact (below_size (by repeat (first | (with_reducible first | exact HB.out | apply below_alloc | apply pw_below_drewN | apply below_drew1 | refine below_set ?_ GE140.out) | exact HB.out))) : w.heap.size ≤ gb141)); have n5_ := Aside0.mk ((by rw [hg]; exact Nat.ne_of_lt (blk_lt (g := gb140) (o := .cells #[.bool a0_0, .slice A0_1 l0_1.length c0_1] 37 (0, 0)) (by (with_reducible repeat (first | refine blk_drewN ?_ _ | refine blk_drew ?_ | refine blk_alloc ?_ _)); exact BK140.out)) : gb140 ≠ gb141)); have n6_ := Aside0.mk ((by rw [hg]; exact Nat.ne_of_gt (blk_lt (g := gb140) (o := .cells #[.bool a0_0, .slice A0_1 l0_1.length c0_1] 37 (0, 0)) (by (with_reducible repeat (first | refine blk_drewN ?_ _ | refine blk_drew ?_ | refine blk_alloc ?_ _)); exact BK140.out)) : gb141 ≠ gb140)); clear BK140; clear HB; have BK140 := n0_; have HB := n1_; have BK141 := n2_; have GW141 := n3_; have GE141 := n4_; have NB140_141 := n5_; have NB141_140 := n6_; clear n0_ n1_ n2_ n3_ n4_ n5_ n6_; clear hb hbox hg) | ((with_reducible refine gate_dst (N := 4) rfl ?_); refine box_event ?hg (N := 4) ?hd (cs := #[.bool false, .slice none 0 0]) (t := 37) ?hr ?_; (case hd => rfl); (case hg => rfl); (case hr => first | (go_simp; done) | (go_simp; rfl)); intro gb142 hg w8 hbox hb; have n0_ := Aside0.mk (blk_below (g := gb140) (o := .cells #[.bool a0_0, .slice A0_1 l0_1.length c0_1] 37 (0, 0)) (by (with_reducible repeat (first | refine blk_drewN ?_ _ | refine blk_drew ?_ | refine blk_alloc ?_ _)); exact BK140.out) hb); have n1_ := Aside0.mk (blk_below (g := gb141) (o := .cells #[.bool a1_0, .slice A1_1 l1_1.length c1_1] 37 (0, 0)) (by (with_reducible repeat (first | refine blk_drewN ?_ _ | refine blk_drew ?_ | refine blk_alloc ?_ _)); exact BK141.out) hb); have n2_ := Aside0.mk (below_step (by repeat (first | (with_reducible first | exact HB.out | apply below_alloc | apply pw_below_drewN | apply below_drew1 | refine below_set ?_ GE140.out | refine below_set ?_ GE141.out) | exact HB.out)) hb); have n3_ := Aside0.mk (hbox); have n4_ := Aside0.mk ((by rw [hg]; exact (below_size (by repeat (first | (with_reducible first | exact HB.out | apply below_alloc | apply pw_below_drewN | apply below_drew1 | refine below_set ?_ GE140.out | refine below_set ?_ GE141.out) | exact HB.out))) : w.heap.size ≤ gb142)); have n5_ := Aside0.mk ((by rw [hg]; exact (below_size (by repeat (first | (with_reducible first | exact HB.out | apply below_alloc | apply pw_below_drewN | apply below_drew1 | refine below_set ?_ GE140.out | refine below_set ?_ GE141.out) | exact HB.out))) : w.heap.size ≤ gb142)); have n6_ := Aside0.mk ((by rw [hg]; exact Nat.ne_of_lt (blk_lt (g := gb140) (o := .cells #[.bool a0_0, .slice A0_1 l0_1.length c0_1] 37 (0, 0)) (by (with_reducible repeat (first | refine blk_drewN ?_ _ | refine blk_drew ?_ | refine blk_alloc ?_ _)); exact BK140.out)) : gb140 ≠ gb142)); have n7_ := Aside0.mk ((by rw [hg]; exact Nat.ne_of_gt (blk_lt (g := gb140) (o := .cells #[.bool a0_0, .slice A0_1 l0_1.length c0_1] 37 (0, 0)) (by (with_reducible repeat (first | refine blk_drewN ?_ _ | refine blk_drew ?_ | refine blk_alloc ?_ _)); exact BK140.out)) : gb142 ≠ gb140)); have n8_ := Aside0.mk ((by rw [hg]; exact Nat.ne_of_lt (blk_lt (g := gb141) (o := .cells #[.bool a1_0, .slice A1_1 l1_1.length c1_1] 37 (0, 0)) (by (with_reducible repeat (first | refine blk_drewN ?_ _ | refine blk_drew ?_ | refine blk_alloc ?_ _)); exact BK141.out)) : gb141 ≠ gb142)); have n9_ := Aside0.mk ((by rw [hg]; exact Nat.ne_of_gt (blk_lt (g := gb141) (o := .cells #[.bool a1_0, .slice A1_1 l1_1.length c1_1] 37 (0, 0)) (by (with_reducible repeat (first | refine blk_drewN ?_ _ | refine blk_drew ?_ | refine blk_alloc ?_ _)); exact BK141.out)) : gb142 ≠ gb141)); clear BK140; clear BK141; clear HB; have BK140 := n0_; have BK141 := n1_; have HB := n2_; have BK142 := n3_; have GW142 := n4_; have GE142 := n5_; have NB140_142 := n6_; have NB142_140 := n7_; have NB141_142 := n8_; have NB142_141 := n9_; clear n0_ n1_ n2_ n3_ n4_ n5_ n6_ n7_ n8_ n9_; clear hb hbox hg; have hnb9 := NB140_141.out; have hnc9 := NB141_140.out; have hnb10 := NB140_142.out; have hnc10 := NB142_140.out; have hcz11_0 : w8.cell? ⟨gb140, 0, none⟩ = some (.bool a0_0) := (blk_cell BK140.out 0).trans rfl; have hcz11_1 : w8.cell? ⟨gb140, 1, none⟩ = some (.slice A0_1 l0_1.length c0_1) := (blk_cell BK140.out 1).trans rfl; have hfz11_0 := blk_frozen BK140.out 0; have hfz11_1 := blk_frozen BK140.out 1; have hnb12 := NB141_142.out; have hnc12 := NB142_141.out; have hcz13_0 : w8.cell? ⟨gb141, 0, none⟩ = some (.bool a1_0) := (blk_cell BK141.out 0).trans rfl; have hcz13_1 : w8.cell? ⟨gb141, 1, none⟩ = some (.slice A1_1 l1_1.length c1_1) := (blk_cell BK141.out 1).trans rfl; have hfz13_0 := blk_frozen BK141.out 0; have hfz13_1 := blk_frozen BK141.out 1) | ((with_reducible refine gate_dst (N := 22) rfl ?_); refine Kd.R_make (Kd.int .i64) _ 3 rfl (N := 22) rfl 64 _ _ rfl ji3 rfl rfl Tryz.underlying64 (.int .i64 0) 8 info3 rfl (by decide) (by omega) 0 (ok := fun _ => True) (okp := fun _ => True) rfl (fun _ hk => hk) trivial (of_decide_eq_true (by first | (with_reducible assumption) | assumption)) (Nat.le_trans (Nat.mul_le_mul_right _ (of_decide_eq_true (by first | (with_reducible assumption) | assumption) : ji3.toNat ≤ 35184372088832)) (by omega)) (Below.refl _ _) (Nat.le_refl _) ?_; intro v144 w14 ho15 hb hg_ hnew_; clear hg_ hnew_; (first | rw [← Ny143.out] at ho15 | (simp only [Int.reduceToNat] at ho15; rw [← Ny143.out] at ho15)); have n0_ := Aside0.mk (Kd.R_lower ho15 (below_size (by repeat (first | (with_reducible first | exact HB.out | apply below_alloc | apply pw_below_drewN | apply below_drew1 | refine below_set ?_ GE140.out | refine below_set ?_ GE141.out | refine below_set ?_ GE142.out) | exact HB.out)))); have n1_ := Aside0.mk (blk_below (g := gb140) (o := .cells #[.bool a0_0, .slice A0_1 l0_1.length c0_1] 37 (0, 0)) (by (with_reducible repeat (first | refine blk_drewN ?_ _ | refine blk_drew ?_ | refine blk_alloc ?_ _)); exact BK140.out) hb); have n2_ := Aside0.mk (blk_below (g := gb141) (o := .cells #[.bool a1_0, .slice A1_1 l1_1.length c1_1] 37 (0, 0)) (by (with_reducible repeat (first | refine blk_drewN ?_ _ | refine blk_drew ?_ | refine blk_alloc ?_ _)); exact BK141.out) hb); have n3_ := Aside0.mk (blk_below (g := gb142) (o := .cells #[.bool false, .slice none 0 0] 37 (0, 0)) (by (with_reducible repeat (first | refine blk_drewN ?_ _ | refine blk_drew ?_ | refine blk_alloc ?_ _)); exact BK142.out) hb); have n4_ := Aside0.mk (below_step (by repeat (first | (with_reducible first | exact HB.out | apply below_alloc | apply pw_below_drewN | apply below_drew1 | refine below_set ?_ GE140.out | refine below_set ?_ GE141.out | refine below_set ?_ GE142.out) | exact HB.out)) hb); clear BK140; clear BK141; clear BK142; clear HB; have HO145 := n0_; have BK140 := n1_; have BK141 := n2_; have BK142 := n3_; have HB := n4_; clear n0_ n1_ n2_ n3_ n4_; clear hb ho15)); try go_wp2_with (first | ((with_reducible refine gate_dst (N := 2) rfl ?_); refine box_event ?hg (N := 2) ?hd (cs := #[.bool a0_0, .slice A0_1 l0_1.length c0_1]) (t := 37) ?hr ?_; (case hd => rfl); (case hg => rfl); (case hr => first | (go_simp; done) | (go_simp; rfl)); intro gb140 hg w6 hbox hb; have n0_ := Aside0.mk (below_step (by repeat (first | (with_reducible first | exact HB.out | apply below_alloc | apply pw_below_drewN | apply below_drew1) | exact HB.out)) hb); have n1_ := Aside0.mk (hbox); have n2_ := Aside0.mk ((by rw [hg]; exact (below_size (by repeat (first | (with_reducible first | exact HB.out | apply below_alloc | apply pw_below_drewN | apply below_drew1) | exact HB.out))) : w.heap.size ≤ gb140)); have n3_ := Aside0.mk ((by rw [hg]; exact (below_size (by repeat (first | (with_reducible first | exact HB.out | apply below_alloc | apply pw_below_drewN | apply below_drew1) | exact HB.out))) : w.heap.size ≤ gb140)); clear HB; have HB := n0_; have BK140 := n1_; have GW140 := n2_; have GE140 := n3_; clear n0_ n1_ n2_ n3_; clear hb hbox hg) | ((with_reducible refine gate_dst (N := 3) rfl ?_); refine box_event ?hg (N := 3) ?hd (cs := #[.bool a1_0, .slice A1_1 l1_1.length c1_1]) (t := 37) ?hr ?_; (case hd => rfl); (case hg => rfl); (case hr => first | (go_simp; done) | (go_simp; rfl)); intro gb141 hg w7 hbox hb; have n0_ := Aside0.mk (blk_below (g := gb140) (o := .cells #[.bool a0_0, .slice A0_1 l0_1.length c0_1] 37 (0, 0)) (by (with_reducible repeat (first | refine blk_drewN ?_ _ | refine blk_drew ?_ | refine blk_alloc ?_ _)); exact BK140.out) hb); have n1_ := Aside0.mk (below_step (by repeat (first | (with_reducible first | exact HB.out | apply below_alloc | apply pw_below_drewN | apply below_drew1 | refine below_set ?_ GE140.out) | exact HB.out)) hb); have n2_ := Aside0.mk (hbox); have n3_ := Aside0.mk ((by rw [hg]; exact (below_size (by repeat (first | (with_reducible first | exact HB.out | apply below_alloc | apply pw_below_drewN | apply below_drew1 | refine below_set ?_ GE140.out) | exact HB.out))) : w.heap.size ≤ gb141)); have n4_ := Aside0.mk ((by rw [hg]; exact (below_size (by repeat (first | (with_reducible first | exact HB.out | apply below_alloc | apply pw_below_drewN | apply below_drew1 | refine below_set ?_ GE140.out) | exact HB.out))) : w.heap.size ≤ gb141)); have n5_ := Aside0.mk ((by rw [hg]; exact Nat.ne_of_lt (blk_lt (g := gb140) (o := .cells #[.bool a0_0, .slice A0_1 l0_1.length c0_1] 37 (0, 0)) (by (with_reducible repeat (first | refine blk_drewN ?_ _ | refine blk_drew ?_ | refine blk_alloc ?_ _)); exact BK140.out)) : gb140 ≠ gb141)); have n6_ := Aside0.mk ((by rw [hg]; exact Nat.ne_of_gt (blk_lt (g := gb140) (o := .cells #[.bool a0_0, .slice A0_1 l0_1.length c0_1] 37 (0, 0)) (by (with_reducible repeat (first | refine blk_drewN ?_ _ | refine blk_drew ?_ | refine blk_alloc ?_ _)); exact BK140.out)) : gb141 ≠ gb140)); clear BK140; clear HB; have BK140 := n0_; have HB := n1_; have BK141 := n2_; have GW141 := n3_; have GE141 := n4_; have NB140_141 := n5_; have NB141_140 := n6_; clear n0_ n1_ n2_ n3_ n4_ n5_ n6_; clear hb hbox hg) | ((with_reducible refine gate_dst (N := 4) rfl ?_); refine box_event ?hg (N := 4) ?hd (cs := #[.bool false, .slice none 0 0]) (t := 37) ?hr ?_; (case hd => rfl); (case hg => rfl); (case hr => first | (go_simp; done) | (go_simp; rfl)); intro gb142 hg w8 hbox hb; have n0_ := Aside0.mk (blk_below (g := gb140) (o := .cells #[.bool a0_0, .slice A0_1 l0_1.length c0_1] 37 (0, 0)) (by (with_reducible repeat (first | refine blk_drewN ?_ _ | refine blk_drew ?_ | refine blk_alloc ?_ _)); exact BK140.out) hb); have n1_ := Aside0.mk (blk_below (g := gb141) (o := .cells #[.bool a1_0, .slice A1_1 l1_1.length c1_1] 37 (0, 0)) (by (with_reducible repeat (first | refine blk_drewN ?_ _ | refine blk_drew ?_ | refine blk_alloc ?_ _)); exact BK141.out) hb); have n2_ := Aside0.mk (below_step (by repeat (first | (with_reducible first | exact HB.out | apply below_alloc | apply pw_below_drewN | apply below_drew1 | refine below_set ?_ GE140.out | refine below_set ?_ GE141.out) | exact HB.out)) hb); have n3_ := Aside0.mk (hbox); have n4_ := Aside0.mk ((by rw [hg]; exact (below_size (by repeat (first | (with_reducible first | exact HB.out | apply below_alloc | apply pw_below_drewN | apply below_drew1 | refine below_set ?_ GE140.out | refine below_set ?_ GE141.out) | exact HB.out))) : w.heap.size ≤ gb142)); have n5_ := Aside0.mk ((by rw [hg]; exact (below_size (by repeat (first | (with_reducible first | exact HB.out | apply below_alloc | apply pw_below_drewN | apply below_drew1 | refine below_set ?_ GE140.out | refine below_set ?_ GE141.out) | exact HB.out))) : w.heap.size ≤ gb142)); have n6_ := Aside0.mk ((by rw [hg]; exact Nat.ne_of_lt (blk_lt (g := gb140) (o := .cells #[.bool a0_0, .slice A0_1 l0_1.length c0_1] 37 (0, 0)) (by (with_reducible repeat (first | refine blk_drewN ?_ _ | refine blk_drew ?_ | refine blk_alloc ?_ _)); exact BK140.out)) : gb140 ≠ gb142)); have n7_ := Aside0.mk ((by rw [hg]; exact Nat.ne_of_gt (blk_lt (g := gb140) (o := .cells #[.bool a0_0, .slice A0_1 l0_1.length c0_1] 37 (0, 0)) (by (with_reducible repeat (first | refine blk_drewN ?_ _ | refine blk_drew ?_ | refine blk_alloc ?_ _)); exact BK140.out)) : gb142 ≠ gb140)); have n8_ := Aside0.mk ((by rw [hg]; exact Nat.ne_of_lt (blk_lt (g := gb141) (o := .cells #[.bool a1_0, .slice A1_1 l1_1.length c1_1] 37 (0, 0)) (by (with_reducible repeat (first | refine blk_drewN ?_ _ | refine blk_drew ?_ | refine blk_alloc ?_ _)); exact BK141.out)) : gb141 ≠ gb142)); have n9_ := Aside0.mk ((by rw [hg]; exact Nat.ne_of_gt (blk_lt (g := gb141) (o := .cells #[.bool a1_0, .slice A1_1 l1_1.length c1_1] 37 (0, 0)) (by (with_reducible repeat (first | refine blk_drewN ?_ _ | refine blk_drew ?_ | refine blk_alloc ?_ _)); exact BK141.out)) : gb142 ≠ gb141)); clear BK140; clear BK141; clear HB; have BK140 := n0_; have BK141 := n1_; have HB := n2_; have BK142 := n3_; have GW142 := n4_; have GE142 := n5_; have NB140_142 := n6_; have NB142_140 := n7_; have NB141_142 := n8_; have NB142_141 := n9_; clear n0_ n1_ n2_ n3_ n4_ n5_ n6_ n7_ n8_ n9_; clear hb hbox hg; have hnb9 := NB140_141.out; have hnc9 := NB141_140.out; have hnb10 := NB140_142.out; have hnc10 := NB142_140.out; have hcz11_0 : w8.cell? ⟨gb140, 0, none⟩ = some (.bool a0_0) := (blk_cell BK140.out 0).trans rfl; have hcz11_1 : w8.cell? ⟨gb140, 1, none⟩ = some (.slice A0_1 l0_1.length c0_1) := (blk_cell BK140.out 1).trans rfl; have hfz11_0 := blk_frozen BK140.out 0; have hfz11_1 := blk_frozen BK140.out 1; have hnb12 := NB141_142.out; have hnc12 := NB142_141.out; have hcz13_0 : w8.cell? ⟨gb141, 0, none⟩ = some (.bool a1_0) := (blk_cell BK141.out 0).trans rfl; have hcz13_1 : w8.cell? ⟨gb141, 1, none⟩ = some (.slice A1_1 l1_1.length c1_1) := (blk_cell BK141.out 1).trans rfl; have hfz13_0 := blk_frozen BK141.out 0; have hfz13_1 := blk_frozen BK141.out 1) | ((with_reducible refine gate_dst (N := 22) rfl ?_); refine Kd.R_make (Kd.int .i64) _ 3 rfl (N := 22) rfl 64 _ _ rfl ji3 rfl rfl Tryz.underlying64 (.int .i64 0) 8 info3 rfl (by decide) (by omega) 0 (ok := fun _ => True) (okp := fun _ => True) rfl (fun _ hk => hk) trivial (of_decide_eq_true (by first | (with_reducible assumption) | assumption)) (Nat.le_trans (Nat.mul_le_mul_right _ (of_decide_eq_true (by first | (with_reducible assumption) | assumption) : ji3.toNat ≤ 35184372088832)) (by omega)) (Below.refl _ _) (Nat.le_refl _) ?_; intro v144 w14 ho15 hb hg_ hnew_; clear hg_ hnew_; (first | rw [← Ny143.out] at ho15 | (simp only [Int.reduceToNat] at ho15; rw [← Ny143.out] at ho15)); have n0_ := Aside0.mk (Kd.R_lower ho15 (below_size (by repeat (first | (with_reducible first | exact HB.out | apply below_alloc | apply pw_below_drewN | apply below_drew1 | refine below_set ?_ GE140.out | refine below_set ?_ GE141.out | refine below_set ?_ GE142.out) | exact HB.out)))); have n1_ := Aside0.mk (blk_below (g := gb140) (o := .cells #[.bool a0_0, .slice A0_1 l0_1.length c0_1] 37 (0, 0)) (by (with_reducible repeat (first | refine blk_drewN ?_ _ | refine blk_drew ?_ | refine blk_alloc ?_ _)); exact BK140.out) hb); have n2_ := Aside0.mk (blk_below (g := gb141) (o := .cells #[.bool a1_0, .slice A1_1 l1_1.length c1_1] 37 (0, 0)) (by (with_reducible repeat (first | refine blk_drewN ?_ _ | refine blk_drew ?_ | refine blk_alloc ?_ _)); exact BK141.out) hb); have n3_ := Aside0.mk (blk_below (g := gb142) (o := .cells #[.bool false, .slice none 0 0] 37 (0, 0)) (by (with_reducible repeat (first | refine blk_drewN ?_ _ | refine blk_drew ?_ | refine blk_alloc ?_ _)); exact BK142.out) hb); have n4_ := Aside0.mk (below_step (by repeat (first | (with_reducible first | exact HB.out | apply below_alloc | apply pw_below_drewN | apply below_drew1 | refine below_set ?_ GE140.out | refine below_set ?_ GE141.out | refine below_set ?_ GE142.out) | exact HB.out)) hb); clear BK140; clear BK141; clear BK142; clear HB; have HO145 := n0_; have BK140 := n1_; have BK141 := n2_; have BK142 := n3_; have HB := n4_; clear n0_ n1_ n2_ n3_ n4_; clear hb ho15)))
      go_loopg [7] k (fun kq v7 w' => ∃ (x6_1 : List Int) (x7_1 : Int), v7 = .int .i64 x7_1 ∧ Aside0 (spec_Int_Mul.l0 kq (wrap64 ((l0_1.length : Int) + (l1_1.length : Int))) x6_1 x7_1 a0_0 l0_1 a1_0 l1_1 = some (r1, r2)) ∧ Aside0 (kq ≤ k) ∧ Aside0 (Kd.R (Kd.int .i64) 3 w' w.heap.size (fun _ => True) v144 x6_1) ∧ Aside0 (w'.heap[gb140]? = some (.cells #[.bool a0_0, (.slice A0_1 l0_1.length c0_1)] 37 (0, 0))) ∧ Aside0 (w'.heap[gb141]? = some (.cells #[.bool a1_0, (.slice A1_1 l1_1.length c1_1)] 37 (0, 0))) ∧ Aside0 (w'.heap[gb142]? = some (.cells #[.bool false, (.slice none 0 0)] 37 (0, 0))) ∧ Aside0 (Below w.heap.size w w'))
      case atStart => exact ⟨(y143), (0), (by first | rfl | (simp; done) | (simp [*]; done)), H', ⟨Nat.le_refl _⟩, ⟨by (with_reducible repeat (first | apply Kd.R_alloc | apply Kd.R_drewN | apply Kd.R_drew)); exact HO145.out⟩, ⟨by (with_reducible repeat (first | refine blk_drewN ?_ _ | refine blk_drew ?_ | refine blk_alloc ?_ _)); exact BK140.out⟩, ⟨by (with_reducible repeat (first | refine blk_drewN ?_ _ | refine blk_drew ?_ | refine blk_alloc ?_ _)); exact BK141.out⟩, ⟨by (with_reducible repeat (first | refine blk_drewN ?_ _ | refine blk_drew ?_ | refine blk_alloc ?_ _)); exact BK142.out⟩, ⟨by repeat (first | (with_reducible first | exact HB.out | apply below_alloc | apply pw_below_drewN | apply below_drew1 | refine below_set ?_ GE140.out | refine below_set ?_ GE141.out | refine below_set ?_ GE142.out) | exact HB.out)⟩⟩
      case round =>
        clear H'
        try clear c1
        try clear c2
        try clear p2
        try clear c4
        try clear c4b0
        try clear c4b1
        try clear c5
        try clear c5b0
        try clear c5b1
        try clear p6
        try clear c9
        try clear c10
        try clear c12
        try clear hcz11_0
        try clear hcz11_1
        try clear hcz13_0
        try clear hcz13_1
        try clear hfz11_0
        try clear hfz11_1
        try clear hfz13_0
        try clear hfz13_1
        obtain ⟨x6_1, x7_1, rfl, HA, HK1, HO_6, BK140, BK141, BK142, HB⟩ := hrel
        cases gk with
        | zero => exact absurd HA.out (by simp [spec_Int_Mul.l0])
        | succ k1 =>
          have H := HA.out
          clear HA
          simp only [spec_Int_Mul.l0] at H
          by_cases c16 : x7_1 < (l0_1.length : Int)
          · rw [if_pos c16] at H
            have c16b0 : decide (x7_1 < (l0_1.length : Int)) = true := decide_eq_true c16
            clear c16
            have H' := Aside0.mk H
            clear H
            have hnb17 := NB140_141.out
            have hnc17 := NB141_140.out
            have hnb18 := NB140_142.out
            have hnc18 := NB142_140.out
            have hcz19_0 : wr.cell? ⟨gb140, 0, none⟩ = some (.bool a0_0) := (blk_cell BK140.out 0).trans rfl
            have hcz19_1 : wr.cell? ⟨gb140, 1, none⟩ = some (.slice A0_1 l0_1.length c0_1) := (blk_cell BK140.out 1).trans rfl
            have hfz19_0 := blk_frozen BK140.out 0
            have hfz19_1 := blk_frozen BK140.out 1
            go_wp2
            repeat (go_quiet (fail); try go_wp2)
            go_loopg [8, 9] k1 (fun kq v8 v9 w' => ∃ (x6_2 : List Int) (x8_2 : Int) (x9_2 : Int), v8 = .int .i64 x8_2 ∧ v9 = .int .i64 x9_2 ∧ Aside0 (spec_Int_Mul.l1 kq (wrap64 ((l0_1.length : Int) + (l1_1.length : Int))) x6_2 x7_1 x8_2 x9_2 a0_0 l0_1 a1_0 l1_1 = some (r1, r2)) ∧ Aside0 (kq ≤ k1) ∧ Aside0 (Kd.R (Kd.int .i64) 3 w' w.heap.size (fun _ => True) v144 x6_2) ∧ Aside0 (w'.heap[gb140]? = some (.cells #[.bool a0_0, (.slice A0_1 l0_1.length c0_1)] 37 (0, 0))) ∧ Aside0 (w'.heap[gb141]? = some (.cells #[.bool a1_0, (.slice A1_1 l1_1.length c1_1)] 37 (0, 0))) ∧ Aside0 (w'.heap[gb142]? = some (.cells #[.bool false, (.slice none 0 0)] 37 (0, 0))) ∧ Aside0 (Below w.heap.size w w'))
            case atStart => exact ⟨(x6_1), (0), (0), (by first | rfl | (simp; done) | (simp [*]; done)), (by first | rfl | (simp; done) | (simp [*]; done)), H', ⟨Nat.le_refl _⟩, ⟨by (with_reducible repeat (first | apply Kd.R_alloc | apply Kd.R_drewN | apply Kd.R_drew)); exact HO_6.out⟩, ⟨by (with_reducible repeat (first | refine blk_drewN ?_ _ | refine blk_drew ?_ | refine blk_alloc ?_ _)); exact BK140.out⟩, ⟨by (with_reducible repeat (first | refine blk_drewN ?_ _ | refine blk_drew ?_ | refine blk_alloc ?_ _)); exact BK141.out⟩, ⟨by (with_reducible repeat (first | refine blk_drewN ?_ _ | refine blk_drew ?_ | refine blk_alloc ?_ _)); exact BK142.out⟩, ⟨by repeat (first | (with_reducible first | exact HB.out | apply below_alloc | apply pw_below_drewN | apply below_drew1 | refine below_set ?_ GE140.out | refine below_set ?_ GE141.out | refine below_set ?_ GE142.out) | exact HB.out)⟩⟩
            case round =>
              clear H'
              try clear c1
              try clear c2
              try clear p2
              try clear c4
              try clear c4b0
              try clear c4b1
              try clear c5
              try clear c5b0
              try clear c5b1
              try clear p6
              try clear c9
              try clear c10
              try clear c12
              try clear c16
              try clear c16b0
              try clear c17
              try clear c18
              try clear hcz11_0
              try clear hcz11_1
              try clear hcz13_0
              try clear hcz13_1
              try clear hcz19_0
              try clear hcz19_1
              try clear hfz11_0
              try clear hfz11_1
              try clear hfz13_0
              try clear hfz13_1
              try clear hfz19_0
              try clear hfz19_1
              try clear p2
              try clear p6
              obtain ⟨x6_2, x8_2, x9_2, rfl, rfl, HA, HK2, HO_6, BK140, BK141, BK142, HB⟩ := hrel
              cases gk with
              | zero => exact absurd HA.out (by simp [spec_Int_Mul.l1])
              | succ k2 =>
                have H := HA.out
                clear HA
                simp only [spec_Int_Mul.l1] at H
                have HC20 := Aside0.mk H
                clear H
                go_upto_region 8 with (fail)
                repeat (go_quiet (fail); go_upto_region 8 with (fail))
                go_cut [38] (fun v38 wc => ∃ (kq : Nat) (x38_19 : Bool), v38 = .bool x38_19 ∧ Aside0 (spec_Int_Mul.j2 kq (wrap64 ((l0_1.length : Int) + (l1_1.length : Int))) x6_2 x7_1 x8_2 x9_2 x38_19 a0_0 l0_1 a1_0 l1_1 = some (r1, r2)) ∧ Aside0 (kq ≤ k2) ∧ Aside0 (Kd.R (Kd.int .i64) 3 wc w.heap.size (fun _ => True) v144 x6_2) ∧ Aside0 (wc.heap[gb140]? = some (.cells #[.bool a0_0, (.slice A0_1 l0_1.length c0_1)] 37 (0, 0))) ∧ Aside0 (wc.heap[gb141]? = some (.cells #[.bool a1_0, (.slice A1_1 l1_1.length c1_1)] 37 (0, 0))) ∧ Aside0 (wc.heap[gb142]? = some (.cells #[.bool false, (.slice none 0 0)] 37 (0, 0))) ∧ Aside0 (Below w.heap.size w wc))
                case first =>
                  have H := HC20.out
                  clear HC20
                  by_cases c21 : x9_2 < (l1_1.length : Int)
                  · rw [if_pos c21] at H
                    have c21b0 : decide (x9_2 < (l1_1.length : Int)) = true := decide_eq_true c21
                    clear c21
                    (first | rw [c21b0] | (simp only [i64_w, i32_w]; rw [c21b0]) | skip)
                    have H' := Aside0.mk H
                    clear H
                    have hnb22 := NB141_140.out
                    have hnc22 := NB140_141.out
                    have hnb23 := NB141_142.out
                    have hnc23 := NB142_141.out
                    have hcz24_0 : wr.cell? ⟨gb141, 0, none⟩ = some (.bool a1_0) := (blk_cell BK141.out 0).trans rfl
                    have hcz24_1 : wr.cell? ⟨gb141, 1, none⟩ = some (.slice A1_1 l1_1.length c1_1) := (blk_cell BK141.out 1).trans rfl
                    have hfz24_0 := blk_frozen BK141.out 0
                    have hfz24_1 := blk_frozen BK141.out 1
                    go_wp2
                    repeat (go_quiet (fail); try go_wp2)
                    go_meet
                    case rel => exact ⟨_, (true), (by first | rfl | (simp; done) | (simp [*]; done)), H', ⟨by have := HK1.out; have := HK2.out; first | omega | exact Nat.le_refl _⟩, ⟨by (with_reducible repeat (first | apply Kd.R_alloc | apply Kd.R_drewN | apply Kd.R_drew)); exact HO_6.out⟩, ⟨by (with_reducible repeat (first | refine blk_drewN ?_ _ | refine blk_drew ?_ | refine blk_alloc ?_ _)); exact BK140.out⟩, ⟨by (with_reducible repeat (first | refine blk_drewN ?_ _ | refine blk_drew ?_ | refine blk_alloc ?_ _)); exact BK141.out⟩, ⟨by (with_reducible repeat (first | refine blk_drewN ?_ _ | refine blk_drew ?_ | refine blk_alloc ?_ _)); exact BK142.out⟩, ⟨by repeat (first | (with_reducible first | exact HB.out | apply below_alloc | apply pw_below_drewN | apply below_drew1 | refine below_set ?_ GE140.out | refine below_set ?_ GE141.out | refine below_set ?_ GE142.out) | exact HB.out)⟩⟩
                  · rw [if_neg c21] at H
                    have c21b0 : decide (x9_2 < (l1_1.length : Int)) = false := decide_eq_false c21
                    clear c21
                    (first | rw [c21b0] | (simp only [i64_w, i32_w]; rw [c21b0]) | skip)
                    have H' := Aside0.mk H
                    clear H
                    have hnb25 := NB141_140.out
                    have hnc25 := NB140_141.out
                    have hnb26 := NB141_142.out
                    have hnc26 := NB142_141.out
                    have hcz27_0 : wr.cell? ⟨gb141, 0, none⟩ = some (.bool a1_0) := (blk_cell BK141.out 0).trans rfl
                    have hcz27_1 : wr.cell? ⟨gb141, 1, none⟩ = some (.slice A1_1 l1_1.length c1_1) := (blk_cell BK141.out 1).trans rfl
                    have hfz27_0 := blk_frozen BK141.out 0
                    have hfz27_1 := blk_frozen BK141.out 1
                    go_wp2
                    repeat (go_quiet (fail); try go_wp2)
                    go_meet
                    case rel => exact ⟨_, (decide (x8_2 > 0)), (by first | rfl | (simp; done) | (simp [*]; done)), H', ⟨by have := HK1.out; have := HK2.out; first | omega | exact Nat.le_refl _⟩, ⟨by (with_reducible repeat (first | apply Kd.R_alloc | apply Kd.R_drewN | apply Kd.R_drew)); exact HO_6.out⟩, ⟨by (with_reducible repeat (first | refine blk_drewN ?_ _ | refine blk_drew ?_ | refine blk_alloc ?_ _)); exact BK140.out⟩, ⟨by (with_reducible repeat (first | refine blk_drewN ?_ _ | refine blk_drew ?_ | refine blk_alloc ?_ _)); exact BK141.out⟩, ⟨by (with_reducible repeat (first | refine blk_drewN ?_ _ | refine blk_drew ?_ | refine blk_alloc ?_ _)); exact BK142.out⟩, ⟨by repeat (first | (with_reducible first | exact HB.out | apply below_alloc | apply pw_below_drewN | apply below_drew1 | refine below_set ?_ GE140.out | refine below_set ?_ GE141.out | refine below_set ?_ GE142.out) | exact HB.out)⟩⟩
                case rest =>
                  clear HC20
                  try clear c1
                  try clear c2
                  try clear p2
                  try clear c4
                  try clear c4b0
                  try clear c4b1
                  try clear c5
                  try clear c5b0
                  try clear c5b1
                  try clear p6
                  try clear c9
                  try clear c10
                  try clear c12
                  try clear c16
                  try clear c16b0
                  try clear c17
                  try clear c18
                  try clear c21
                  try clear c21b0
                  try clear c22
                  try clear c23
                  try clear c24
                  try clear c25
                  try clear c26
                  try clear hcz11_0
                  try clear hcz11_1
                  try clear hcz13_0
                  try clear hcz13_1
                  try clear hcz19_0
                  try clear hcz19_1
                  try clear hcz24_0
                  try clear hcz24_1
                  try clear hcz27_0
                  try clear hcz27_1
                  try clear hfz11_0
                  try clear hfz11_1
                  try clear hfz13_0
                  try clear hfz13_1
                  try clear hfz19_0
                  try clear hfz19_1
                  try clear hfz24_0
                  try clear hfz24_1
                  try clear hfz27_0
                  try clear hfz27_1
                  try clear p2
                  try clear p6
                  obtain ⟨kq, x38_19, rfl, HA, HJ19, HO_6, BK140, BK141, BK142, HB⟩ := hcut
                  cases kq with
                  | zero => exact absurd HA.out (by simp [spec_Int_Mul.j2])
                  | succ kj19 =>
                    have H := HA.out
                    clear HA
                    simp only [spec_Int_Mul.j2] at H
                    by_cases c28 : x38_19 = true
                    · subst c28
                      have H1 : (if 0 ≤ (wrap64 (x7_1 + x9_2)) then (if (wrap64 (x7_1 + x9_2)) < (x6_2.length : Int) then ((spec_digit.f l0_1 x7_1).bind fun t147 => ((spec_digit.f l1_1 x9_2).bind fun t148 => (spec_Int_Mul.l1 kj19 (wrap64 ((l0_1.length : Int) + (l1_1.length : Int))) (x6_2.set ((wrap64 (x7_1 + x9_2)) : Int).toNat (Int.tmod (wrap64 ((wrap64 ((rd x6_2 (wrap64 (x7_1 + x9_2))) + (wrap64 (t147 * t148)))) + x8_2)) 256)) x7_1 (wrap64 (Int.tdiv (wrap64 ((wrap64 ((rd x6_2 (wrap64 (x7_1 + x9_2))) + (wrap64 (t147 * t148)))) + x8_2)) 256)) (wrap64 (x9_2 + 1)) a0_0 l0_1 a1_0 l1_1))) else (none)) else (none)) = some (r1, r2) := by rw [if_pos rfl] at H; exact H
                      clear H
                      have H := H1
                      clear H1
                      obtain ⟨ji29, hji29⟩ : ∃ j_ : Int, (wrap64 (x7_1 + x9_2)) = j_ := ⟨_, rfl⟩
                      replace H : (if 0 ≤ (ji29) then (if (ji29) < (x6_2.length : Int) then ((spec_digit.f l0_1 x7_1).bind fun t147 => ((spec_digit.f l1_1 x9_2).bind fun t148 => (spec_Int_Mul.l1 kj19 (wrap64 ((l0_1.length : Int) + (l1_1.length : Int))) (x6_2.set ((ji29) : Int).toNat (Int.tmod (wrap64 ((wrap64 ((rd x6_2 (ji29)) + (wrap64 (t147 * t148)))) + x8_2)) 256)) x7_1 (wrap64 (Int.tdiv (wrap64 ((wrap64 ((rd x6_2 (ji29)) + (wrap64 (t147 * t148)))) + x8_2)) 256)) (wrap64 (x9_2 + 1)) a0_0 l0_1 a1_0 l1_1))) else (none)) else (none)) = some (r1, r2) := by first | (rw [hji29] at H; exact H) | (simp only [hji29] at H ⊢; exact H)
                      have hji29w : (IntKind.i64.wrap (x7_1 + x9_2)) = ji29 := (i64_w _).trans hji29
                      by_cases c30 : 0 ≤ (ji29)
                      · rw [if_pos c30] at H
                        have c30b0 : decide (0 ≤ (ji29)) = true := decide_eq_true c30
                        clear c30
                        by_cases c31 : (ji29) < (x6_2.length : Int)
                        · rw [if_pos c31] at H
                          have c31b0 : decide ((ji29) < (x6_2.length : Int)) = true := decide_eq_true c31
                          clear c31
                          replace H := Option.bind_eq_some_iff.mp H
                          obtain ⟨t147, A320, H⟩ := H
                          replace H : ((spec_digit.f l1_1 x9_2).bind fun t148 => (spec_Int_Mul.l1 kj19 (wrap64 ((l0_1.length : Int) + (l1_1.length : Int))) (x6_2.set ((ji29) : Int).toNat (Int.tmod (wrap64 ((wrap64 ((rd x6_2 (ji29)) + (wrap64 (t147 * t148)))) + x8_2)) 256)) x7_1 (wrap64 (Int.tdiv (wrap64 ((wrap64 ((rd x6_2 (ji29)) + (wrap64 (t147 * t148)))) + x8_2)) 256)) (wrap64 (x9_2 + 1)) a0_0 l0_1 a1_0 l1_1)) = some (r1, r2) := H
                          have A32 := Aside0.mk A320
                          clear A320
                          replace H := Option.bind_eq_some_iff.mp H
                          obtain ⟨t148, A330, H⟩ := H
                          replace H : (spec_Int_Mul.l1 kj19 (wrap64 ((l0_1.length : Int) + (l1_1.length : Int))) (x6_2.set ((ji29) : Int).toNat (Int.tmod (wrap64 ((wrap64 ((rd x6_2 (ji29)) + (wrap64 (t147 * t148)))) + x8_2)) 256)) x7_1 (wrap64 (Int.tdiv (wrap64 ((wrap64 ((rd x6_2 (ji29)) + (wrap64 (t147 * t148)))) + x8_2)) 256)) (wrap64 (x9_2 + 1)) a0_0 l0_1 a1_0 l1_1) = some (r1, r2) := H
                          have A33 := Aside0.mk A330
                          clear A330
                          obtain ⟨y149, hy149⟩ : ∃ y_ : List Int, y_ = (x6_2.set ((ji29) : Int).toNat (Int.tmod (wrap64 ((wrap64 ((rd x6_2 (ji29)) + (wrap64 (t147 * t148)))) + x8_2)) 256)) := ⟨_, rfl⟩
                          replace H : (spec_Int_Mul.l1 kj19 (wrap64 ((l0_1.length : Int) + (l1_1.length : Int))) y149 x7_1 (wrap64 (Int.tdiv (wrap64 ((wrap64 ((rd x6_2 (ji29)) + (wrap64 (t147 * t148)))) + x8_2)) 256)) (wrap64 (x9_2 + 1)) a0_0 l0_1 a1_0 l1_1) = some (r1, r2) := by first | (rw [hy149]; with_reducible exact H) | (have H2_ := (Option.bind_some _ _).symm.trans H; rw [hy149]; with_reducible exact H2_) | (have H2_ := (Option.bind_some _ _).symm.trans H; with_reducible exact H2_) | with_reducible exact H | (rw [hy149]; exact H) | exact H
                          have Ny149 := Aside0.mk hy149
                          clear hy149
                          have H' := Aside0.mk H
                          clear H
                          obtain ⟨Ao35, co35, eo35⟩ := Kd.R_slice HO_6.out
                          subst eo35
                          have p146 : 0 ≤ ((ji29) : Int) := of_decide_eq_true (by first | (with_reducible assumption) | assumption)
                          have q146 : (ji29) < (x6_2.length : Int) := of_decide_eq_true (by first | (with_reducible assumption) | assumption)
                          obtain ⟨ad146, e146, hx146_0⟩ := Kd.at_int (Kd.R_reads' HO_6.out).2.2 (ji29) p146 q146
                          cases e146
                          replace p146 := eq_true p146
                          replace q146 := eq_true q146
                          have hnb36 := NB140_141.out
                          have hnc36 := NB141_140.out
                          have hnb37 := NB140_142.out
                          have hnc37 := NB142_140.out
                          have hcz38_0 : wc.cell? ⟨gb140, 0, none⟩ = some (.bool a0_0) := (blk_cell BK140.out 0).trans rfl
                          have hcz38_1 : wc.cell? ⟨gb140, 1, none⟩ = some (.slice A0_1 l0_1.length c0_1) := (blk_cell BK140.out 1).trans rfl
                          have hfz38_0 := blk_frozen BK140.out 0
                          have hfz38_1 := blk_frozen BK140.out 1
                          go_wp2_with (first | (go_at_call 35; (with_reducible refine (spec_digit.calls _ _ l0_1 x7_1 t147 _ ?side1 ?side2 A32.out).mono ?_); (case side1 => repeat (first | exact (Kd.C_below HR0_1.out HB.out) | (with_reducible refine Kd.C_alloc ?_ _) | (with_reducible refine Kd.C_drewN ?_ _) | (with_reducible refine Kd.C_drew ?_))); (case side2 => exact HC0_1.out); rintro e w' ⟨rfl, ⟨nd, rfl⟩⟩; (try first | exact ⟨rfl, _, World.drewN_drewN _ _ _⟩ | exact ⟨rfl, _, Eq.trans (World.drewN_drewN _ _ _) (congrArg (World.drewN _) (Nat.add_assoc _ _ _))⟩); have hnb39 := NB141_142.out; have hnc39 := NB142_141.out; have hcz40_0 : wc.cell? ⟨gb141, 0, none⟩ = some (.bool a1_0) := (blk_cell BK141.out 0).trans rfl; have hcz40_1 : wc.cell? ⟨gb141, 1, none⟩ = some (.slice A1_1 l1_1.length c1_1) := (blk_cell BK141.out 1).trans rfl; have hfz40_0 := blk_frozen BK141.out 0; have hfz40_1 := blk_frozen BK141.out 1) | (go_at_call 35; (with_reducible refine (spec_digit.calls _ _ l1_1 x9_2 t148 _ ?side1 ?side2 A33.out).mono ?_); (case side1 => repeat (first | exact (Kd.C_below HR1_1.out (by repeat (first | (with_reducible first | exact HB.out | apply below_alloc | apply pw_below_drewN | apply below_drew1 | refine below_set ?_ GE140.out | refine below_set ?_ GE141.out | refine below_set ?_ GE142.out) | exact HB.out))) | (with_reducible refine Kd.C_alloc ?_ _) | (with_reducible refine Kd.C_drewN ?_ _) | (with_reducible refine Kd.C_drew ?_))); (case side2 => exact HC1_1.out); rintro e w' ⟨rfl, ⟨nd, rfl⟩⟩; (try first | exact ⟨rfl, _, World.drewN_drewN _ _ _⟩ | exact ⟨rfl, _, Eq.trans (World.drewN_drewN _ _ _) (congrArg (World.drewN _) (Nat.add_assoc _ _ _))⟩); have p34 : 0 ≤ ((ji29) : Int) := of_decide_eq_true (by first | (with_reducible assumption) | assumption); have q34 : ((ji29) : Int) < ((x6_2.length : Int) : Int) := of_decide_eq_true (by first | (with_reducible assumption) | assumption); obtain ⟨go34, co34, eo34, gb34, gl34, cl34, HG34⟩ := Kd.R_form HO_6.out (by omega); (first | cases eo34 | (injection eo34 with ea_ en_ ec_; (first | subst ea_ | (injection ea_ with ea_; subst ea_)); subst ec_; clear en_)); have GB34 := Aside0.mk gb34; have GG34 := Aside0.mk HG34; clear gb34 gl34 HG34; (first | simp only [add_plain] at hx146_0 | skip); obtain ⟨hx34_0, hf34_0⟩ := Kd.R_celln 0 HO_6.out ((ji29) : Int) p34 q34; replace p34 := eq_true p34; replace q34 := eq_true q34; obtain ⟨hy41_, hz41_⟩ := Kd.R_celln 0 HO_6.out ((ji29) : Int) (of_decide_eq_true (by first | (with_reducible assumption) | assumption)) (of_decide_eq_true (by first | (with_reducible assumption) | assumption)); have HP41 := Kd.R_putg HO_6.out ((ji29) : Int) (Int.tmod (wrap64 ((wrap64 ((rd x6_2 (ji29)) + (wrap64 (t147 * t148)))) + x8_2)) 256)) | ((with_reducible refine gate_store (t := 3) (p := 65) rfl ?_); (try (rw [drewN_self wc]; generalize hq_ : World.drewN wc _ = wc; have n0_ := Aside0.mk (Kd.R_at hq_ HO_6.out); have n1_ := Aside0.mk (blk_at hq_ BK140.out); have n2_ := Aside0.mk (blk_at hq_ BK141.out); have n3_ := Aside0.mk (blk_at hq_ BK142.out); have n4_ := Aside0.mk (below_at hq_ HB.out); clear hq_ HO_6 BK140 BK141 BK142 HB; have HO_6 := n0_; have BK140 := n1_; have BK141 := n2_; have BK142 := n3_; have HB := n4_; clear n0_ n1_ n2_ n3_ n4_; (try (obtain ⟨hy41_, hz41_⟩ := Kd.R_celln 0 HO_6.out ((ji29) : Int) (of_decide_eq_true (by first | (with_reducible assumption) | assumption)) (of_decide_eq_true (by first | (with_reducible assumption) | assumption)))); (try (have HP41 := Kd.R_putg HO_6.out ((ji29) : Int) (Int.tmod (wrap64 ((wrap64 ((rd x6_2 (ji29)) + (wrap64 (t147 * t148)))) + x8_2)) 256))))); refine store_event (t := 3) (p := 65) (v := ?vo_w42) (w1 := (wc.setCell ⟨go34, ((ji29) : Int).toNat, none⟩ (.int .i64 (Int.tmod (wrap64 ((wrap64 ((rd x6_2 (ji29)) + (wrap64 (t147 * t148)))) + x8_2)) 256)))) ?hg ?ho ?hn ?hr ?_; (case ho => rfl); (case hg => rfl); (case hn => rfl); (case hr => first | (go_simp; done) | (go_simp; rfl)); intro w42 hw; have hg : wc.grownBy w42 (some go34) := (by rw [hw]; exact HP41.2); have hp_ : Kd.R (Kd.int .i64) 3 w42 w.heap.size (fun _ => True) (.slice (some ⟨go34, 0, none⟩) x6_2.length co35) y149 := (by rw [hw, Ny149.out]; exact HP41.1); clear HP41; have n0_ := Aside0.mk (hp_); have n1_ := Aside0.mk (blk_grown (g := gb140) (o := .cells #[.bool a0_0, .slice A0_1 l0_1.length c0_1] 37 (0, 0)) (by (with_reducible repeat (first | refine blk_drewN ?_ _ | refine blk_drew ?_ | refine blk_alloc ?_ _)); exact BK140.out) hg (Kd.R_ne HO_6.out BK140.out (by decide))); have n2_ := Aside0.mk (blk_grown (g := gb141) (o := .cells #[.bool a1_0, .slice A1_1 l1_1.length c1_1] 37 (0, 0)) (by (with_reducible repeat (first | refine blk_drewN ?_ _ | refine blk_drew ?_ | refine blk_alloc ?_ _)); exact BK141.out) hg (Kd.R_ne HO_6.out BK141.out (by decide))); have n3_ := Aside0.mk (blk_grown (g := gb142) (o := .cells #[.bool false, .slice none 0 0] 37 (0, 0)) (by (with_reducible repeat (first | refine blk_drewN ?_ _ | refine blk_drew ?_ | refine blk_alloc ?_ _)); exact BK142.out) hg (Kd.R_ne HO_6.out BK142.out (by decide))); have n4_ := Aside0.mk ((by rw [hw]; exact below_set (HB.out) GB34.out : Below w.heap.size w w42)); clear HO_6; clear BK140; clear BK141; clear BK142; clear HB; have HO_6 := n0_; have BK140 := n1_; have BK141 := n2_; have BK142 := n3_; have HB := n4_; clear n0_ n1_ n2_ n3_ n4_; clear hg hw hp_))
                          repeat (go_quiet (first | (go_at_call 35; (with_reducible refine (spec_digit.calls _ _ l0_1 x7_1 t147 _ ?side1 ?side2 A32.out).mono ?_); (case side1 => repeat (first | exact (Kd.C_below HR0_1.out HB.out) | (with_reducible refine Kd.C_alloc ?_ _) | (with_reducible refine Kd.C_drewN ?_ _) | (with_reducible refine Kd.C_drew ?_))); (case side2 => exact HC0_1.out); rintro e w' ⟨rfl, ⟨nd, rfl⟩⟩; (try first | exact ⟨rfl, _, World.drewN_drewN _ _ _⟩ | exact ⟨rfl, _, Eq.trans (World.drewN_drewN _ _ _) (congrArg (World.drewN _) (Nat.add_assoc _ _ _))⟩); have hnb39 := NB141_142.out; have hnc39 := NB142_141.out; have hcz40_0 : wc.cell? ⟨gb141, 0, none⟩ = some (.bool a1_0) := (blk_cell BK141.out 0).trans rfl; have hcz40_1 : wc.cell? ⟨gb141, 1, none⟩ = some (.slice A1_1 l1_1.length c1_1) := (blk_cell BK141.out 1).trans rfl; have hfz40_0 := blk_frozen BK141.out 0; have hfz40_1 := blk_frozen BK141.out 1) | (go_at_call 35; (with_reducible refine (spec_digit.calls _ _ l1_1 x9_2 t148 _ ?side1 ?side2 A33.out).mono ?_); (case side1 => repeat (first | exact (Kd.C_below HR1_1.out (by repeat (first | (with_reducible first | exact HB.out | apply below_alloc | apply pw_below_drewN | apply below_drew1 | refine below_set ?_ GE140.out | refine below_set ?_ GE141.out | refine below_set ?_ GE142.out) | exact HB.out))) | (with_reducible refine Kd.C_alloc ?_ _) | (with_reducible refine Kd.C_drewN ?_ _) | (with_reducible refine Kd.C_drew ?_))); (case side2 => exact HC1_1.out); rintro e w' ⟨rfl, ⟨nd, rfl⟩⟩; (try first | exact ⟨rfl, _, World.drewN_drewN _ _ _⟩ | exact ⟨rfl, _, Eq.trans (World.drewN_drewN _ _ _) (congrArg (World.drewN _) (Nat.add_assoc _ _ _))⟩); have p34 : 0 ≤ ((ji29) : Int) := of_decide_eq_true (by first | (with_reducible assumption) | assumption); have q34 : ((ji29) : Int) < ((x6_2.length : Int) : Int) := of_decide_eq_true (by first | (with_reducible assumption) | assumption); obtain ⟨go34, co34, eo34, gb34, gl34, cl34, HG34⟩ := Kd.R_form HO_6.out (by omega); (first | cases eo34 | (injection eo34 with ea_ en_ ec_; (first | subst ea_ | (injection ea_ with ea_; subst ea_)); subst ec_; clear en_)); have GB34 := Aside0.mk gb34; have GG34 := Aside0.mk HG34; clear gb34 gl34 HG34; (first | simp only [add_plain] at hx146_0 | skip); obtain ⟨hx34_0, hf34_0⟩ := Kd.R_celln 0 HO_6.out ((ji29) : Int) p34 q34; replace p34 := eq_true p34; replace q34 := eq_true q34; obtain ⟨hy41_, hz41_⟩ := Kd.R_celln 0 HO_6.out ((ji29) : Int) (of_decide_eq_true (by first | (with_reducible assumption) | assumption)) (of_decide_eq_true (by first | (with_reducible assumption) | assumption)); have HP41 := Kd.R_putg HO_6.out ((ji29) : Int) (Int.tmod (wrap64 ((wrap64 ((rd x6_2 (ji29)) + (wrap64 (t147 * t148)))) + x8_2)) 256)) | ((with_reducible refine gate_store (t := 3) (p := 65) rfl ?_); (try (rw [drewN_self wc]; generalize hq_ : World.drewN wc _ = wc; have n0_ := Aside0.mk (Kd.R_at hq_ HO_6.out); have n1_ := Aside0.mk (blk_at hq_ BK140.out); have n2_ := Aside0.mk (blk_at hq_ BK141.out); have n3_ := Aside0.mk (blk_at hq_ BK142.out); have n4_ := Aside0.mk (below_at hq_ HB.out); clear hq_ HO_6 BK140 BK141 BK142 HB; have HO_6 := n0_; have BK140 := n1_; have BK141 := n2_; have BK142 := n3_; have HB := n4_; clear n0_ n1_ n2_ n3_ n4_; (try (obtain ⟨hy41_, hz41_⟩ := Kd.R_celln 0 HO_6.out ((ji29) : Int) (of_decide_eq_true (by first | (with_reducible assumption) | assumption)) (of_decide_eq_true (by first | (with_reducible assumption) | assumption)))); (try (have HP41 := Kd.R_putg HO_6.out ((ji29) : Int) (Int.tmod (wrap64 ((wrap64 ((rd x6_2 (ji29)) + (wrap64 (t147 * t148)))) + x8_2)) 256))))); refine store_event (t := 3) (p := 65) (v := ?vo_w42) (w1 := (wc.setCell ⟨go34, ((ji29) : Int).toNat, none⟩ (.int .i64 (Int.tmod (wrap64 ((wrap64 ((rd x6_2 (ji29)) + (wrap64 (t147 * t148)))) + x8_2)) 256)))) ?hg ?ho ?hn ?hr ?_; (case ho => rfl); (case hg => rfl); (case hn => rfl); (case hr => first | (go_simp; done) | (go_simp; rfl)); intro w42 hw; have hg : wc.grownBy w42 (some go34) := (by rw [hw]; exact HP41.2); have hp_ : Kd.R (Kd.int .i64) 3 w42 w.heap.size (fun _ => True) (.slice (some ⟨go34, 0, none⟩) x6_2.length co35) y149 := (by rw [hw, Ny149.out]; exact HP41.1); clear HP41; have n0_ := Aside0.mk (hp_); have n1_ := Aside0.mk (blk_grown (g := gb140) (o := .cells #[.bool a0_0, .slice A0_1 l0_1.length c0_1] 37 (0, 0)) (by (with_reducible repeat (first | refine blk_drewN ?_ _ | refine blk_drew ?_ | refine blk_alloc ?_ _)); exact BK140.out) hg (Kd.R_ne HO_6.out BK140.out (by decide))); have n2_ := Aside0.mk (blk_grown (g := gb141) (o := .cells #[.bool a1_0, .slice A1_1 l1_1.length c1_1] 37 (0, 0)) (by (with_reducible repeat (first | refine blk_drewN ?_ _ | refine blk_drew ?_ | refine blk_alloc ?_ _)); exact BK141.out) hg (Kd.R_ne HO_6.out BK141.out (by decide))); have n3_ := Aside0.mk (blk_grown (g := gb142) (o := .cells #[.bool false, .slice none 0 0] 37 (0, 0)) (by (with_reducible repeat (first | refine blk_drewN ?_ _ | refine blk_drew ?_ | refine blk_alloc ?_ _)); exact BK142.out) hg (Kd.R_ne HO_6.out BK142.out (by decide))); have n4_ := Aside0.mk ((by rw [hw]; exact below_set (HB.out) GB34.out : Below w.heap.size w w42)); clear HO_6; clear BK140; clear BK141; clear BK142; clear HB; have HO_6 := n0_; have BK140 := n1_; have BK141 := n2_; have BK142 := n3_; have HB := n4_; clear n0_ n1_ n2_ n3_ n4_; clear hg hw hp_)); try go_wp2_with (first | (go_at_call 35; (with_reducible refine (spec_digit.calls _ _ l0_1 x7_1 t147 _ ?side1 ?side2 A32.out).mono ?_); (case side1 => repeat (first | exact (Kd.C_below HR0_1.out HB.out) | (with_reducible refine Kd.C_alloc ?_ _) | (with_reducible refine Kd.C_drewN ?_ _) | (with_reducible refine Kd.C_drew ?_))); (case side2 => exact HC0_1.out); rintro e w' ⟨rfl, ⟨nd, rfl⟩⟩; (try first | exact ⟨rfl, _, World.drewN_drewN _ _ _⟩ | exact ⟨rfl, _, Eq.trans (World.drewN_drewN _ _ _) (congrArg (World.drewN _) (Nat.add_assoc _ _ _))⟩); have hnb39 := NB141_142.out; have hnc39 := NB142_141.out; have hcz40_0 : wc.cell? ⟨gb141, 0, none⟩ = some (.bool a1_0) := (blk_cell BK141.out 0).trans rfl; have hcz40_1 : wc.cell? ⟨gb141, 1, none⟩ = some (.slice A1_1 l1_1.length c1_1) := (blk_cell BK141.out 1).trans rfl; have hfz40_0 := blk_frozen BK141.out 0; have hfz40_1 := blk_frozen BK141.out 1) | (go_at_call 35; (with_reducible refine (spec_digit.calls _ _ l1_1 x9_2 t148 _ ?side1 ?side2 A33.out).mono ?_); (case side1 => repeat (first | exact (Kd.C_below HR1_1.out (by repeat (first | (with_reducible first | exact HB.out | apply below_alloc | apply pw_below_drewN | apply below_drew1 | refine below_set ?_ GE140.out | refine below_set ?_ GE141.out | refine below_set ?_ GE142.out) | exact HB.out))) | (with_reducible refine Kd.C_alloc ?_ _) | (with_reducible refine Kd.C_drewN ?_ _) | (with_reducible refine Kd.C_drew ?_))); (case side2 => exact HC1_1.out); rintro e w' ⟨rfl, ⟨nd, rfl⟩⟩; (try first | exact ⟨rfl, _, World.drewN_drewN _ _ _⟩ | exact ⟨rfl, _, Eq.trans (World.drewN_drewN _ _ _) (congrArg (World.drewN _) (Nat.add_assoc _ _ _))⟩); have p34 : 0 ≤ ((ji29) : Int) := of_decide_eq_true (by first | (with_reducible assumption) | assumption); have q34 : ((ji29) : Int) < ((x6_2.length : Int) : Int) := of_decide_eq_true (by first | (with_reducible assumption) | assumption); obtain ⟨go34, co34, eo34, gb34, gl34, cl34, HG34⟩ := Kd.R_form HO_6.out (by omega); (first | cases eo34 | (injection eo34 with ea_ en_ ec_; (first | subst ea_ | (injection ea_ with ea_; subst ea_)); subst ec_; clear en_)); have GB34 := Aside0.mk gb34; have GG34 := Aside0.mk HG34; clear gb34 gl34 HG34; (first | simp only [add_plain] at hx146_0 | skip); obtain ⟨hx34_0, hf34_0⟩ := Kd.R_celln 0 HO_6.out ((ji29) : Int) p34 q34; replace p34 := eq_true p34; replace q34 := eq_true q34; obtain ⟨hy41_, hz41_⟩ := Kd.R_celln 0 HO_6.out ((ji29) : Int) (of_decide_eq_true (by first | (with_reducible assumption) | assumption)) (of_decide_eq_true (by first | (with_reducible assumption) | assumption)); have HP41 := Kd.R_putg HO_6.out ((ji29) : Int) (Int.tmod (wrap64 ((wrap64 ((rd x6_2 (ji29)) + (wrap64 (t147 * t148)))) + x8_2)) 256)) | ((with_reducible refine gate_store (t := 3) (p := 65) rfl ?_); (try (rw [drewN_self wc]; generalize hq_ : World.drewN wc _ = wc; have n0_ := Aside0.mk (Kd.R_at hq_ HO_6.out); have n1_ := Aside0.mk (blk_at hq_ BK140.out); have n2_ := Aside0.mk (blk_at hq_ BK141.out); have n3_ := Aside0.mk (blk_at hq_ BK142.out); have n4_ := Aside0.mk (below_at hq_ HB.out); clear hq_ HO_6 BK140 BK141 BK142 HB; have HO_6 := n0_; have BK140 := n1_; have BK141 := n2_; have BK142 := n3_; have HB := n4_; clear n0_ n1_ n2_ n3_ n4_; (try (obtain ⟨hy41_, hz41_⟩ := Kd.R_celln 0 HO_6.out ((ji29) : Int) (of_decide_eq_true (by first | (with_reducible assumption) | assumption)) (of_decide_eq_true (by first | (with_reducible assumption) | assumption)))); (try (have HP41 := Kd.R_putg HO_6.out ((ji29) : Int) (Int.tmod (wrap64 ((wrap64 ((rd x6_2 (ji29)) + (wrap64 (t147 * t148)))) + x8_2)) 256))))); refine store_event (t := 3) (p := 65) (v := ?vo_w42) (w1 := (wc.setCell ⟨go34, ((ji29) : Int).toNat, none⟩ (.int .i64 (Int.tmod (wrap64 ((wrap64 ((rd x6_2 (ji29)) + (wrap64 (t147 * t148)))) + x8_2)) 256)))) ?hg ?ho ?hn ?hr ?_; (case ho => rfl); (case hg => rfl); (case hn => rfl); (case hr => first | (go_simp; done) | (go_simp; rfl)); intro w42 hw; have hg : wc.grownBy w42 (some go34) := (by rw [hw]; exact HP41.2); have hp_ : Kd.R (Kd.int .i64) 3 w42 w.heap.size (fun _ => True) (.slice (some ⟨go34, 0, none⟩) x6_2.length co35) y149 := (by rw [hw, Ny149.out]; exact HP41.1); clear HP41; have n0_ := Aside0.mk (hp_); have n1_ := Aside0.mk (blk_grown (g := gb140) (o := .cells #[.bool a0_0, .slice A0_1 l0_1.length c0_1] 37 (0, 0)) (by (with_reducible repeat (first | refine blk_drewN ?_ _ | refine blk_drew ?_ | refine blk_alloc ?_ _)); exact BK140.out) hg (Kd.R_ne HO_6.out BK140.out (by decide))); have n2_ := Aside0.mk (blk_grown (g := gb141) (o := .cells #[.bool a1_0, .slice A1_1 l1_1.length c1_1] 37 (0, 0)) (by (with_reducible repeat (first | refine blk_drewN ?_ _ | refine blk_drew ?_ | refine blk_alloc ?_ _)); exact BK141.out) hg (Kd.R_ne HO_6.out BK141.out (by decide))); have n3_ := Aside0.mk (blk_grown (g := gb142) (o := .cells #[.bool false, .slice none 0 0] 37 (0, 0)) (by (with_reducible repeat (first | refine blk_drewN ?_ _ | refine blk_drew ?_ | refine blk_alloc ?_ _)); exact BK142.out) hg (Kd.R_ne HO_6.out BK142.out (by decide))); have n4_ := Aside0.mk ((by rw [hw]; exact below_set (HB.out) GB34.out : Below w.heap.size w w42)); clear HO_6; clear BK140; clear BK141; clear BK142; clear HB; have HO_6 := n0_; have BK140 := n1_; have BK141 := n2_; have BK142 := n3_; have HB := n4_; clear n0_ n1_ n2_ n3_ n4_; clear hg hw hp_)))
                          go_roundg kj19
                          case measure => have := HK1.out; have := HK2.out; have := HJ19.out; omega
                          case rel => exact ⟨(y149), (wrap64 (Int.tdiv (wrap64 ((wrap64 ((rd x6_2 (ji29)) + (wrap64 (t147 * t148)))) + x8_2)) 256)), (wrap64 (x9_2 + 1)), (by first | rfl | (simp; done) | (simp only [← hji29] <;> (first | rfl | simp)) | (simp [*]; done)), (by first | rfl | (simp; done) | (simp [*]; done)), H', ⟨by have := HK1.out; have := HK2.out; have := HJ19.out; omega⟩, ⟨by (with_reducible repeat (first | apply Kd.R_alloc | apply Kd.R_drewN | apply Kd.R_drew)); exact HO_6.out⟩, ⟨by (with_reducible repeat (first | refine blk_drewN ?_ _ | refine blk_drew ?_ | refine blk_alloc ?_ _)); exact BK140.out⟩, ⟨by (with_reducible repeat (first | refine blk_drewN ?_ _ | refine blk_drew ?_ | refine blk_alloc ?_ _)); exact BK141.out⟩, ⟨by (with_reducible repeat (first | refine blk_drewN ?_ _ | refine blk_drew ?_ | refine blk_alloc ?_ _)); exact BK142.out⟩, ⟨by repeat (first | (with_reducible first | exact HB.out | apply below_alloc | apply pw_below_drewN | apply below_drew1 | refine below_set ?_ GE140.out | refine below_set ?_ GE141.out | refine below_set ?_ GE142.out) | exact HB.out)⟩⟩
                        · rw [if_neg c31] at H
                          exact absurd H (by simp)
                      · rw [if_neg c30] at H
                        exact absurd H (by simp)
                    · replace c28 := Bool.eq_false_iff.mpr c28
                      subst c28
                      have H1 : (spec_Int_Mul.l0 kj19 (wrap64 ((l0_1.length : Int) + (l1_1.length : Int))) x6_2 (wrap64 (x7_1 + 1)) a0_0 l0_1 a1_0 l1_1) = some (r1, r2) := by rw [if_neg (show ¬ (false = true) by decide)] at H; exact H
                      clear H
                      have H := H1
                      clear H1
                      have H' := Aside0.mk H
                      clear H
                      go_wp2
                      repeat (go_quiet (fail); try go_wp2)
                      go_roundg kj19
                      case measure => have := HK1.out; have := HK2.out; have := HJ19.out; omega
                      case rel => exact ⟨(x6_2), (wrap64 (x7_1 + 1)), (by first | rfl | (simp; done) | (simp [*]; done)), H', ⟨by have := HK1.out; have := HK2.out; have := HJ19.out; omega⟩, ⟨by (with_reducible repeat (first | apply Kd.R_alloc | apply Kd.R_drewN | apply Kd.R_drew)); exact HO_6.out⟩, ⟨by (with_reducible repeat (first | refine blk_drewN ?_ _ | refine blk_drew ?_ | refine blk_alloc ?_ _)); exact BK140.out⟩, ⟨by (with_reducible repeat (first | refine blk_drewN ?_ _ | refine blk_drew ?_ | refine blk_alloc ?_ _)); exact BK141.out⟩, ⟨by (with_reducible repeat (first | refine blk_drewN ?_ _ | refine blk_drew ?_ | refine blk_alloc ?_ _)); exact BK142.out⟩, ⟨by repeat (first | (with_reducible first | exact HB.out | apply below_alloc | apply pw_below_drewN | apply below_drew1 | refine below_set ?_ GE140.out | refine below_set ?_ GE141.out | refine below_set ?_ GE142.out) | exact HB.out)⟩⟩
          · rw [if_neg c16] at H
            have c16b0 : decide (x7_1 < (l0_1.length : Int)) = false := decide_eq_false c16
            clear c16
            obtain ⟨ji43, hji43⟩ : ∃ j_ : Int, (wrap64 ((l0_1.length : Int) + (l1_1.length : Int))) = j_ := ⟨_, rfl⟩
            replace H : (if 0 ≤ (ji43) then (if ((ji43) : Int).toNat ≤ 281474976710656 then (spec_Int_Mul.l2 k1 (ji43) x6_1 (List.replicate ((ji43) : Int).toNat 0) 0 a0_0 l0_1 a1_0 l1_1) else (none)) else (none)) = some (r1, r2) := by first | (rw [hji43] at H; exact H) | (simp only [hji43] at H ⊢; exact H)
            have hji43w : (IntKind.i64.wrap ((l0_1.length : Int) + (l1_1.length : Int))) = ji43 := (i64_w _).trans hji43
            by_cases c44 : 0 ≤ (ji43)
            · rw [if_pos c44] at H
              have c44b0 := eq_true c44
              have c44b1 : decide (0 ≤ (ji43)) = true := decide_eq_true c44
              clear c44
              by_cases c45 : ((ji43) : Int).toNat ≤ 281474976710656
              · rw [if_pos c45] at H
                have c45b0 := eq_true c45
                have c45b1 : decide (((ji43) : Int).toNat ≤ 281474976710656) = true := decide_eq_true c45
                clear c45
                obtain ⟨y150, hy150⟩ : ∃ y_ : List Int, y_ = (List.replicate ((ji43) : Int).toNat 0) := ⟨_, rfl⟩
                replace H : (spec_Int_Mul.l2 k1 (ji43) x6_1 y150 0 a0_0 l0_1 a1_0 l1_1) = some (r1, r2) := by first | (rw [hy150]; with_reducible exact H) | (have H2_ := (Option.bind_some _ _).symm.trans H; rw [hy150]; with_reducible exact H2_) | (have H2_ := (Option.bind_some _ _).symm.trans H; with_reducible exact H2_) | with_reducible exact H | (rw [hy150]; exact H) | exact H
                have Ny150 := Aside0.mk hy150
                clear hy150
                have H' := Aside0.mk H
                clear H
                have hnb46 := NB140_141.out
                have hnc46 := NB141_140.out
                have hnb47 := NB140_142.out
                have hnc47 := NB142_140.out
                have hcz48_0 : wr.cell? ⟨gb140, 0, none⟩ = some (.bool a0_0) := (blk_cell BK140.out 0).trans rfl
                have hcz48_1 : wr.cell? ⟨gb140, 1, none⟩ = some (.slice A0_1 l0_1.length c0_1) := (blk_cell BK140.out 1).trans rfl
                have hfz48_0 := blk_frozen BK140.out 0
                have hfz48_1 := blk_frozen BK140.out 1
                try rw [hji43]
                go_wp2_with (first | ((with_reducible refine gate_dst (N := 69) rfl ?_); refine Kd.R_make (Kd.int .u8) _ 5 rfl (N := 69) rfl 35 _ _ rfl (ji43) rfl rfl Tryz.underlying35 (.int .u8 0) 1 info5 rfl (by decide) (by omega) 0 (ok := fun _ => True) (okp := fun _ => True) rfl (fun _ hk => hk) trivial (of_decide_eq_true (by first | (with_reducible assumption) | assumption)) (Nat.le_trans (Nat.mul_le_mul_right _ (of_decide_eq_true (by first | (with_reducible assumption) | assumption) : (ji43).toNat ≤ 281474976710656)) (by omega)) (Below.refl _ _) (Nat.le_refl _) ?_; intro v151 w49 ho50 hb hg_ hnew_; clear hg_ hnew_; (first | rw [← Ny150.out] at ho50 | (simp only [Int.reduceToNat] at ho50; rw [← Ny150.out] at ho50)); have n0_ := Aside0.mk (Kd.R_below (by (with_reducible repeat (first | apply Kd.R_alloc | apply Kd.R_drewN | apply Kd.R_drew)); exact HO_6.out) hb); have n1_ := Aside0.mk (Kd.R_lower ho50 (below_size (by repeat (first | (with_reducible first | exact HB.out | apply below_alloc | apply pw_below_drewN | apply below_drew1 | refine below_set ?_ GE140.out | refine below_set ?_ GE141.out | refine below_set ?_ GE142.out) | exact HB.out)))); have n2_ := Aside0.mk (blk_below (g := gb140) (o := .cells #[.bool a0_0, .slice A0_1 l0_1.length c0_1] 37 (0, 0)) (by (with_reducible repeat (first | refine blk_drewN ?_ _ | refine blk_drew ?_ | refine blk_alloc ?_ _)); exact BK140.out) hb); have n3_ := Aside0.mk (blk_below (g := gb141) (o := .cells #[.bool a1_0, .slice A1_1 l1_1.length c1_1] 37 (0, 0)) (by (with_reducible repeat (first | refine blk_drewN ?_ _ | refine blk_drew ?_ | refine blk_alloc ?_ _)); exact BK141.out) hb); have n4_ := Aside0.mk (blk_below (g := gb142) (o := .cells #[.bool false, .slice none 0 0] 37 (0, 0)) (by (with_reducible repeat (first | refine blk_drewN ?_ _ | refine blk_drew ?_ | refine blk_alloc ?_ _)); exact BK142.out) hb); have n5_ := Aside0.mk (below_step (by repeat (first | (with_reducible first | exact HB.out | apply below_alloc | apply pw_below_drewN | apply below_drew1 | refine below_set ?_ GE140.out | refine below_set ?_ GE141.out | refine below_set ?_ GE142.out) | exact HB.out)) hb); clear HO_6; clear BK140; clear BK141; clear BK142; clear HB; have HO_6 := n0_; have HO152 := n1_; have BK140 := n2_; have BK141 := n3_; have BK142 := n4_; have HB := n5_; clear n0_ n1_ n2_ n3_ n4_ n5_; clear hb ho50))
                repeat (go_quiet (first | ((with_reducible refine gate_dst (N := 69) rfl ?_); refine Kd.R_make (Kd.int .u8) _ 5 rfl (N := 69) rfl 35 _ _ rfl (ji43) rfl rfl Tryz.underlying35 (.int .u8 0) 1 info5 rfl (by decide) (by omega) 0 (ok := fun _ => True) (okp := fun _ => True) rfl (fun _ hk => hk) trivial (of_decide_eq_true (by first | (with_reducible assumption) | assumption)) (Nat.le_trans (Nat.mul_le_mul_right _ (of_decide_eq_true (by first | (with_reducible assumption) | assumption) : (ji43).toNat ≤ 281474976710656)) (by omega)) (Below.refl _ _) (Nat.le_refl _) ?_; intro v151 w49 ho50 hb hg_ hnew_; clear hg_ hnew_; (first | rw [← Ny150.out] at ho50 | (simp only [Int.reduceToNat] at ho50; rw [← Ny150.out] at ho50)); have n0_ := Aside0.mk (Kd.R_below (by (with_reducible repeat (first | apply Kd.R_alloc | apply Kd.R_drewN | apply Kd.R_drew)); exact HO_6.out) hb); have n1_ := Aside0.mk (Kd.R_lower ho50 (below_size (by repeat (first | (with_reducible first | exact HB.out | apply below_alloc | apply pw_below_drewN | apply below_drew1 | refine below_set ?_ GE140.out | refine below_set ?_ GE141.out | refine below_set ?_ GE142.out) | exact HB.out)))); have n2_ := Aside0.mk (blk_below (g := gb140) (o := .cells #[.bool a0_0, .slice A0_1 l0_1.length c0_1] 37 (0, 0)) (by (with_reducible repeat (first | refine blk_drewN ?_ _ | refine blk_drew ?_ | refine blk_alloc ?_ _)); exact BK140.out) hb); have n3_ := Aside0.mk (blk_below (g := gb141) (o := .cells #[.bool a1_0, .slice A1_1 l1_1.length c1_1] 37 (0, 0)) (by (with_reducible repeat (first | refine blk_drewN ?_ _ | refine blk_drew ?_ | refine blk_alloc ?_ _)); exact BK141.out) hb); have n4_ := Aside0.mk (blk_below (g := gb142) (o := .cells #[.bool false, .slice none 0 0] 37 (0, 0)) (by (with_reducible repeat (first | refine blk_drewN ?_ _ | refine blk_drew ?_ | refine blk_alloc ?_ _)); exact BK142.out) hb); have n5_ := Aside0.mk (below_step (by repeat (first | (with_reducible first | exact HB.out | apply below_alloc | apply pw_below_drewN | apply below_drew1 | refine below_set ?_ GE140.out | refine below_set ?_ GE141.out | refine below_set ?_ GE142.out) | exact HB.out)) hb); clear HO_6; clear BK140; clear BK141; clear BK142; clear HB; have HO_6 := n0_; have HO152 := n1_; have BK140 := n2_; have BK141 := n3_; have BK142 := n4_; have HB := n5_; clear n0_ n1_ n2_ n3_ n4_ n5_; clear hb ho50)); try go_wp2_with (first | ((with_reducible refine gate_dst (N := 69) rfl ?_); refine Kd.R_make (Kd.int .u8) _ 5 rfl (N := 69) rfl 35 _ _ rfl (ji43) rfl rfl Tryz.underlying35 (.int .u8 0) 1 info5 rfl (by decide) (by omega) 0 (ok := fun _ => True) (okp := fun _ => True) rfl (fun _ hk => hk) trivial (of_decide_eq_true (by first | (with_reducible assumption) | assumption)) (Nat.le_trans (Nat.mul_le_mul_right _ (of_decide_eq_true (by first | (with_reducible assumption) | assumption) : (ji43).toNat ≤ 281474976710656)) (by omega)) (Below.refl _ _) (Nat.le_refl _) ?_; intro v151 w49 ho50 hb hg_ hnew_; clear hg_ hnew_; (first | rw [← Ny150.out] at ho50 | (simp only [Int.reduceToNat] at ho50; rw [← Ny150.out] at ho50)); have n0_ := Aside0.mk (Kd.R_below (by (with_reducible repeat (first | apply Kd.R_alloc | apply Kd.R_drewN | apply Kd.R_drew)); exact HO_6.out) hb); have n1_ := Aside0.mk (Kd.R_lower ho50 (below_size (by repeat (first | (with_reducible first | exact HB.out | apply below_alloc | apply pw_below_drewN | apply below_drew1 | refine below_set ?_ GE140.out | refine below_set ?_ GE141.out | refine below_set ?_ GE142.out) | exact HB.out)))); have n2_ := Aside0.mk (blk_below (g := gb140) (o := .cells #[.bool a0_0, .slice A0_1 l0_1.length c0_1] 37 (0, 0)) (by (with_reducible repeat (first | refine blk_drewN ?_ _ | refine blk_drew ?_ | refine blk_alloc ?_ _)); exact BK140.out) hb); have n3_ := Aside0.mk (blk_below (g := gb141) (o := .cells #[.bool a1_0, .slice A1_1 l1_1.length c1_1] 37 (0, 0)) (by (with_reducible repeat (first | refine blk_drewN ?_ _ | refine blk_drew ?_ | refine blk_alloc ?_ _)); exact BK141.out) hb); have n4_ := Aside0.mk (blk_below (g := gb142) (o := .cells #[.bool false, .slice none 0 0] 37 (0, 0)) (by (with_reducible repeat (first | refine blk_drewN ?_ _ | refine blk_drew ?_ | refine blk_alloc ?_ _)); exact BK142.out) hb); have n5_ := Aside0.mk (below_step (by repeat (first | (with_reducible first | exact HB.out | apply below_alloc | apply pw_below_drewN | apply below_drew1 | refine below_set ?_ GE140.out | refine below_set ?_ GE141.out | refine below_set ?_ GE142.out) | exact HB.out)) hb); clear HO_6; clear BK140; clear BK141; clear BK142; clear HB; have HO_6 := n0_; have HO152 := n1_; have BK140 := n2_; have BK141 := n3_; have BK142 := n4_; have HB := n5_; clear n0_ n1_ n2_ n3_ n4_ n5_; clear hb ho50)))
                go_loopg [12] k1 (fun kq v12 w' => ∃ (x11_2 : List Int) (x12_2 : Int), v12 = .int .i64 x12_2 ∧ Aside0 (spec_Int_Mul.l2 kq (ji43) x6_1 x11_2 x12_2 a0_0 l0_1 a1_0 l1_1 = some (r1, r2)) ∧ Aside0 (kq ≤ k1) ∧ Aside0 (Kd.R (Kd.int .i64) 3 w' w.heap.size (fun _ => True) v144 x6_1) ∧ Aside0 (Kd.R (Kd.int .u8) 5 w' w.heap.size (fun _ => True) v151 x11_2) ∧ Aside0 (w'.heap[gb140]? = some (.cells #[.bool a0_0, (.slice A0_1 l0_1.length c0_1)] 37 (0, 0))) ∧ Aside0 (w'.heap[gb141]? = some (.cells #[.bool a1_0, (.slice A1_1 l1_1.length c1_1)] 37 (0, 0))) ∧ Aside0 (w'.heap[gb142]? = some (.cells #[.bool false, (.slice none 0 0)] 37 (0, 0))) ∧ Aside0 (Below w.heap.size w w'))
                case atStart => exact ⟨(y150), (0), (by first | rfl | (simp; done) | (simp [*]; done)), H', ⟨Nat.le_refl _⟩, ⟨by (with_reducible repeat (first | apply Kd.R_alloc | apply Kd.R_drewN | apply Kd.R_drew)); exact HO_6.out⟩, ⟨by (with_reducible repeat (first | apply Kd.R_alloc | apply Kd.R_drewN | apply Kd.R_drew)); exact HO152.out⟩, ⟨by (with_reducible repeat (first | refine blk_drewN ?_ _ | refine blk_drew ?_ | refine blk_alloc ?_ _)); exact BK140.out⟩, ⟨by (with_reducible repeat (first | refine blk_drewN ?_ _ | refine blk_drew ?_ | refine blk_alloc ?_ _)); exact BK141.out⟩, ⟨by (with_reducible repeat (first | refine blk_drewN ?_ _ | refine blk_drew ?_ | refine blk_alloc ?_ _)); exact BK142.out⟩, ⟨by repeat (first | (with_reducible first | exact HB.out | apply below_alloc | apply pw_below_drewN | apply below_drew1 | refine below_set ?_ GE140.out | refine below_set ?_ GE141.out | refine below_set ?_ GE142.out) | exact HB.out)⟩⟩
                case round =>
                  clear H'
                  try clear c1
                  try clear p1
                  try clear q1
                  try clear hx1
                  try clear c2
                  try clear p2
                  try clear c3
                  try clear p3
                  try clear q3
                  try clear hx3
                  try clear hf3
                  try clear c4
                  try clear c4b0
                  try clear c4b1
                  try clear c5
                  try clear c5b0
                  try clear c5b1
                  try clear p6
                  try clear c9
                  try clear c10
                  try clear c12
                  try clear p14
                  try clear q14
                  try clear hx14
                  try clear c16
                  try clear c16b0
                  try clear c17
                  try clear c18
                  try clear c21
                  try clear c21b0
                  try clear c22
                  try clear c23
                  try clear c24
                  try clear c25
                  try clear c26
                  try clear c28
                  try clear c30
                  try clear c30b0
                  try clear c31
                  try clear c31b0
                  try clear p34
                  try clear q34
                  try clear hx34
                  try clear hf34
                  try clear c36
                  try clear c37
                  try clear c39
                  try clear c44
                  try clear c44b0
                  try clear c44b1
                  try clear c45
                  try clear c45b0
                  try clear c45b1
                  try clear c46
                  try clear c47
                  try clear hcz11_0
                  try clear hcz11_1
                  try clear hcz13_0
                  try clear hcz13_1
                  try clear hcz19_0
                  try clear hcz19_1
                  try clear hcz24_0
                  try clear hcz24_1
                  try clear hcz27_0
                  try clear hcz27_1
                  try clear hcz38_0
                  try clear hcz38_1
                  try clear hcz40_0
                  try clear hcz40_1
                  try clear hcz48_0
                  try clear hcz48_1
                  try clear hfz11_0
                  try clear hfz11_1
                  try clear hfz13_0
                  try clear hfz13_1
                  try clear hfz19_0
                  try clear hfz19_1
                  try clear hfz24_0
                  try clear hfz24_1
                  try clear hfz27_0
                  try clear hfz27_1
                  try clear hfz38_0
                  try clear hfz38_1
                  try clear hfz40_0
                  try clear hfz40_1
                  try clear hfz48_0
                  try clear hfz48_1
                  try clear hx146_0
                  try clear hx34_0
                  try clear p146
                  try clear p2
                  try clear p34
                  try clear p6
                  try clear q146
                  try clear q34
                  obtain ⟨x11_2, x12_2, rfl, HA, HK2, HO_6, HO_11, BK140, BK141, BK142, HB⟩ := hrel
                  cases gk with
                  | zero => exact absurd HA.out (by simp [spec_Int_Mul.l2])
                  | succ k2 =>
                    have H := HA.out
                    clear HA
                    simp only [spec_Int_Mul.l2] at H
                    by_cases c51 : x12_2 < (ji43)
                    · rw [if_pos c51] at H
                      have c51b0 : decide (x12_2 < (ji43)) = true := decide_eq_true c51
                      clear c51
                      by_cases c52 : 0 ≤ x12_2
                      · rw [if_pos c52] at H
                        have c52b0 : decide (0 ≤ x12_2) = true := decide_eq_true c52
                        clear c52
                        by_cases c53 : x12_2 < (x6_1.length : Int)
                        · rw [if_pos c53] at H
                          have c53b0 : decide (x12_2 < (x6_1.length : Int)) = true := decide_eq_true c53
                          clear c53
                          obtain ⟨ji54, hji54⟩ : ∃ j_ : Int, (wrap64 ((wrap64 ((ji43) - 1)) - x12_2)) = j_ := ⟨_, rfl⟩
                          replace H : (if 0 ≤ (ji54) then (if (ji54) < (x11_2.length : Int) then (spec_Int_Mul.l2 k2 (ji43) x6_1 (x11_2.set ((ji54) : Int).toNat ((rd x6_1 x12_2) % 256)) (wrap64 (x12_2 + 1)) a0_0 l0_1 a1_0 l1_1) else (none)) else (none)) = some (r1, r2) := by first | (rw [hji54] at H; exact H) | (simp only [hji54] at H ⊢; exact H)
                          have hji54w : (IntKind.i64.wrap ((wrap64 ((ji43) - 1)) - x12_2)) = ji54 := (i64_w _).trans hji54
                          by_cases c55 : 0 ≤ (ji54)
                          · rw [if_pos c55] at H
                            have c55b0 : decide (0 ≤ (ji54)) = true := decide_eq_true c55
                            clear c55
                            by_cases c56 : (ji54) < (x11_2.length : Int)
                            · rw [if_pos c56] at H
                              have c56b0 : decide ((ji54) < (x11_2.length : Int)) = true := decide_eq_true c56
                              clear c56
                              obtain ⟨y154, hy154⟩ : ∃ y_ : List Int, y_ = (x11_2.set ((ji54) : Int).toNat ((rd x6_1 x12_2) % 256)) := ⟨_, rfl⟩
                              replace H : (spec_Int_Mul.l2 k2 (ji43) x6_1 y154 (wrap64 (x12_2 + 1)) a0_0 l0_1 a1_0 l1_1) = some (r1, r2) := by first | (rw [hy154]; with_reducible exact H) | (have H2_ := (Option.bind_some _ _).symm.trans H; rw [hy154]; with_reducible exact H2_) | (have H2_ := (Option.bind_some _ _).symm.trans H; with_reducible exact H2_) | with_reducible exact H | (rw [hy154]; exact H) | exact H
                              have Ny154 := Aside0.mk hy154
                              clear hy154
                              have H' := Aside0.mk H
                              clear H
                              obtain ⟨Ao58, co58, eo58⟩ := Kd.R_slice HO_6.out
                              subst eo58
                              have p153 : 0 ≤ (x12_2 : Int) := of_decide_eq_true (by first | (with_reducible assumption) | assumption)
                              have q153 : x12_2 < (x6_1.length : Int) := of_decide_eq_true (by first | (with_reducible assumption) | assumption)
                              obtain ⟨ad153, e153, hx153_0⟩ := Kd.at_int (Kd.R_reads' HO_6.out).2.2 x12_2 p153 q153
                              cases e153
                              replace p153 := eq_true p153
                              replace q153 := eq_true q153
                              have p57 : 0 ≤ ((ji54) : Int) := of_decide_eq_true (by first | (with_reducible assumption) | assumption)
                              have q57 : ((ji54) : Int) < ((x11_2.length : Int) : Int) := of_decide_eq_true (by first | (with_reducible assumption) | assumption)
                              obtain ⟨go57, co57, eo57, gb57, gl57, cl57, HG57⟩ := Kd.R_form HO_11.out (by omega)
                              (first | cases eo57 | (injection eo57 with ea_ en_ ec_; (first | subst ea_ | (injection ea_ with ea_; subst ea_)); subst ec_; clear en_))
                              have GB57 := Aside0.mk gb57
                              have GG57 := Aside0.mk HG57
                              clear gb57 gl57 HG57
                              obtain ⟨hx57_0, hf57_0⟩ := Kd.R_celln 0 HO_11.out ((ji54) : Int) p57 q57
                              replace p57 := eq_true p57
                              replace q57 := eq_true q57
                              have HP59 := Kd.R_putg HO_11.out ((ji54) : Int) ((rd x6_1 x12_2) % 256)
                              go_wp2_with (first | ((with_reducible refine gate_store (t := 5) (p := 85) rfl ?_); (try (rw [drewN_self wr]; generalize hq_ : World.drewN wr _ = wr; have n0_ := Aside0.mk (Kd.R_at hq_ HO_6.out); have n1_ := Aside0.mk (Kd.R_at hq_ HO_11.out); have n2_ := Aside0.mk (blk_at hq_ BK140.out); have n3_ := Aside0.mk (blk_at hq_ BK141.out); have n4_ := Aside0.mk (blk_at hq_ BK142.out); have n5_ := Aside0.mk (below_at hq_ HB.out); clear hq_ HO_6 HO_11 BK140 BK141 BK142 HB; have HO_6 := n0_; have HO_11 := n1_; have BK140 := n2_; have BK141 := n3_; have BK142 := n4_; have HB := n5_; clear n0_ n1_ n2_ n3_ n4_ n5_; (try (have HP59 := Kd.R_putg HO_11.out ((ji54) : Int) ((rd x6_1 x12_2) % 256))))); refine store_event (t := 5) (p := 85) (v := ?vo_w60) (w1 := (wr.setCell ⟨go57, ((ji54) : Int).toNat, none⟩ (.int .u8 ((rd x6_1 x12_2) % 256)))) ?hg ?ho ?hn ?hr ?_; (case ho => rfl); (case hg => rfl); (case hn => rfl); (case hr => first | (go_simp; done) | (go_simp; rfl)); intro w60 hw; have hg : wr.grownBy w60 (some go57) := (by rw [hw]; exact HP59.2); have hp_ : Kd.R (Kd.int .u8) 5 w60 w.heap.size (fun _ => True) (.slice (some ⟨go57, 0, none⟩) x11_2.length co57) y154 := (by rw [hw, Ny154.out]; exact HP59.1); clear HP59; have n0_ := Aside0.mk (Kd.R_over' (v := (.slice (some ⟨go57, 0, none⟩) x11_2.length co57)) (by (with_reducible repeat (first | apply Kd.R_alloc | apply Kd.R_drewN | apply Kd.R_drew)); exact HO_6.out) (Kd.R_typed HO_11.out) (by decide) hg); have n1_ := Aside0.mk (hp_); have n2_ := Aside0.mk (blk_grown (g := gb140) (o := .cells #[.bool a0_0, .slice A0_1 l0_1.length c0_1] 37 (0, 0)) (by (with_reducible repeat (first | refine blk_drewN ?_ _ | refine blk_drew ?_ | refine blk_alloc ?_ _)); exact BK140.out) hg (Kd.R_ne HO_11.out BK140.out (by decide))); have n3_ := Aside0.mk (blk_grown (g := gb141) (o := .cells #[.bool a1_0, .slice A1_1 l1_1.length c1_1] 37 (0, 0)) (by (with_reducible repeat (first | refine blk_drewN ?_ _ | refine blk_drew ?_ | refine blk_alloc ?_ _)); exact BK141.out) hg (Kd.R_ne HO_11.out BK141.out (by decide))); have n4_ := Aside0.mk (blk_grown (g := gb142) (o := .cells #[.bool false, .slice none 0 0] 37 (0, 0)) (by (with_reducible repeat (first | refine blk_drewN ?_ _ | refine blk_drew ?_ | refine blk_alloc ?_ _)); exact BK142.out) hg (Kd.R_ne HO_11.out BK142.out (by decide))); have n5_ := Aside0.mk ((by rw [hw]; exact below_set (HB.out) GB57.out : Below w.heap.size w w60)); clear HO_6; clear HO_11; clear BK140; clear BK141; clear BK142; clear HB; have HO_6 := n0_; have HO_11 := n1_; have BK140 := n2_; have BK141 := n3_; have BK142 := n4_; have HB := n5_; clear n0_ n1_ n2_ n3_ n4_ n5_; clear hg hw hp_))
                              repeat (go_quiet (first | ((with_reducible refine gate_store (t := 5) (p := 85) rfl ?_); (try (rw [drewN_self wr]; generalize hq_ : World.drewN wr _ = wr; have n0_ := Aside0.mk (Kd.R_at hq_ HO_6.out); have n1_ := Aside0.mk (Kd.R_at hq_ HO_11.out); have n2_ := Aside0.mk (blk_at hq_ BK140.out); have n3_ := Aside0.mk (blk_at hq_ BK141.out); have n4_ := Aside0.mk (blk_at hq_ BK142.out); have n5_ := Aside0.mk (below_at hq_ HB.out); clear hq_ HO_6 HO_11 BK140 BK141 BK142 HB; have HO_6 := n0_; have HO_11 := n1_; have BK140 := n2_; have BK141 := n3_; have BK142 := n4_; have HB := n5_; clear n0_ n1_ n2_ n3_ n4_ n5_; (try (have HP59 := Kd.R_putg HO_11.out ((ji54) : Int) ((rd x6_1 x12_2) % 256))))); refine store_event (t := 5) (p := 85) (v := ?vo_w60) (w1 := (wr.setCell ⟨go57, ((ji54) : Int).toNat, none⟩ (.int .u8 ((rd x6_1 x12_2) % 256)))) ?hg ?ho ?hn ?hr ?_; (case ho => rfl); (case hg => rfl); (case hn => rfl); (case hr => first | (go_simp; done) | (go_simp; rfl)); intro w60 hw; have hg : wr.grownBy w60 (some go57) := (by rw [hw]; exact HP59.2); have hp_ : Kd.R (Kd.int .u8) 5 w60 w.heap.size (fun _ => True) (.slice (some ⟨go57, 0, none⟩) x11_2.length co57) y154 := (by rw [hw, Ny154.out]; exact HP59.1); clear HP59; have n0_ := Aside0.mk (Kd.R_over' (v := (.slice (some ⟨go57, 0, none⟩) x11_2.length co57)) (by (with_reducible repeat (first | apply Kd.R_alloc | apply Kd.R_drewN | apply Kd.R_drew)); exact HO_6.out) (Kd.R_typed HO_11.out) (by decide) hg); have n1_ := Aside0.mk (hp_); have n2_ := Aside0.mk (blk_grown (g := gb140) (o := .cells #[.bool a0_0, .slice A0_1 l0_1.length c0_1] 37 (0, 0)) (by (with_reducible repeat (first | refine blk_drewN ?_ _ | refine blk_drew ?_ | refine blk_alloc ?_ _)); exact BK140.out) hg (Kd.R_ne HO_11.out BK140.out (by decide))); have n3_ := Aside0.mk (blk_grown (g := gb141) (o := .cells #[.bool a1_0, .slice A1_1 l1_1.length c1_1] 37 (0, 0)) (by (with_reducible repeat (first | refine blk_drewN ?_ _ | refine blk_drew ?_ | refine blk_alloc ?_ _)); exact BK141.out) hg (Kd.R_ne HO_11.out BK141.out (by decide))); have n4_ := Aside0.mk (blk_grown (g := gb142) (o := .cells #[.bool false, .slice none 0 0] 37 (0, 0)) (by (with_reducible repeat (first | refine blk_drewN ?_ _ | refine blk_drew ?_ | refine blk_alloc ?_ _)); exact BK142.out) hg (Kd.R_ne HO_11.out BK142.out (by decide))); have n5_ := Aside0.mk ((by rw [hw]; exact below_set (HB.out) GB57.out : Below w.heap.size w w60)); clear HO_6; clear HO_11; clear BK140; clear BK141; clear BK142; clear HB; have HO_6 := n0_; have HO_11 := n1_; have BK140 := n2_; have BK141 := n3_; have BK142 := n4_; have HB := n5_; clear n0_ n1_ n2_ n3_ n4_ n5_; clear hg hw hp_)); try go_wp2_with (first | ((with_reducible refine gate_store (t := 5) (p := 85) rfl ?_); (try (rw [drewN_self wr]; generalize hq_ : World.drewN wr _ = wr; have n0_ := Aside0.mk (Kd.R_at hq_ HO_6.out); have n1_ := Aside0.mk (Kd.R_at hq_ HO_11.out); have n2_ := Aside0.mk (blk_at hq_ BK140.out); have n3_ := Aside0.mk (blk_at hq_ BK141.out); have n4_ := Aside0.mk (blk_at hq_ BK142.out); have n5_ := Aside0.mk (below_at hq_ HB.out); clear hq_ HO_6 HO_11 BK140 BK141 BK142 HB; have HO_6 := n0_; have HO_11 := n1_; have BK140 := n2_; have BK141 := n3_; have BK142 := n4_; have HB := n5_; clear n0_ n1_ n2_ n3_ n4_ n5_; (try (have HP59 := Kd.R_putg HO_11.out ((ji54) : Int) ((rd x6_1 x12_2) % 256))))); refine store_event (t := 5) (p := 85) (v := ?vo_w60) (w1 := (wr.setCell ⟨go57, ((ji54) : Int).toNat, none⟩ (.int .u8 ((rd x6_1 x12_2) % 256)))) ?hg ?ho ?hn ?hr ?_; (case ho => rfl); (case hg => rfl); (case hn => rfl); (case hr => first | (go_simp; done) | (go_simp; rfl)); intro w60 hw; have hg : wr.grownBy w60 (some go57) := (by rw [hw]; exact HP59.2); have hp_ : Kd.R (Kd.int .u8) 5 w60 w.heap.size (fun _ => True) (.slice (some ⟨go57, 0, none⟩) x11_2.length co57) y154 := (by rw [hw, Ny154.out]; exact HP59.1); clear HP59; have n0_ := Aside0.mk (Kd.R_over' (v := (.slice (some ⟨go57, 0, none⟩) x11_2.length co57)) (by (with_reducible repeat (first | apply Kd.R_alloc | apply Kd.R_drewN | apply Kd.R_drew)); exact HO_6.out) (Kd.R_typed HO_11.out) (by decide) hg); have n1_ := Aside0.mk (hp_); have n2_ := Aside0.mk (blk_grown (g := gb140) (o := .cells #[.bool a0_0, .slice A0_1 l0_1.length c0_1] 37 (0, 0)) (by (with_reducible repeat (first | refine blk_drewN ?_ _ | refine blk_drew ?_ | refine blk_alloc ?_ _)); exact BK140.out) hg (Kd.R_ne HO_11.out BK140.out (by decide))); have n3_ := Aside0.mk (blk_grown (g := gb141) (o := .cells #[.bool a1_0, .slice A1_1 l1_1.length c1_1] 37 (0, 0)) (by (with_reducible repeat (first | refine blk_drewN ?_ _ | refine blk_drew ?_ | refine blk_alloc ?_ _)); exact BK141.out) hg (Kd.R_ne HO_11.out BK141.out (by decide))); have n4_ := Aside0.mk (blk_grown (g := gb142) (o := .cells #[.bool false, .slice none 0 0] 37 (0, 0)) (by (with_reducible repeat (first | refine blk_drewN ?_ _ | refine blk_drew ?_ | refine blk_alloc ?_ _)); exact BK142.out) hg (Kd.R_ne HO_11.out BK142.out (by decide))); have n5_ := Aside0.mk ((by rw [hw]; exact below_set (HB.out) GB57.out : Below w.heap.size w w60)); clear HO_6; clear HO_11; clear BK140; clear BK141; clear BK142; clear HB; have HO_6 := n0_; have HO_11 := n1_; have BK140 := n2_; have BK141 := n3_; have BK142 := n4_; have HB := n5_; clear n0_ n1_ n2_ n3_ n4_ n5_; clear hg hw hp_)))
                              go_roundg k2
                              case measure => have := HK1.out; have := HK2.out; omega
                              case rel => exact ⟨(y154), (wrap64 (x12_2 + 1)), (by first | rfl | (simp; done) | (simp [*]; done)), H', ⟨by have := HK1.out; have := HK2.out; omega⟩, ⟨by (with_reducible repeat (first | apply Kd.R_alloc | apply Kd.R_drewN | apply Kd.R_drew)); exact HO_6.out⟩, ⟨by (with_reducible repeat (first | apply Kd.R_alloc | apply Kd.R_drewN | apply Kd.R_drew)); exact HO_11.out⟩, ⟨by (with_reducible repeat (first | refine blk_drewN ?_ _ | refine blk_drew ?_ | refine blk_alloc ?_ _)); exact BK140.out⟩, ⟨by (with_reducible repeat (first | refine blk_drewN ?_ _ | refine blk_drew ?_ | refine blk_alloc ?_ _)); exact BK141.out⟩, ⟨by (with_reducible repeat (first | refine blk_drewN ?_ _ | refine blk_drew ?_ | refine blk_alloc ?_ _)); exact BK142.out⟩, ⟨by repeat (first | (with_reducible first | exact HB.out | apply below_alloc | apply pw_below_drewN | apply below_drew1 | refine below_set ?_ GE140.out | refine below_set ?_ GE141.out | refine below_set ?_ GE142.out) | exact HB.out)⟩⟩
                            · rw [if_neg c56] at H
                              exact absurd H (by simp)
                          · rw [if_neg c55] at H
                            exact absurd H (by simp)
                        · rw [if_neg c53] at H
                          exact absurd H (by simp)
                      · rw [if_neg c52] at H
                        exact absurd H (by simp)
                    · rw [if_neg c51] at H
                      have c51b0 : decide (x12_2 < (ji43)) = false := decide_eq_false c51
                      clear c51
                      replace H := Option.bind_eq_some_iff.mp H
                      obtain ⟨⟨t155, t156⟩, A610, H⟩ := H
                      replace H : (some (t155, t156)) = some (r1, r2) := H
                      have A61 := Aside0.mk A610
                      clear A610
                      simp only [Option.some.injEq, Prod.mk.injEq] at H
                      obtain ⟨rfl, rfl⟩ := H
                      have hnb62 := NB140_141.out
                      have hnc62 := NB141_140.out
                      have hnb63 := NB140_142.out
                      have hnc63 := NB142_140.out
                      have hcz64_0 : wr.cell? ⟨gb140, 0, none⟩ = some (.bool a0_0) := (blk_cell BK140.out 0).trans rfl
                      have hcz64_1 : wr.cell? ⟨gb140, 1, none⟩ = some (.slice A0_1 l0_1.length c0_1) := (blk_cell BK140.out 1).trans rfl
                      have hfz64_0 := blk_frozen BK140.out 0
                      have hfz64_1 := blk_frozen BK140.out 1
                      have hnb65 := NB141_142.out
                      have hnc65 := NB142_141.out
                      have hcz66_0 : wr.cell? ⟨gb141, 0, none⟩ = some (.bool a1_0) := (blk_cell BK141.out 0).trans rfl
                      have hcz66_1 : wr.cell? ⟨gb141, 1, none⟩ = some (.slice A1_1 l1_1.length c1_1) := (blk_cell BK141.out 1).trans rfl
                      have hfz66_0 := blk_frozen BK141.out 0
                      have hfz66_1 := blk_frozen BK141.out 1
                      obtain ⟨Ao67, co67, eo67⟩ := Kd.R_slice HO_11.out
                      subst eo67
                      replace A61 : Aside0 (spec_Of.f k2 (!(a0_0 == a1_0)) x11_2 = some (t155, t156)) := A61
                      go_wp2_with (first | (go_at_call 20; (with_reducible refine (spec_Of.calls k2 (!(a0_0 == a1_0)) _ _ x11_2 t155 t156 _ ?side1 ?side2 A61.out).mono ?_); (case side1 => repeat (first | exact (Kd.R_reads' HO_11.out).2.2 | (with_reducible refine Kd.C_alloc ?_ _) | (with_reducible refine Kd.C_drewN ?_ _) | (with_reducible refine Kd.C_drew ?_))); (case side2 => exact (Kd.R_reads' HO_11.out).2.1); rintro e w68 ⟨v157, rfl, ho0, hb⟩; have n0_ := Aside0.mk (Kd.R_below (by (with_reducible repeat (first | apply Kd.R_alloc | apply Kd.R_drewN | apply Kd.R_drew)); exact HO_6.out) hb); have n1_ := Aside0.mk (Kd.R_elder' (by (with_reducible repeat (first | apply Kd.R_alloc | apply Kd.R_drewN | apply Kd.R_drew)); exact HO_11.out) (Kd.R_base ho0) hb); have n2_ := Aside0.mk (Kd.R_lower (Kd.R_new' ho0 (Kd.R_lt (by (with_reducible repeat (first | apply Kd.R_alloc | apply Kd.R_drewN | apply Kd.R_drew)); exact HO_11.out))) (below_size (by repeat (first | (with_reducible first | exact HB.out | apply below_alloc | apply pw_below_drewN | apply below_drew1 | refine below_set ?_ GE140.out | refine below_set ?_ GE141.out | refine below_set ?_ GE142.out) | exact HB.out)))); have n3_ := Aside0.mk (blk_below (g := gb140) (o := .cells #[.bool a0_0, .slice A0_1 l0_1.length c0_1] 37 (0, 0)) (by (with_reducible repeat (first | refine blk_drewN ?_ _ | refine blk_drew ?_ | refine blk_alloc ?_ _)); exact BK140.out) hb); have n4_ := Aside0.mk (blk_below (g := gb141) (o := .cells #[.bool a1_0, .slice A1_1 l1_1.length c1_1] 37 (0, 0)) (by (with_reducible repeat (first | refine blk_drewN ?_ _ | refine blk_drew ?_ | refine blk_alloc ?_ _)); exact BK141.out) hb); have n5_ := Aside0.mk (blk_below (g := gb142) (o := .cells #[.bool false, .slice none 0 0] 37 (0, 0)) (by (with_reducible repeat (first | refine blk_drewN ?_ _ | refine blk_drew ?_ | refine blk_alloc ?_ _)); exact BK142.out) hb); have n6_ := Aside0.mk (below_step (by repeat (first | (with_reducible first | exact HB.out | apply below_alloc | apply pw_below_drewN | apply below_drew1 | refine below_set ?_ GE140.out | refine below_set ?_ GE141.out | refine below_set ?_ GE142.out) | exact HB.out)) hb); clear HO_6; clear HO_11; clear BK140; clear BK141; clear BK142; clear HB; have HO_6 := n0_; have HO_11 := n1_; have HO158 := n2_; have BK140 := n3_; have BK141 := n4_; have BK142 := n5_; have HB := n6_; clear n0_ n1_ n2_ n3_ n4_ n5_ n6_; (try clear hb); (try clear hb2); (try clear hk); (try clear hi); (try clear ho0); have hcz69_0 : w68.cell? ⟨gb142, 0, none⟩ = some (.bool false) := (blk_cell BK142.out 0).trans rfl; have hcz69_1 : w68.cell? ⟨gb142, 1, none⟩ = some (.slice none 0 0) := (blk_cell BK142.out 1).trans rfl; have hfz69_0 := blk_frozen BK142.out 0; have hfz69_1 := blk_frozen BK142.out 1; obtain ⟨Ao70, co70, eo70⟩ := Kd.R_slice HO158.out; subst eo70))
                      repeat (go_quiet (first | (go_at_call 20; (with_reducible refine (spec_Of.calls k2 (!(a0_0 == a1_0)) _ _ x11_2 t155 t156 _ ?side1 ?side2 A61.out).mono ?_); (case side1 => repeat (first | exact (Kd.R_reads' HO_11.out).2.2 | (with_reducible refine Kd.C_alloc ?_ _) | (with_reducible refine Kd.C_drewN ?_ _) | (with_reducible refine Kd.C_drew ?_))); (case side2 => exact (Kd.R_reads' HO_11.out).2.1); rintro e w68 ⟨v157, rfl, ho0, hb⟩; have n0_ := Aside0.mk (Kd.R_below (by (with_reducible repeat (first | apply Kd.R_alloc | apply Kd.R_drewN | apply Kd.R_drew)); exact HO_6.out) hb); have n1_ := Aside0.mk (Kd.R_elder' (by (with_reducible repeat (first | apply Kd.R_alloc | apply Kd.R_drewN | apply Kd.R_drew)); exact HO_11.out) (Kd.R_base ho0) hb); have n2_ := Aside0.mk (Kd.R_lower (Kd.R_new' ho0 (Kd.R_lt (by (with_reducible repeat (first | apply Kd.R_alloc | apply Kd.R_drewN | apply Kd.R_drew)); exact HO_11.out))) (below_size (by repeat (first | (with_reducible first | exact HB.out | apply below_alloc | apply pw_below_drewN | apply below_drew1 | refine below_set ?_ GE140.out | refine below_set ?_ GE141.out | refine below_set ?_ GE142.out) | exact HB.out)))); have n3_ := Aside0.mk (blk_below (g := gb140) (o := .cells #[.bool a0_0, .slice A0_1 l0_1.length c0_1] 37 (0, 0)) (by (with_reducible repeat (first | refine blk_drewN ?_ _ | refine blk_drew ?_ | refine blk_alloc ?_ _)); exact BK140.out) hb); have n4_ := Aside0.mk (blk_below (g := gb141) (o := .cells #[.bool a1_0, .slice A1_1 l1_1.length c1_1] 37 (0, 0)) (by (with_reducible repeat (first | refine blk_drewN ?_ _ | refine blk_drew ?_ | refine blk_alloc ?_ _)); exact BK141.out) hb); have n5_ := Aside0.mk (blk_below (g := gb142) (o := .cells #[.bool false, .slice none 0 0] 37 (0, 0)) (by (with_reducible repeat (first | refine blk_drewN ?_ _ | refine blk_drew ?_ | refine blk_alloc ?_ _)); exact BK142.out) hb); have n6_ := Aside0.mk (below_step (by repeat (first | (with_reducible first | exact HB.out | apply below_alloc | apply pw_below_drewN | apply below_drew1 | refine below_set ?_ GE140.out | refine below_set ?_ GE141.out | refine below_set ?_ GE142.out) | exact HB.out)) hb); clear HO_6; clear HO_11; clear BK140; clear BK141; clear BK142; clear HB; have HO_6 := n0_; have HO_11 := n1_; have HO158 := n2_; have BK140 := n3_; have BK141 := n4_; have BK142 := n5_; have HB := n6_; clear n0_ n1_ n2_ n3_ n4_ n5_ n6_; (try clear hb); (try clear hb2); (try clear hk); (try clear hi); (try clear ho0); have hcz69_0 : w68.cell? ⟨gb142, 0, none⟩ = some (.bool false) := (blk_cell BK142.out 0).trans rfl; have hcz69_1 : w68.cell? ⟨gb142, 1, none⟩ = some (.slice none 0 0) := (blk_cell BK142.out 1).trans rfl; have hfz69_0 := blk_frozen BK142.out 0; have hfz69_1 := blk_frozen BK142.out 1; obtain ⟨Ao70, co70, eo70⟩ := Kd.R_slice HO158.out; subst eo70)); try go_wp2_with (first | (go_at_call 20; (with_reducible refine (spec_Of.calls k2 (!(a0_0 == a1_0)) _ _ x11_2 t155 t156 _ ?side1 ?side2 A61.out).mono ?_); (case side1 => repeat (first | exact (Kd.R_reads' HO_11.out).2.2 | (with_reducible refine Kd.C_alloc ?_ _) | (with_reducible refine Kd.C_drewN ?_ _) | (with_reducible refine Kd.C_drew ?_))); (case side2 => exact (Kd.R_reads' HO_11.out).2.1); rintro e w68 ⟨v157, rfl, ho0, hb⟩; have n0_ := Aside0.mk (Kd.R_below (by (with_reducible repeat (first | apply Kd.R_alloc | apply Kd.R_drewN | apply Kd.R_drew)); exact HO_6.out) hb); have n1_ := Aside0.mk (Kd.R_elder' (by (with_reducible repeat (first | apply Kd.R_alloc | apply Kd.R_drewN | apply Kd.R_drew)); exact HO_11.out) (Kd.R_base ho0) hb); have n2_ := Aside0.mk (Kd.R_lower (Kd.R_new' ho0 (Kd.R_lt (by (with_reducible repeat (first | apply Kd.R_alloc | apply Kd.R_drewN | apply Kd.R_drew)); exact HO_11.out))) (below_size (by repeat (first | (with_reducible first | exact HB.out | apply below_alloc | apply pw_below_drewN | apply below_drew1 | refine below_set ?_ GE140.out | refine below_set ?_ GE141.out | refine below_set ?_ GE142.out) | exact HB.out)))); have n3_ := Aside0.mk (blk_below (g := gb140) (o := .cells #[.bool a0_0, .slice A0_1 l0_1.length c0_1] 37 (0, 0)) (by (with_reducible repeat (first | refine blk_drewN ?_ _ | refine blk_drew ?_ | refine blk_alloc ?_ _)); exact BK140.out) hb); have n4_ := Aside0.mk (blk_below (g := gb141) (o := .cells #[.bool a1_0, .slice A1_1 l1_1.length c1_1] 37 (0, 0)) (by (with_reducible repeat (first | refine blk_drewN ?_ _ | refine blk_drew ?_ | refine blk_alloc ?_ _)); exact BK141.out) hb); have n5_ := Aside0.mk (blk_below (g := gb142) (o := .cells #[.bool false, .slice none 0 0] 37 (0, 0)) (by (with_reducible repeat (first | refine blk_drewN ?_ _ | refine blk_drew ?_ | refine blk_alloc ?_ _)); exact BK142.out) hb); have n6_ := Aside0.mk (below_step (by repeat (first | (with_reducible first | exact HB.out | apply below_alloc | apply pw_below_drewN | apply below_drew1 | refine below_set ?_ GE140.out | refine below_set ?_ GE141.out | refine below_set ?_ GE142.out) | exact HB.out)) hb); clear HO_6; clear HO_11; clear BK140; clear BK141; clear BK142; clear HB; have HO_6 := n0_; have HO_11 := n1_; have HO158 := n2_; have BK140 := n3_; have BK141 := n4_; have BK142 := n5_; have HB := n6_; clear n0_ n1_ n2_ n3_ n4_ n5_ n6_; (try clear hb); (try clear hb2); (try clear hk); (try clear hi); (try clear ho0); have hcz69_0 : w68.cell? ⟨gb142, 0, none⟩ = some (.bool false) := (blk_cell BK142.out 0).trans rfl; have hcz69_1 : w68.cell? ⟨gb142, 1, none⟩ = some (.slice none 0 0) := (blk_cell BK142.out 1).trans rfl; have hfz69_0 := blk_frozen BK142.out 0; have hfz69_1 := blk_frozen BK142.out 1; obtain ⟨Ao70, co70, eo70⟩ := Kd.R_slice HO158.out; subst eo70)))
                      refine bodyPost_ret (results_cell_row rfl _ _ gb142 37 #[.bool t155, .slice Ao70 t156.length co70] (0, 0) _ rfl (by (with_reducible repeat (first | refine blk_drewN ?_ _ | refine blk_drew ?_ | refine blk_alloc ?_ _)); refine blk_put (cs := #[.bool t155, .slice none 0 0]) ?_ 1 _ rfl; (with_reducible repeat (first | refine blk_drewN ?_ _ | refine blk_drew ?_ | refine blk_alloc ?_ _)); refine blk_put (cs := #[.bool false, .slice none 0 0]) ?_ 0 _ rfl; (with_reducible repeat (first | refine blk_drewN ?_ _ | refine blk_drew ?_ | refine blk_alloc ?_ _)); exact BK142.out) Tryz.underlying37 rfl (by kernel_rfl)) rfl ?_
                      exact ⟨_, by first | rfl | (simp [errW_none, errW_some] <;> rfl) | (simp only [← hji3, ← hji43]; first | rfl | (simp [errW_none, errW_some] <;> rfl)) | (simp [*, errW_none, errW_some] <;> rfl), by (with_reducible repeat (first | apply Kd.R_alloc | apply Kd.R_drewN | apply Kd.R_drew)); exact Kd.R_mono (Kd.R_far (p := ⟨gb142, 1, none⟩) (Kd.R_far (p := ⟨gb142, 0, none⟩) (Kd.R_types HO158.out BK142.out (by decide)) (fun _ hk => hk.2) (.bool t155)) (fun _ hk => hk.2) (.slice Ao70 t156.length co70)) (fun _ hk => trivial), by repeat (first | (with_reducible first | exact HB.out | apply below_alloc | apply pw_below_drewN | apply below_drew1 | refine below_set ?_ GE140.out | refine below_set ?_ GE141.out | refine below_set ?_ GE142.out) | exact HB.out)⟩
              · rw [if_neg c45] at H
                exact absurd H (by simp)
            · rw [if_neg c44] at H
              exact absurd H (by simp)
    · rw [if_neg c5] at H
      exact absurd H (by simp)
  · rw [if_neg c4] at H
    exact absurd H (by simp)
def spec_Int_Zero.f (a0_0 : Bool) (l0_1 : List Int) : Option (Bool) := some ((l0_1.length : Int) == 0)
set_option maxHeartbeats 8000000 in
set_option maxRecDepth 100000 in
theorem spec_Int_Zero.calls (a0_0 : Bool) (A0_1 : Option Addr) (c0_1 : Nat) (l0_1 : List Int) (r : Bool) (w : World) (hr0_1 : Kd.C (Kd.int .u8) w A0_1 l0_1.length l0_1) (hc0_1 : l0_1.length ≤ c0_1) (h : spec_Int_Zero.f a0_0 l0_1 = some r) :
    Calls Tryz.prog 33 #[.agg #[.bool a0_0, .slice A0_1 l0_1.length c0_1]] w fun e w' => e = .returned (.bool r) ∧ Below w.heap.size w w' := by
  have hu37 := Tryz.underlying37
  have HR0_1 := Aside0.mk hr0_1
  have HC0_1 := Aside0.mk hc0_1
  clear hr0_1 hc0_1
  have HB := Aside0.mk (Below.refl w.heap.size w)
  have H : (some ((l0_1.length : Int) == 0)) = some r := h
  clear h
  obtain rfl := Option.some.inj H
  go_enter Tryz.func33, Tryz.ntmps33
  go_wp2_with (first | ((with_reducible refine gate_dst (N := 1) rfl ?_); refine box_event ?hg (N := 1) ?hd (cs := #[.bool a0_0, .slice A0_1 l0_1.length c0_1]) (t := 37) ?hr ?_; (case hd => rfl); (case hg => rfl); (case hr => first | (go_simp; done) | (go_simp; rfl)); intro gb159 hg w2 hbox hb; have n0_ := Aside0.mk (below_step (by repeat (first | (with_reducible first | exact HB.out | apply below_alloc | apply pw_below_drewN | apply below_drew1) | exact HB.out)) hb); have n1_ := Aside0.mk (hbox); have n2_ := Aside0.mk ((by rw [hg]; exact (below_size (by repeat (first | (with_reducible first | exact HB.out | apply below_alloc | apply pw_below_drewN | apply below_drew1) | exact HB.out))) : w.heap.size ≤ gb159)); have n3_ := Aside0.mk ((by rw [hg]; exact (below_size (by repeat (first | (with_reducible first | exact HB.out | apply below_alloc | apply pw_below_drewN | apply below_drew1) | exact HB.out))) : w.heap.size ≤ gb159)); clear HB; have HB := n0_; have BK159 := n1_; have GW159 := n2_; have GE159 := n3_; clear n0_ n1_ n2_ n3_; clear hb hbox hg; have hcz3_0 : w2.cell? ⟨gb159, 0, none⟩ = some (.bool a0_0) := (blk_cell BK159.out 0).trans rfl; have hcz3_1 : w2.cell? ⟨gb159, 1, none⟩ = some (.slice A0_1 l0_1.length c0_1) := (blk_cell BK159.out 1).trans rfl; have hfz3_0 := blk_frozen BK159.out 0; have hfz3_1 := blk_frozen BK159.out 1))
  go_ret
  exact ⟨by first | rfl | (simp [errW_none, errW_some] <;> rfl) | (simp [*, errW_none, errW_some] <;> rfl), by repeat (first | (with_reducible first | exact HB.out | apply below_alloc | apply pw_below_drewN | apply below_drew1 | refine below_set ?_ GE159.out) | exact HB.out)⟩
def spec_Power.f (k : Nat) (a0 : Int) : Option (Bool × List Int) := if 0 ≤ (wrap64 ((wrap64 (Int.tdiv a0 8)) + 1)) then (if (wrap64 ((wrap64 (Int.tdiv a0 8)) + 1) : Int).toNat ≤ 281474976710656 then ((some (List.replicate (wrap64 ((wrap64 (Int.tdiv a0 8)) + 1) : Int).toNat 0 : List Int)).bind fun y161 => (if 0 ≤ (IntKind.u64.wrap (Int.tmod a0 8)) then (if 0 < (y161.length : Int) then ((spec_Of.f k false (y161.set (0 : Int).toNat (shl .u8 1 (IntKind.u64.wrap (Int.tmod a0 8))))).bind fun bt165 => (some (bt165.1, bt165.2))) else (none)) else (none))) else (none)) else (none)
set_option maxHeartbeats 8000000 in
set_option maxRecDepth 100000 in
theorem spec_Power.calls (k : Nat) (a0 : Int) (r1 : Bool) (r2 : List Int) (w : World) (h : spec_Power.f k a0 = some (r1, r2)) :
    Calls Tryz.prog 34 #[.int .i64 a0] w fun e w' => ∃ v1_ : Value, e = .returned (.agg #[.bool r1, v1_]) ∧ Kd.R (Kd.int .u8) 5 w' w.heap.size (fun _ => True) v1_ r2 ∧ Below w.heap.size w w' := by
  have hu37 := Tryz.underlying37
  have HB := Aside0.mk (Below.refl w.heap.size w)
  have H : (if 0 ≤ (wrap64 ((wrap64 (Int.tdiv a0 8)) + 1)) then (if (wrap64 ((wrap64 (Int.tdiv a0 8)) + 1) : Int).toNat ≤ 281474976710656 then ((some (List.replicate (wrap64 ((wrap64 (Int.tdiv a0 8)) + 1) : Int).toNat 0 : List Int)).bind fun y161 => (if 0 ≤ (IntKind.u64.wrap (Int.tmod a0 8)) then (if 0 < (y161.length : Int) then ((spec_Of.f k false (y161.set (0 : Int).toNat (shl .u8 1 (IntKind.u64.wrap (Int.tmod a0 8))))).bind fun bt165 => (some (bt165.1, bt165.2))) else (none)) else (none))) else (none)) else (none)) = some (r1, r2) := h
  clear h
  obtain ⟨ji2, hji2⟩ : ∃ j_ : Int, (wrap64 ((wrap64 (Int.tdiv a0 8)) + 1)) = j_ := ⟨_, rfl⟩
  replace H : (if 0 ≤ (ji2) then (if (ji2 : Int).toNat ≤ 281474976710656 then ((some (List.replicate (ji2 : Int).toNat 0 : List Int)).bind fun y161 => (if 0 ≤ (IntKind.u64.wrap (Int.tmod a0 8)) then (if 0 < (y161.length : Int) then ((spec_Of.f k false (y161.set (0 : Int).toNat (shl .u8 1 (IntKind.u64.wrap (Int.tmod a0 8))))).bind fun bt165 => (some (bt165.1, bt165.2))) else (none)) else (none))) else (none)) else (none)) = some (r1, r2) := by first | (rw [hji2] at H; exact H) | (simp only [hji2] at H ⊢; exact H)
  have hji2w : (IntKind.i64.wrap ((wrap64 (Int.tdiv a0 8)) + 1)) = ji2 := (i64_w _).trans hji2
  by_cases c3 : 0 ≤ (ji2)
  · rw [if_pos c3] at H
    have c3b0 := eq_true c3
    have c3b1 : decide (0 ≤ (ji2)) = true := decide_eq_true c3
    clear c3
    by_cases c4 : (ji2 : Int).toNat ≤ 281474976710656
    · rw [if_pos c4] at H
      have c4b0 := eq_true c4
      have c4b1 : decide ((ji2 : Int).toNat ≤ 281474976710656) = true := decide_eq_true c4
      clear c4
      obtain ⟨y161, hy161⟩ : ∃ y_ : List Int, y_ = (List.replicate (ji2 : Int).toNat 0) := ⟨_, rfl⟩
      replace H : (if 0 ≤ (IntKind.u64.wrap (Int.tmod a0 8)) then (if 0 < (y161.length : Int) then ((spec_Of.f k false (y161.set (0 : Int).toNat (shl .u8 1 (IntKind.u64.wrap (Int.tmod a0 8))))).bind fun bt165 => (some (bt165.1, bt165.2))) else (none)) else (none)) = some (r1, r2) := by first | (rw [hy161]; with_reducible exact H) | (have H2_ := (Option.bind_some _ _).symm.trans H; rw [hy161]; with_reducible exact H2_) | (have H2_ := (Option.bind_some _ _).symm.trans H; with_reducible exact H2_) | with_reducible exact H | (rw [hy161]; exact H) | exact H
      have Ny161 := Aside0.mk hy161
      clear hy161
      obtain ⟨ji5, hji5⟩ : ∃ j_ : Int, (IntKind.u64.wrap (Int.tmod a0 8)) = j_ := ⟨_, rfl⟩
      replace H : (if 0 ≤ (ji5) then (if 0 < (y161.length : Int) then ((spec_Of.f k false (y161.set (0 : Int).toNat (shl .u8 1 (ji5)))).bind fun bt165 => (some (bt165.1, bt165.2))) else (none)) else (none)) = some (r1, r2) := by first | (rw [hji5] at H; exact H) | (simp only [hji5] at H ⊢; exact H)
      by_cases c6 : 0 ≤ (ji5)
      · rw [if_pos c6] at H
        have c6b0 := eq_true c6
        have c6b1 : decide (0 ≤ (ji5)) = true := decide_eq_true c6
        clear c6
        obtain ⟨ji7, hji7⟩ : ∃ j_ : Int, (shl .u8 1 (ji5)) = j_ := ⟨_, rfl⟩
        replace H : (if 0 < (y161.length : Int) then ((spec_Of.f k false (y161.set (0 : Int).toNat (ji7))).bind fun bt165 => (some (bt165.1, bt165.2))) else (none)) = some (r1, r2) := by first | (rw [hji7] at H; exact H) | (simp only [hji7] at H ⊢; exact H)
        have hji7_ : (IntKind.u8.wrap (1 * 2 ^ min (ji5).toNat 8)) = ji7 := hji7
        have hji7z : (ji5) ≤ 8 → (IntKind.u8.wrap (1 * 2 ^ (ji5).toNat)) = ji7 := shl_small hji7
        have hji7u : (IntKind.u8.wrap (2 ^ min (ji5).toNat 8)) = ji7 := by have h_ := hji7_; rw [Int.one_mul] at h_; exact h_
        have hji7v : (ji5) ≤ 8 → (IntKind.u8.wrap (2 ^ (ji5).toNat)) = ji7 := fun hle_ => by have h_ := hji7z hle_; rw [Int.one_mul] at h_; exact h_
        by_cases c8 : 0 < (y161.length : Int)
        · rw [if_pos c8] at H
          have c8b0 : decide (0 < (y161.length : Int)) = true := decide_eq_true c8
          have c8b1 : decide (0 < y161.length) = true := decide_eq_true (by omega)
          clear c8
          obtain ⟨y164, hy164⟩ : ∃ y_ : List Int, y_ = (y161.set (0 : Int).toNat (ji7)) := ⟨_, rfl⟩
          replace H : ((spec_Of.f k false y164).bind fun bt165 => (some (bt165.1, bt165.2))) = some (r1, r2) := by first | (rw [hy164]; with_reducible exact H) | (have H2_ := (Option.bind_some _ _).symm.trans H; rw [hy164]; with_reducible exact H2_) | (have H2_ := (Option.bind_some _ _).symm.trans H; with_reducible exact H2_) | with_reducible exact H | (rw [hy164]; exact H) | exact H
          have Ny164 := Aside0.mk hy164
          clear hy164
          replace H := Option.bind_eq_some_iff.mp H
          obtain ⟨⟨t165, t166⟩, A100, H⟩ := H
          replace H : (some (t165, t166)) = some (r1, r2) := H
          have A10 := Aside0.mk A100
          clear A100
          simp only [Option.some.injEq, Prod.mk.injEq] at H
          obtain ⟨rfl, rfl⟩ := H
          go_enter Tryz.func34, Tryz.ntmps34
          go_wp2_with (first | ((with_reducible refine gate_dst (N := 2) rfl ?_); refine box_event ?hg (N := 2) ?hd (cs := #[.bool false, .slice none 0 0]) (t := 37) ?hr ?_; (case hd => rfl); (case hg => rfl); (case hr => first | (go_simp; done) | (go_simp; rfl)); intro gb160 hg w11 hbox hb; have n0_ := Aside0.mk (below_step (by repeat (first | (with_reducible first | exact HB.out | apply below_alloc | apply pw_below_drewN | apply below_drew1) | exact HB.out)) hb); have n1_ := Aside0.mk (hbox); have n2_ := Aside0.mk ((by rw [hg]; exact (below_size (by repeat (first | (with_reducible first | exact HB.out | apply below_alloc | apply pw_below_drewN | apply below_drew1) | exact HB.out))) : w.heap.size ≤ gb160)); have n3_ := Aside0.mk ((by rw [hg]; exact (below_size (by repeat (first | (with_reducible first | exact HB.out | apply below_alloc | apply pw_below_drewN | apply below_drew1) | exact HB.out))) : w.heap.size ≤ gb160)); clear HB; have HB := n0_; have BK160 := n1_; have GW160 := n2_; have GE160 := n3_; clear n0_ n1_ n2_ n3_; clear hb hbox hg) | ((with_reducible refine gate_dst (N := 7) rfl ?_); refine Kd.R_make (Kd.int .u8) _ 5 rfl (N := 7) rfl 35 _ _ rfl ji2 rfl rfl Tryz.underlying35 (.int .u8 0) 1 info5 rfl (by decide) (by omega) 0 (ok := fun _ => True) (okp := fun _ => True) rfl (fun _ hk => hk) trivial (of_decide_eq_true (by first | (with_reducible assumption) | assumption)) (Nat.le_trans (Nat.mul_le_mul_right _ (of_decide_eq_true (by first | (with_reducible assumption) | assumption) : ji2.toNat ≤ 281474976710656)) (by omega)) (Below.refl _ _) (Nat.le_refl _) ?_; intro v162 w12 ho13 hb hg_ hnew_; clear hg_ hnew_; (first | rw [← Ny161.out] at ho13 | (simp only [Int.reduceToNat] at ho13; rw [← Ny161.out] at ho13)); have n0_ := Aside0.mk (Kd.R_lower ho13 (below_size (by repeat (first | (with_reducible first | exact HB.out | apply below_alloc | apply pw_below_drewN | apply below_drew1 | refine below_set ?_ GE160.out) | exact HB.out)))); have n1_ := Aside0.mk (blk_below (g := gb160) (o := .cells #[.bool false, .slice none 0 0] 37 (0, 0)) (by (with_reducible repeat (first | refine blk_drewN ?_ _ | refine blk_drew ?_ | refine blk_alloc ?_ _)); exact BK160.out) hb); have n2_ := Aside0.mk (below_step (by repeat (first | (with_reducible first | exact HB.out | apply below_alloc | apply pw_below_drewN | apply below_drew1 | refine below_set ?_ GE160.out) | exact HB.out)) hb); clear BK160; clear HB; have HO163 := n0_; have BK160 := n1_; have HB := n2_; clear n0_ n1_ n2_; clear hb ho13; have p9 : 0 ≤ (0 : Int) := (by omega); have q9 : (0 : Int) < ((y161.length : Int) : Int) := of_decide_eq_true (by first | (with_reducible assumption) | assumption); have qi9 : (0 < y161.length) = True := eq_true (by omega); obtain ⟨go9, co9, eo9, gb9, gl9, cl9, HG9⟩ := Kd.R_form HO163.out (by omega); (first | cases eo9 | (injection eo9 with ea_ en_ ec_; (first | subst ea_ | (injection ea_ with ea_; subst ea_)); subst ec_; clear en_)); have GB9 := Aside0.mk gb9; have GG9 := Aside0.mk HG9; clear gb9 gl9 HG9; obtain ⟨hx9_0, hf9_0⟩ := Kd.R_celln 0 HO163.out (0 : Int) p9 q9; (try rw [show ((0 : Int)).toNat = 0 from rfl] at hx9_0); (try simp only [Nat.reduceMul, Nat.zero_mul, Nat.zero_add, Nat.reduceAdd] at hx9_0); (try rw [show ((0 : Int)).toNat = 0 from rfl] at hf9_0); (try simp only [Nat.reduceMul, Nat.zero_mul, Nat.zero_add, Nat.reduceAdd] at hf9_0); replace p9 := eq_true p9; replace q9 := eq_true q9; obtain ⟨hy14_, hz14_⟩ := Kd.R_celln 0 HO163.out (0 : Int) (by omega) (of_decide_eq_true (by first | (with_reducible assumption) | assumption)); (try simp only [Int.reduceToNat, Int.toNat_zero, Int.toNat_ofNat, Nat.reduceMul, Nat.zero_mul, Nat.zero_add] at hy14_ hz14_); (try rw [show ((0 : Int)).toNat = 0 from rfl] at hy14_); (try rw [show ((0 : Int)).toNat = 0 from rfl] at hz14_); have HP14 := Kd.R_putg HO163.out (0 : Int) ji7) | ((with_reducible refine gate_store (t := 5) (p := 13) rfl ?_); refine store_event (t := 5) (p := 13) (v := ?vo_w15) (w1 := (w12.setCell ⟨go9, (0 : Int).toNat, none⟩ (.int .u8 ji7))) ?hg ?ho ?hn ?hr ?_; (case ho => rfl); (case hg => rfl); (case hn => rfl); (case hr => first | (go_simp; done) | (go_simp; rfl)); intro w15 hw; have hg : w12.grownBy w15 (some go9) := (by rw [hw]; exact HP14.2); have hp_ : Kd.R (Kd.int .u8) 5 w15 w.heap.size (fun _ => True) (.slice (some ⟨go9, 0, none⟩) y161.length co9) y164 := (by rw [hw, Ny164.out]; exact HP14.1); clear HP14; have n0_ := Aside0.mk (blk_grown (g := gb160) (o := .cells #[.bool false, .slice none 0 0] 37 (0, 0)) (by (with_reducible repeat (first | refine blk_drewN ?_ _ | refine blk_drew ?_ | refine blk_alloc ?_ _)); exact BK160.out) hg (Kd.R_ne HO163.out BK160.out (by decide))); have n1_ := Aside0.mk (hp_); have n2_ := Aside0.mk ((by rw [hw]; exact below_set (HB.out) GB9.out : Below w.heap.size w w15)); clear BK160; clear HO163; clear HB; have BK160 := n0_; have HO163 := n1_; have HB := n2_; clear n0_ n1_ n2_; clear hg hw hp_) | ((with_reducible refine gate_callee (f := 20) rfl ?_); refine goesL_ (some 15) rfl rfl Tryz.func20 (by kernel_rfl) rfl #[.bool false, .slice (some ⟨go9, 0, none⟩) y164.length co9] rfl (by (try simp only [List.map_toArray, List.map_cons, List.map_nil]); first | done | (rw [show y164.length = y161.length from (Kd.R_reads' HO163.out).1.symm] <;> rfl) | rfl | (simp only [List.length_drop, List.length_take]; rfl)) ?_; (with_reducible refine (spec_Of.calls k false _ _ y164 t165 t166 _ ?side1 ?side2 A10.out).mono ?_); (case side1 => repeat (first | exact (Kd.R_reads' HO163.out).2.2 | (with_reducible refine Kd.C_alloc ?_ _) | (with_reducible refine Kd.C_drewN ?_ _) | (with_reducible refine Kd.C_drew ?_))); (case side2 => rw [show y164.length = y161.length from (Kd.R_reads' HO163.out).1.symm]; exact (Kd.R_reads' HO163.out).2.1); rintro e w16 ⟨v167, rfl, ho0, hb⟩; refine ⟨_, rfl, ?_⟩; have n0_ := Aside0.mk (Kd.R_elder' (by (with_reducible repeat (first | apply Kd.R_alloc | apply Kd.R_drewN | apply Kd.R_drew)); exact HO163.out) (Kd.R_base ho0) hb); have n1_ := Aside0.mk (Kd.R_lower (Kd.R_new' ho0 (Kd.R_lt (by (with_reducible repeat (first | apply Kd.R_alloc | apply Kd.R_drewN | apply Kd.R_drew)); exact HO163.out))) (below_size (by repeat (first | (with_reducible first | exact HB.out | apply below_alloc | apply pw_below_drewN | apply below_drew1 | refine below_set ?_ GE160.out) | exact HB.out)))); have n2_ := Aside0.mk (blk_below (g := gb160) (o := .cells #[.bool false, .slice none 0 0] 37 (0, 0)) (by (with_reducible repeat (first | refine blk_drewN ?_ _ | refine blk_drew ?_ | refine blk_alloc ?_ _)); exact BK160.out) hb); have n3_ := Aside0.mk (below_step (by repeat (first | (with_reducible first | exact HB.out | apply below_alloc | apply pw_below_drewN | apply below_drew1 | refine below_set ?_ GE160.out) | exact HB.out)) hb); clear HO163; clear BK160; clear HB; have HO163 := n0_; have HO168 := n1_; have BK160 := n2_; have HB := n3_; clear n0_ n1_ n2_ n3_; (try clear hb); (try clear hb2); (try clear hk); (try clear hi); (try clear ho0); have hcz17_0 : w16.cell? ⟨gb160, 0, none⟩ = some (.bool false) := (blk_cell BK160.out 0).trans rfl; have hcz17_1 : w16.cell? ⟨gb160, 1, none⟩ = some (.slice none 0 0) := (blk_cell BK160.out 1).trans rfl; have hfz17_0 := blk_frozen BK160.out 0; have hfz17_1 := blk_frozen BK160.out 1; obtain ⟨Ao18, co18, eo18⟩ := Kd.R_slice HO168.out; subst eo18))
          refine bodyPost_ret (results_cell_row rfl _ _ gb160 37 #[.bool t165, .slice Ao18 t166.length co18] (0, 0) _ rfl (by (with_reducible repeat (first | refine blk_drewN ?_ _ | refine blk_drew ?_ | refine blk_alloc ?_ _)); refine blk_put (cs := #[.bool t165, .slice none 0 0]) ?_ 1 _ rfl; (with_reducible repeat (first | refine blk_drewN ?_ _ | refine blk_drew ?_ | refine blk_alloc ?_ _)); refine blk_put (cs := #[.bool false, .slice none 0 0]) ?_ 0 _ rfl; (with_reducible repeat (first | refine blk_drewN ?_ _ | refine blk_drew ?_ | refine blk_alloc ?_ _)); exact BK160.out) Tryz.underlying37 rfl (by kernel_rfl)) rfl ?_
          exact ⟨_, by first | rfl | (simp [errW_none, errW_some] <;> rfl) | (simp only [← hji2, ← hji5, ← hji7]; first | rfl | (simp [errW_none, errW_some] <;> rfl)) | (simp [*, errW_none, errW_some] <;> rfl), by (with_reducible repeat (first | apply Kd.R_alloc | apply Kd.R_drewN | apply Kd.R_drew)); exact Kd.R_mono (Kd.R_far (p := ⟨gb160, 1, none⟩) (Kd.R_far (p := ⟨gb160, 0, none⟩) (Kd.R_types HO168.out BK160.out (by decide)) (fun _ hk => hk.2) (.bool t165)) (fun _ hk => hk.2) (.slice Ao18 t166.length co18)) (fun _ hk => trivial), by repeat (first | (with_reducible first | exact HB.out | apply below_alloc | apply pw_below_drewN | apply below_drew1 | refine below_set ?_ GE160.out) | exact HB.out)⟩
        · rw [if_neg c8] at H
          exact absurd H (by simp)
      · rw [if_neg c6] at H
        exact absurd H (by simp)
    · rw [if_neg c4] at H
      exact absurd H (by simp)
  · rw [if_neg c3] at H
    exact absurd H (by simp)
end Go.Proofs.YtdbjoiojiibdgaaGreatDoor.PFixed
namespace Go.Proofs.YtdbjoiojiibdgaaGreatDoor.PFixed
open Go.RowKit Go.Proofs.YtdbjoiojiibdgaaGreatDoorW.PrintWords Go.Proofs.YtdbjoiojiibdgaaGreatDoorW.PrintLast Go.Proofs.YtdbjoiojiibdgaaGreatDoorW.PrintMore
attribute [local go_sem] max2_int min2_int max_two min_two max_three min_three max_four min_four
set_option linter.unusedVariables false
set_option linter.unusedSimpArgs false
def spec_Int_Lsh.f (k : Nat) (a0_0 : Bool) (l0_1 : List Int) (a1 : Int) : Option (Bool × List Int) := (spec_Int_Zero.f a0_0 l0_1).bind fun t171 => (if t171 = true then (some (false, ([] : List Int))) else ((spec_Power.f k a1).bind fun bt172 => ((spec_Int_Mul.f k a0_0 l0_1 bt172.1 bt172.2).bind fun bt176 => (some (bt176.1, bt176.2)))))
set_option maxHeartbeats 8000000 in
set_option maxRecDepth 100000 in
theorem spec_Int_Lsh.calls (k : Nat) (a0_0 : Bool) (A0_1 : Option Addr) (c0_1 : Nat) (l0_1 : List Int) (a1 : Int) (r1 : Bool) (r2 : List Int) (w : World) (hr0_1 : Kd.C (Kd.int .u8) w A0_1 l0_1.length l0_1) (hc0_1 : l0_1.length ≤ c0_1) (h : spec_Int_Lsh.f k a0_0 l0_1 a1 = some (r1, r2)) :
    Calls Tryz.prog 23 #[.agg #[.bool a0_0, .slice A0_1 l0_1.length c0_1], .int .i64 a1] w fun e w' => ∃ v1_ : Value, e = .returned (.agg #[.bool r1, v1_]) ∧ Kd.R (Kd.int .u8) 5 w' w.heap.size (fun _ => True) v1_ r2 ∧ Below w.heap.size w w' := by
  have hu37 := Tryz.underlying37
  have HR0_1 := Aside0.mk hr0_1
  have HC0_1 := Aside0.mk hc0_1
  clear hr0_1 hc0_1
  have HB := Aside0.mk (Below.refl w.heap.size w)
  have H : ((spec_Int_Zero.f a0_0 l0_1).bind fun t171 => (if t171 = true then (some (false, ([] : List Int))) else ((spec_Power.f k a1).bind fun bt172 => ((spec_Int_Mul.f k a0_0 l0_1 bt172.1 bt172.2).bind fun bt176 => (some (bt176.1, bt176.2)))))) = some (r1, r2) := h
  clear h
  replace H := Option.bind_eq_some_iff.mp H
  obtain ⟨t171, A30, H⟩ := H
  replace H : (if t171 = true then (some (false, ([] : List Int))) else ((spec_Power.f k a1).bind fun bt172 => ((spec_Int_Mul.f k a0_0 l0_1 bt172.1 bt172.2).bind fun bt176 => (some (bt176.1, bt176.2))))) = some (r1, r2) := H
  have A3 := Aside0.mk A30
  clear A30
  by_cases c4 : t171 = true
  · subst c4
    have H1 : (some (false, ([] : List Int))) = some (r1, r2) := by rw [if_pos rfl] at H; exact H
    clear H
    have H := H1
    clear H1
    simp only [Option.some.injEq, Prod.mk.injEq] at H
    obtain ⟨rfl, rfl⟩ := H
    go_enter Tryz.func23, Tryz.ntmps23
    go_wp2_with (first | ((with_reducible refine gate_dst (N := 2) rfl ?_); refine box_event ?hg (N := 2) ?hd (cs := #[.bool a0_0, .slice A0_1 l0_1.length c0_1]) (t := 37) ?hr ?_; (case hd => rfl); (case hg => rfl); (case hr => first | (go_simp; done) | (go_simp; rfl)); intro gb169 hg w5 hbox hb; have n0_ := Aside0.mk (below_step (by repeat (first | (with_reducible first | exact HB.out | apply below_alloc | apply pw_below_drewN | apply below_drew1) | exact HB.out)) hb); have n1_ := Aside0.mk (hbox); have n2_ := Aside0.mk ((by rw [hg]; exact (below_size (by repeat (first | (with_reducible first | exact HB.out | apply below_alloc | apply pw_below_drewN | apply below_drew1) | exact HB.out))) : w.heap.size ≤ gb169)); have n3_ := Aside0.mk ((by rw [hg]; exact (below_size (by repeat (first | (with_reducible first | exact HB.out | apply below_alloc | apply pw_below_drewN | apply below_drew1) | exact HB.out))) : w.heap.size ≤ gb169)); clear HB; have HB := n0_; have BK169 := n1_; have GW169 := n2_; have GE169 := n3_; clear n0_ n1_ n2_ n3_; clear hb hbox hg) | ((with_reducible refine gate_dst (N := 4) rfl ?_); refine box_event ?hg (N := 4) ?hd (cs := #[.bool false, .slice none 0 0]) (t := 37) ?hr ?_; (case hd => rfl); (case hg => rfl); (case hr => first | (go_simp; done) | (go_simp; rfl)); intro gb170 hg w6 hbox hb; have n0_ := Aside0.mk (blk_below (g := gb169) (o := .cells #[.bool a0_0, .slice A0_1 l0_1.length c0_1] 37 (0, 0)) (by (with_reducible repeat (first | refine blk_drewN ?_ _ | refine blk_drew ?_ | refine blk_alloc ?_ _)); exact BK169.out) hb); have n1_ := Aside0.mk (below_step (by repeat (first | (with_reducible first | exact HB.out | apply below_alloc | apply pw_below_drewN | apply below_drew1 | refine below_set ?_ GE169.out) | exact HB.out)) hb); have n2_ := Aside0.mk (hbox); have n3_ := Aside0.mk ((by rw [hg]; exact (below_size (by repeat (first | (with_reducible first | exact HB.out | apply below_alloc | apply pw_below_drewN | apply below_drew1 | refine below_set ?_ GE169.out) | exact HB.out))) : w.heap.size ≤ gb170)); have n4_ := Aside0.mk ((by rw [hg]; exact (below_size (by repeat (first | (with_reducible first | exact HB.out | apply below_alloc | apply pw_below_drewN | apply below_drew1 | refine below_set ?_ GE169.out) | exact HB.out))) : w.heap.size ≤ gb170)); have n5_ := Aside0.mk ((by rw [hg]; exact Nat.ne_of_lt (blk_lt (g := gb169) (o := .cells #[.bool a0_0, .slice A0_1 l0_1.length c0_1] 37 (0, 0)) (by (with_reducible repeat (first | refine blk_drewN ?_ _ | refine blk_drew ?_ | refine blk_alloc ?_ _)); exact BK169.out)) : gb169 ≠ gb170)); have n6_ := Aside0.mk ((by rw [hg]; exact Nat.ne_of_gt (blk_lt (g := gb169) (o := .cells #[.bool a0_0, .slice A0_1 l0_1.length c0_1] 37 (0, 0)) (by (with_reducible repeat (first | refine blk_drewN ?_ _ | refine blk_drew ?_ | refine blk_alloc ?_ _)); exact BK169.out)) : gb170 ≠ gb169)); clear BK169; clear HB; have BK169 := n0_; have HB := n1_; have BK170 := n2_; have GW170 := n3_; have GE170 := n4_; have NB169_170 := n5_; have NB170_169 := n6_; clear n0_ n1_ n2_ n3_ n4_ n5_ n6_; clear hb hbox hg; have hnb7 := NB169_170.out; have hnc7 := NB170_169.out; have hcz8_0 : w6.cell? ⟨gb169, 0, none⟩ = some (.bool a0_0) := (blk_cell BK169.out 0).trans rfl; have hcz8_1 : w6.cell? ⟨gb169, 1, none⟩ = some (.slice A0_1 l0_1.length c0_1) := (blk_cell BK169.out 1).trans rfl; have hfz8_0 := blk_frozen BK169.out 0; have hfz8_1 := blk_frozen BK169.out 1) | ((with_reducible refine gate_callee (f := 33) rfl ?_); refine goesL_ (some 6) rfl rfl Tryz.func33 (by kernel_rfl) rfl #[.agg #[.bool a0_0, .slice A0_1 l0_1.length c0_1]] rfl (by (try simp only [List.map_toArray, List.map_cons, List.map_nil]); first | done | rfl | (simp only [List.length_drop, List.length_take]; rfl)) ?_; (with_reducible refine (spec_Int_Zero.calls a0_0 _ _ l0_1 true _ ?side1 ?side2 A3.out).mono ?_); (case side1 => repeat (first | exact (Kd.C_below HR0_1.out HB.out) | (with_reducible refine Kd.C_alloc ?_ _) | (with_reducible refine Kd.C_drewN ?_ _) | (with_reducible refine Kd.C_drew ?_))); (case side2 => exact HC0_1.out); rintro e w9 ⟨rfl, hb⟩; refine ⟨_, rfl, ?_⟩; have n0_ := Aside0.mk (blk_below (g := gb169) (o := .cells #[.bool a0_0, .slice A0_1 l0_1.length c0_1] 37 (0, 0)) (by (with_reducible repeat (first | refine blk_drewN ?_ _ | refine blk_drew ?_ | refine blk_alloc ?_ _)); exact BK169.out) hb); have n1_ := Aside0.mk (blk_below (g := gb170) (o := .cells #[.bool false, .slice none 0 0] 37 (0, 0)) (by (with_reducible repeat (first | refine blk_drewN ?_ _ | refine blk_drew ?_ | refine blk_alloc ?_ _)); exact BK170.out) hb); have n2_ := Aside0.mk (below_step (by repeat (first | (with_reducible first | exact HB.out | apply below_alloc | apply pw_below_drewN | apply below_drew1 | refine below_set ?_ GE169.out | refine below_set ?_ GE170.out) | exact HB.out)) hb); clear BK169; clear BK170; clear HB; have BK169 := n0_; have BK170 := n1_; have HB := n2_; clear n0_ n1_ n2_; (try clear hb); (try clear hb2); (try clear hk); (try clear hi); have hcz10_0 : w9.cell? ⟨gb170, 0, none⟩ = some (.bool false) := (blk_cell BK170.out 0).trans rfl; have hcz10_1 : w9.cell? ⟨gb170, 1, none⟩ = some (.slice none 0 0) := (blk_cell BK170.out 1).trans rfl; have hfz10_0 := blk_frozen BK170.out 0; have hfz10_1 := blk_frozen BK170.out 1))
    refine bodyPost_ret (results_cell_row rfl _ _ gb170 37 #[.bool false, .slice none 0 0] (0, 0) _ rfl (by (with_reducible repeat (first | refine blk_drewN ?_ _ | refine blk_drew ?_ | refine blk_alloc ?_ _)); refine blk_put (cs := #[.bool false, .slice none 0 0]) ?_ 1 _ rfl; (with_reducible repeat (first | refine blk_drewN ?_ _ | refine blk_drew ?_ | refine blk_alloc ?_ _)); refine blk_put (cs := #[.bool false, .slice none 0 0]) ?_ 0 _ rfl; (with_reducible repeat (first | refine blk_drewN ?_ _ | refine blk_drew ?_ | refine blk_alloc ?_ _)); exact BK170.out) Tryz.underlying37 rfl (by kernel_rfl)) rfl ?_
    exact ⟨_, by first | rfl | (simp [errW_none, errW_some] <;> rfl) | (simp [*, errW_none, errW_some] <;> rfl), by first | exact Kd.R_nil _ _ _ _ _ | exact Kd.N_nil _ _ _ _ _ | exact Kd.V_nil _ _ _ _ _ | exact Kd.Q_nil _ _ _ _ _ | exact Kd.S_nil _ _ _ _ _, by repeat (first | (with_reducible first | exact HB.out | apply below_alloc | apply pw_below_drewN | apply below_drew1 | refine below_set ?_ GE169.out | refine below_set ?_ GE170.out) | exact HB.out)⟩
  · replace c4 := Bool.eq_false_iff.mpr c4
    subst c4
    have H1 : ((spec_Power.f k a1).bind fun bt172 => ((spec_Int_Mul.f k a0_0 l0_1 bt172.1 bt172.2).bind fun bt176 => (some (bt176.1, bt176.2)))) = some (r1, r2) := by rw [if_neg (show ¬ (false = true) by decide)] at H; exact H
    clear H
    have H := H1
    clear H1
    replace H := Option.bind_eq_some_iff.mp H
    obtain ⟨⟨t172, t173⟩, A110, H⟩ := H
    replace H : ((spec_Int_Mul.f k a0_0 l0_1 t172 t173).bind fun bt176 => (some (bt176.1, bt176.2))) = some (r1, r2) := H
    have A11 := Aside0.mk A110
    clear A110
    replace H := Option.bind_eq_some_iff.mp H
    obtain ⟨⟨t176, t177⟩, A120, H⟩ := H
    replace H : (some (t176, t177)) = some (r1, r2) := H
    have A12 := Aside0.mk A120
    clear A120
    simp only [Option.some.injEq, Prod.mk.injEq] at H
    obtain ⟨rfl, rfl⟩ := H
    go_enter Tryz.func23, Tryz.ntmps23
    try go_wp2_with (first | ((with_reducible refine gate_dst (N := 2) rfl ?_); refine box_event ?hg (N := 2) ?hd (cs := #[.bool a0_0, .slice A0_1 l0_1.length c0_1]) (t := 37) ?hr ?_; (case hd => rfl); (case hg => rfl); (case hr => first | (go_simp; done) | (go_simp; rfl)); intro gb169 hg w13 hbox hb; have n0_ := Aside0.mk (below_step (by repeat (first | (with_reducible first | exact HB.out | apply below_alloc | apply pw_below_drewN | apply below_drew1) | exact HB.out)) hb); have n1_ := Aside0.mk (hbox); have n2_ := Aside0.mk ((by rw [hg]; exact (below_size (by repeat (first | (with_reducible first | exact HB.out | apply below_alloc | apply pw_below_drewN | apply below_drew1) | exact HB.out))) : w.heap.size ≤ gb169)); have n3_ := Aside0.mk ((by rw [hg]; exact (below_size (by repeat (first | (with_reducible first | exact HB.out | apply below_alloc | apply pw_below_drewN | apply below_drew1) | exact HB.out))) : w.heap.size ≤ gb169)); clear HB; have HB := n0_; have BK169 := n1_; have GW169 := n2_; have GE169 := n3_; clear n0_ n1_ n2_ n3_; clear hb hbox hg) | ((with_reducible refine gate_dst (N := 4) rfl ?_); refine box_event ?hg (N := 4) ?hd (cs := #[.bool false, .slice none 0 0]) (t := 37) ?hr ?_; (case hd => rfl); (case hg => rfl); (case hr => first | (go_simp; done) | (go_simp; rfl)); intro gb170 hg w14 hbox hb; have n0_ := Aside0.mk (blk_below (g := gb169) (o := .cells #[.bool a0_0, .slice A0_1 l0_1.length c0_1] 37 (0, 0)) (by (with_reducible repeat (first | refine blk_drewN ?_ _ | refine blk_drew ?_ | refine blk_alloc ?_ _)); exact BK169.out) hb); have n1_ := Aside0.mk (below_step (by repeat (first | (with_reducible first | exact HB.out | apply below_alloc | apply pw_below_drewN | apply below_drew1 | refine below_set ?_ GE169.out) | exact HB.out)) hb); have n2_ := Aside0.mk (hbox); have n3_ := Aside0.mk ((by rw [hg]; exact (below_size (by repeat (first | (with_reducible first | exact HB.out | apply below_alloc | apply pw_below_drewN | apply below_drew1 | refine below_set ?_ GE169.out) | exact HB.out))) : w.heap.size ≤ gb170)); have n4_ := Aside0.mk ((by rw [hg]; exact (below_size (by repeat (first | (with_reducible first | exact HB.out | apply below_alloc | apply pw_below_drewN | apply below_drew1 | refine below_set ?_ GE169.out) | exact HB.out))) : w.heap.size ≤ gb170)); have n5_ := Aside0.mk ((by rw [hg]; exact Nat.ne_of_lt (blk_lt (g := gb169) (o := .cells #[.bool a0_0, .slice A0_1 l0_1.length c0_1] 37 (0, 0)) (by (with_reducible repeat (first | refine blk_drewN ?_ _ | refine blk_drew ?_ | refine blk_alloc ?_ _)); exact BK169.out)) : gb169 ≠ gb170)); have n6_ := Aside0.mk ((by rw [hg]; exact Nat.ne_of_gt (blk_lt (g := gb169) (o := .cells #[.bool a0_0, .slice A0_1 l0_1.length c0_1] 37 (0, 0)) (by (with_reducible repeat (first | refine blk_drewN ?_ _ | refine blk_drew ?_ | refine blk_alloc ?_ _)); exact BK169.out)) : gb170 ≠ gb169)); clear BK169; clear HB; have BK169 := n0_; have HB := n1_; have BK170 := n2_; have GW170 := n3_; have GE170 := n4_; have NB169_170 := n5_; have NB170_169 := n6_; clear n0_ n1_ n2_ n3_ n4_ n5_ n6_; clear hb hbox hg; have hnb15 := NB169_170.out; have hnc15 := NB170_169.out; have hcz16_0 : w14.cell? ⟨gb169, 0, none⟩ = some (.bool a0_0) := (blk_cell BK169.out 0).trans rfl; have hcz16_1 : w14.cell? ⟨gb169, 1, none⟩ = some (.slice A0_1 l0_1.length c0_1) := (blk_cell BK169.out 1).trans rfl; have hfz16_0 := blk_frozen BK169.out 0; have hfz16_1 := blk_frozen BK169.out 1) | ((with_reducible refine gate_callee (f := 33) rfl ?_); refine goesL_ (some 6) rfl rfl Tryz.func33 (by kernel_rfl) rfl #[.agg #[.bool a0_0, .slice A0_1 l0_1.length c0_1]] rfl (by (try simp only [List.map_toArray, List.map_cons, List.map_nil]); first | done | rfl | (simp only [List.length_drop, List.length_take]; rfl)) ?_; (with_reducible refine (spec_Int_Zero.calls a0_0 _ _ l0_1 false _ ?side1 ?side2 A3.out).mono ?_); (case side1 => repeat (first | exact (Kd.C_below HR0_1.out HB.out) | (with_reducible refine Kd.C_alloc ?_ _) | (with_reducible refine Kd.C_drewN ?_ _) | (with_reducible refine Kd.C_drew ?_))); (case side2 => exact HC0_1.out); rintro e w17 ⟨rfl, hb⟩; refine ⟨_, rfl, ?_⟩; have n0_ := Aside0.mk (blk_below (g := gb169) (o := .cells #[.bool a0_0, .slice A0_1 l0_1.length c0_1] 37 (0, 0)) (by (with_reducible repeat (first | refine blk_drewN ?_ _ | refine blk_drew ?_ | refine blk_alloc ?_ _)); exact BK169.out) hb); have n1_ := Aside0.mk (blk_below (g := gb170) (o := .cells #[.bool false, .slice none 0 0] 37 (0, 0)) (by (with_reducible repeat (first | refine blk_drewN ?_ _ | refine blk_drew ?_ | refine blk_alloc ?_ _)); exact BK170.out) hb); have n2_ := Aside0.mk (below_step (by repeat (first | (with_reducible first | exact HB.out | apply below_alloc | apply pw_below_drewN | apply below_drew1 | refine below_set ?_ GE169.out | refine below_set ?_ GE170.out) | exact HB.out)) hb); clear BK169; clear BK170; clear HB; have BK169 := n0_; have BK170 := n1_; have HB := n2_; clear n0_ n1_ n2_; (try clear hb); (try clear hb2); (try clear hk); (try clear hi)))
    have n0_ := Aside0.mk (blk_drew BK169.out)
    have n1_ := Aside0.mk (blk_drew BK170.out)
    have n2_ := Aside0.mk (below_drew1 HB.out)
    clear BK169
    clear BK170
    clear HB
    have BK169 := n0_
    have BK170 := n1_
    have HB := n2_
    clear n0_ n1_ n2_
    refine start_ (n := 5) (S := fun w' => w'.cell? ⟨gb169, 0, none⟩ = some (.bool a0_0) ∧ w'.cell? ⟨gb169, 1, none⟩ = some (.slice A0_1 l0_1.length c0_1)) (ds := []) #[false, false, false, false, false] (by kernel_rfl) rfl rfl ⟨(blk_cell BK169.out 0).trans rfl, (blk_cell BK169.out 1).trans rfl⟩ (fun hHeld => ?_)
    generalize w17.drew = w18 at BK169 BK170 HB hHeld ⊢
    refine pure_ (i := 1) (N := some 9) (v := ?_) (a' := ?_) #[false, true, false, false, false] rfl rfl (by kernel_rfl) (fun _ _ _ h => h) (Or.inl ⟨by rfl, ?_⟩) ?_ ?_
    rotate_left
    · intro w'
      go_simp
      with_reducible rfl
    rotate_left
    · simp only [Act.put, List.setIfInBounds_toArray, List.set_cons_zero, List.set_cons_succ, i64_w, i32_w]
      rfl
    refine take_ (i := 0) (N := some 8) (v := ?_) (a' := ?_) #[true, true, false, false, false] rfl rfl (by kernel_rfl) (fun _ _ _ h => h) (Or.inl ⟨by rfl, ?_⟩) hHeld ?_ ?_
    rotate_left
    · rintro w' ⟨s0, s1⟩
      go_simp
      with_reducible rfl
    rotate_left
    · simp only [Act.put, List.setIfInBounds_toArray, List.set_cons_zero, List.set_cons_succ, i64_w, i32_w]
      rfl
    refine one_ (i := 2) (N := some 10) #[true, true, true, false, false] rfl rfl (by kernel_rfl) (by decide) (fun K hK => ?_)
    refine goes_ Tryz.func34 (by kernel_rfl) rfl #[.int .i64 a1] (by rfl) rfl rfl (by (try simp only [List.map_toArray, List.map_cons, List.map_nil]); first | done | rfl | (simp only [List.length_drop, List.length_take]; rfl)) ?_
    with_reducible refine (spec_Power.calls k a1 t172 t173 _ A11.out).mono ?_
    rintro e w19 ⟨v174, rfl, ho0, hb⟩
    refine ⟨_, rfl, ?_⟩
    have n0_ := Aside0.mk (Kd.R_lower ho0 (below_size (by repeat (first | (with_reducible first | exact HB.out | apply below_alloc | apply pw_below_drewN | apply below_drew1 | refine below_set ?_ GE169.out | refine below_set ?_ GE170.out) | exact HB.out))))
    have n1_ := Aside0.mk (blk_below (g := gb169) (o := .cells #[.bool a0_0, .slice A0_1 l0_1.length c0_1] 37 (0, 0)) (by (with_reducible repeat (first | refine blk_drewN ?_ _ | refine blk_drew ?_ | refine blk_alloc ?_ _)); exact BK169.out) hb)
    have n2_ := Aside0.mk (blk_below (g := gb170) (o := .cells #[.bool false, .slice none 0 0] 37 (0, 0)) (by (with_reducible repeat (first | refine blk_drewN ?_ _ | refine blk_drew ?_ | refine blk_alloc ?_ _)); exact BK170.out) hb)
    have n3_ := Aside0.mk (below_step (by repeat (first | (with_reducible first | exact HB.out | apply below_alloc | apply pw_below_drewN | apply below_drew1 | refine below_set ?_ GE169.out | refine below_set ?_ GE170.out) | exact HB.out)) hb)
    clear BK169
    clear BK170
    clear HB
    have HO175 := n0_
    have BK169 := n1_
    have BK170 := n2_
    have HB := n3_
    clear n0_ n1_ n2_ n3_
    (try clear hb)
    (try clear hb2)
    (try clear hk)
    (try clear hi)
    (try clear ho0)
    obtain ⟨Ao20, co20, eo20⟩ := Kd.R_slice HO175.out
    (first | subst eo20 | (injection eo20 with f1_ f2_ f3_; have f4_ := f1_.symm; have f5_ := f3_.symm; clear f1_ f2_ f3_; subst f4_; subst f5_))
    refine hK.out _ _ ⟨(blk_cell BK169.out 0).trans rfl, (blk_cell BK169.out 1).trans rfl⟩ (fun hHeld => ?_)
    clear hK K
    refine norm_ (a' := ?_) ?_ ?_
    rotate_left
    · show Act.put _ (some 10) _ = _
      simp only [Act.put, List.setIfInBounds_toArray, List.set_cons_zero, List.set_cons_succ, i64_w, i32_w]
      rfl
    refine one_ (i := 3) (N := some 11) #[true, true, true, true, false] rfl rfl (by kernel_rfl) (by decide) (fun K hK => ?_)
    refine goes_ Tryz.func24 (by kernel_rfl) rfl #[.agg #[.bool a0_0, .slice A0_1 l0_1.length c0_1], .agg #[.bool t172, .slice Ao20 t173.length co20]] (by rfl) rfl rfl (by (try simp only [List.map_toArray, List.map_cons, List.map_nil]); first | done | rfl | (simp only [List.length_drop, List.length_take]; rfl)) ?_
    with_reducible refine (spec_Int_Mul.calls k a0_0 _ _ l0_1 t172 _ _ t173 t176 t177 _ ?side1 ?side2 ?side3 ?side4 A12.out).mono ?_
    (case side1 => repeat (first | exact (Kd.C_below HR0_1.out HB.out) | (with_reducible refine Kd.C_alloc ?_ _) | (with_reducible refine Kd.C_drewN ?_ _) | (with_reducible refine Kd.C_drew ?_)))
    (case side2 => exact HC0_1.out)
    (case side3 => repeat (first | exact (Kd.R_reads' HO175.out).2.2 | (with_reducible refine Kd.C_alloc ?_ _) | (with_reducible refine Kd.C_drewN ?_ _) | (with_reducible refine Kd.C_drew ?_)))
    (case side4 => exact (Kd.R_reads' HO175.out).2.1)
    rintro e w21 ⟨v178, rfl, ho0, hb⟩
    refine ⟨_, rfl, ?_⟩
    have n0_ := Aside0.mk (Kd.R_elder' (by (with_reducible repeat (first | apply Kd.R_alloc | apply Kd.R_drewN | apply Kd.R_drew)); exact HO175.out) (Kd.R_base ho0) hb)
    have n1_ := Aside0.mk (Kd.R_lower (Kd.R_new' ho0 (Kd.R_lt (by (with_reducible repeat (first | apply Kd.R_alloc | apply Kd.R_drewN | apply Kd.R_drew)); exact HO175.out))) (below_size (by repeat (first | (with_reducible first | exact HB.out | apply below_alloc | apply pw_below_drewN | apply below_drew1 | refine below_set ?_ GE169.out | refine below_set ?_ GE170.out) | exact HB.out))))
    have n2_ := Aside0.mk (blk_below (g := gb169) (o := .cells #[.bool a0_0, .slice A0_1 l0_1.length c0_1] 37 (0, 0)) (by (with_reducible repeat (first | refine blk_drewN ?_ _ | refine blk_drew ?_ | refine blk_alloc ?_ _)); exact BK169.out) hb)
    have n3_ := Aside0.mk (blk_below (g := gb170) (o := .cells #[.bool false, .slice none 0 0] 37 (0, 0)) (by (with_reducible repeat (first | refine blk_drewN ?_ _ | refine blk_drew ?_ | refine blk_alloc ?_ _)); exact BK170.out) hb)
    have n4_ := Aside0.mk (below_step (by repeat (first | (with_reducible first | exact HB.out | apply below_alloc | apply pw_below_drewN | apply below_drew1 | refine below_set ?_ GE169.out | refine below_set ?_ GE170.out) | exact HB.out)) hb)
    clear HO175
    clear BK169
    clear BK170
    clear HB
    have HO175 := n0_
    have HO179 := n1_
    have BK169 := n2_
    have BK170 := n3_
    have HB := n4_
    clear n0_ n1_ n2_ n3_ n4_
    (try clear hb)
    (try clear hb2)
    (try clear hk)
    (try clear hi)
    (try clear ho0)
    obtain ⟨Ao23, co23, eo23⟩ := Kd.R_slice HO179.out
    (first | subst eo23 | (injection eo23 with f1_ f2_ f3_; have f4_ := f1_.symm; have f5_ := f3_.symm; clear f1_ f2_ f3_; subst f4_; subst f5_))
    refine hK.out _ _ ⟨(blk_cell BK169.out 0).trans rfl, (blk_cell BK169.out 1).trans rfl⟩ (fun hHeld => ?_)
    clear hK K
    refine norm_ (a' := ?_) ?_ ?_
    rotate_left
    · show Act.put _ (some 11) _ = _
      simp only [Act.put, List.setIfInBounds_toArray, List.set_cons_zero, List.set_cons_succ, i64_w, i32_w]
      rfl
    refine one_ (i := 4) (N := none) #[true, true, true, true, true] rfl rfl (by kernel_rfl) (by decide) (fun K hK => ?_)
    have hs22 : w21.cell? ⟨gb170, 0, none⟩ = some (.bool false) := (blk_cell BK170.out 0).trans rfl
    have hfs22 := blk_frozen BK170.out 0
    have hns22_0 := NB169_170.out
    have hms22_0 := NB170_169.out
    have hs24 : w21.cell? ⟨gb170, 1, none⟩ = some (.slice none 0 0) := (blk_cell BK170.out 1).trans rfl
    have hfs24 := blk_frozen BK170.out 1
    have hns24_0 := NB169_170.out
    have hms24_0 := NB170_169.out
    refine skip_ (w1 := ?_) (by rfl) rfl ?_ ?_
    rotate_left
    · go_simp
      rfl
    refine hK.out _ _ ⟨((cell_far (p := ⟨gb170, _, none⟩) NB169_170.out _).trans (((cell_far (p := ⟨gb170, _, none⟩) NB169_170.out _).trans (hHeld.1)))), ((cell_far (p := ⟨gb170, _, none⟩) NB169_170.out _).trans (((cell_far (p := ⟨gb170, _, none⟩) NB169_170.out _).trans (hHeld.2))))⟩ (fun hHeld => ?_)
    clear hK K
    refine done_ (by kernel_rfl) ?_
    try go_wp2
    refine bodyPost_ret (results_cell_row rfl _ _ gb170 37 #[.bool t176, .slice Ao23 t177.length co23] (0, 0) _ rfl (by (with_reducible repeat (first | refine blk_drewN ?_ _ | refine blk_drew ?_ | refine blk_alloc ?_ _)); refine blk_put (cs := #[.bool t176, .slice none 0 0]) ?_ 1 _ rfl; (with_reducible repeat (first | refine blk_drewN ?_ _ | refine blk_drew ?_ | refine blk_alloc ?_ _)); refine blk_put (cs := #[.bool false, .slice none 0 0]) ?_ 0 _ rfl; (with_reducible repeat (first | refine blk_drewN ?_ _ | refine blk_drew ?_ | refine blk_alloc ?_ _)); exact BK170.out) Tryz.underlying37 rfl (by kernel_rfl)) rfl ?_
    exact ⟨_, by first | rfl | (simp [errW_none, errW_some] <;> rfl) | (simp [*, errW_none, errW_some] <;> rfl), by (with_reducible repeat (first | apply Kd.R_alloc | apply Kd.R_drewN | apply Kd.R_drew)); exact Kd.R_mono (Kd.R_far (p := ⟨gb170, 1, none⟩) (Kd.R_far (p := ⟨gb170, 0, none⟩) (Kd.R_types HO179.out BK170.out (by decide)) (fun _ hk => hk.2) (.bool t176)) (fun _ hk => hk.2) (.slice Ao23 t177.length co23)) (fun _ hk => trivial), by repeat (first | (with_reducible first | exact HB.out | apply below_alloc | apply pw_below_drewN | apply below_drew1 | refine below_set ?_ GE169.out | refine below_set ?_ GE170.out) | exact HB.out)⟩
mutual
def spec_frontTens.l0 : Nat → Int → Bool → List Int → Option (Bool × List Int)
  | 0, _, _, _ => none
  | k + 1, x0, x186000, x186001 => if x0 ≥ 15 then ((spec_Small.f k 1000000000000000).bind fun bt186 => ((spec_Int_Mul.f k x186000 x186001 bt186.1 bt186.2).bind fun bt190 => (spec_frontTens.l0 k (wrap64 (x0 - 15)) bt190.1 bt190.2))) else (spec_frontTens.l1 k x0 x186000 x186001)
def spec_frontTens.l1 : Nat → Int → Bool → List Int → Option (Bool × List Int)
  | 0, _, _, _ => none
  | k + 1, x0, x186000, x186001 => if x0 > 0 then ((spec_Small.f k 10).bind fun bt194 => ((spec_Int_Mul.f k x186000 x186001 bt194.1 bt194.2).bind fun bt198 => (spec_frontTens.l1 k (wrap64 (x0 - 1)) bt198.1 bt198.2))) else (some (x186000, x186001))
end
def spec_frontTens.f (k : Nat) (a0 : Int) : Option (Bool × List Int) := (spec_Small.f k 1).bind fun bt181 => (spec_frontTens.l0 k a0 bt181.1 bt181.2)
theorem spec_frontTens.mono_l : ∀ k, (∀ y0 y1 y2, LeO (spec_frontTens.l0 k y0 y1 y2) (spec_frontTens.l0 (k + 1) y0 y1 y2)) ∧ (∀ y0 y1 y2, LeO (spec_frontTens.l1 k y0 y1 y2) (spec_frontTens.l1 (k + 1) y0 y1 y2))
  | 0 => ⟨fun _ _ _ r h => by simp [spec_frontTens.l0] at h, fun _ _ _ r h => by simp [spec_frontTens.l1] at h⟩
  | k + 1 => by
    obtain ⟨ih0, ih1⟩ := spec_frontTens.mono_l k
    refine ⟨?_, ?_⟩
    · intro y0 y1 y2
      unfold spec_frontTens.l0
      repeat' first
      | (with_reducible exact ih0 _ _ _)
      | (with_reducible exact ih1 _ _ _)
      | (with_reducible exact spec_Int_Mul.mono _ _ _ _ _)
      | (with_reducible exact spec_Small.mono _ _)
      | (with_reducible exact LeO.refl _)
      | (with_reducible exact LeO.none _)
      | (with_reducible refine LeO.ite ?_ ?_)
      | (with_reducible refine LeO.bind ?_ (fun _ => ?_))
      | exact ih0 _ _ _
      | exact ih1 _ _ _
      | exact spec_Int_Mul.mono _ _ _ _ _
      | exact spec_Small.mono _ _
      | exact LeO.none _
      | refine LeO.ite ?_ ?_
      | refine LeO.bind ?_ (fun _ => ?_)
    · intro y0 y1 y2
      unfold spec_frontTens.l1
      repeat' first
      | (with_reducible exact ih0 _ _ _)
      | (with_reducible exact ih1 _ _ _)
      | (with_reducible exact spec_Int_Mul.mono _ _ _ _ _)
      | (with_reducible exact spec_Small.mono _ _)
      | (with_reducible exact LeO.refl _)
      | (with_reducible exact LeO.none _)
      | (with_reducible refine LeO.ite ?_ ?_)
      | (with_reducible refine LeO.bind ?_ (fun _ => ?_))
      | exact ih0 _ _ _
      | exact ih1 _ _ _
      | exact spec_Int_Mul.mono _ _ _ _ _
      | exact spec_Small.mono _ _
      | exact LeO.none _
      | refine LeO.ite ?_ ?_
      | refine LeO.bind ?_ (fun _ => ?_)
theorem spec_frontTens.mono : ∀ a0 k, LeO (spec_frontTens.f k a0) (spec_frontTens.f (k + 1) a0) := by
  intro a0 k
  obtain ⟨ih0, ih1⟩ := spec_frontTens.mono_l k
  unfold spec_frontTens.f
  repeat' first
      | (with_reducible exact ih0 _ _ _)
      | (with_reducible exact ih1 _ _ _)
      | (with_reducible exact spec_Int_Mul.mono _ _ _ _ _)
      | (with_reducible exact spec_Small.mono _ _)
      | (with_reducible exact LeO.refl _)
      | (with_reducible exact LeO.none _)
      | (with_reducible refine LeO.ite ?_ ?_)
      | (with_reducible refine LeO.bind ?_ (fun _ => ?_))
      | exact ih0 _ _ _
      | exact ih1 _ _ _
      | exact spec_Int_Mul.mono _ _ _ _ _
      | exact spec_Small.mono _ _
      | exact LeO.none _
      | refine LeO.ite ?_ ?_
      | refine LeO.bind ?_ (fun _ => ?_)
set_option maxHeartbeats 8000000 in
set_option maxRecDepth 100000 in
theorem spec_frontTens.calls (k : Nat) (a0 : Int) (r1 : Bool) (r2 : List Int) (w : World) (h : spec_frontTens.f k a0 = some (r1, r2)) :
    Calls Tryz.prog 25 #[.int .i64 a0] w fun e w' => ∃ v1_ : Value, e = .returned (.agg #[.bool r1, v1_]) ∧ Kd.R (Kd.int .u8) 5 w' w.heap.size (fun _ => True) v1_ r2 ∧ Below w.heap.size w w' := by
  have hu37 := Tryz.underlying37
  have HB := Aside0.mk (Below.refl w.heap.size w)
  have H : ((spec_Small.f k 1).bind fun bt181 => (spec_frontTens.l0 k a0 bt181.1 bt181.2)) = some (r1, r2) := h
  clear h
  replace H := Option.bind_eq_some_iff.mp H
  obtain ⟨⟨t181, t182⟩, A20, H⟩ := H
  replace H : (spec_frontTens.l0 k a0 t181 t182) = some (r1, r2) := H
  have A2 := Aside0.mk A20
  clear A20
  have H' := Aside0.mk H
  clear H
  go_enter Tryz.func25, Tryz.ntmps25
  go_wp2_with (first | ((with_reducible refine gate_dst (N := 2) rfl ?_); refine box_event ?hg (N := 2) ?hd (cs := #[.bool false, .slice none 0 0]) (t := 37) ?hr ?_; (case hd => rfl); (case hg => rfl); (case hr => first | (go_simp; done) | (go_simp; rfl)); intro gb180 hg w3 hbox hb; have n0_ := Aside0.mk (below_step (by repeat (first | (with_reducible first | exact HB.out | apply below_alloc | apply pw_below_drewN | apply below_drew1) | exact HB.out)) hb); have n1_ := Aside0.mk (hbox); have n2_ := Aside0.mk ((by rw [hg]; exact (below_size (by repeat (first | (with_reducible first | exact HB.out | apply below_alloc | apply pw_below_drewN | apply below_drew1) | exact HB.out))) : w.heap.size ≤ gb180)); have n3_ := Aside0.mk ((by rw [hg]; exact (below_size (by repeat (first | (with_reducible first | exact HB.out | apply below_alloc | apply pw_below_drewN | apply below_drew1) | exact HB.out))) : w.heap.size ≤ gb180)); clear HB; have HB := n0_; have BK180 := n1_; have GW180 := n2_; have GE180 := n3_; clear n0_ n1_ n2_ n3_; clear hb hbox hg) | ((with_reducible refine gate_callee (f := 22) rfl ?_); refine goesL_ (some 4) rfl rfl Tryz.func22 (by kernel_rfl) rfl #[.int .i64 1] rfl (by (try simp only [List.map_toArray, List.map_cons, List.map_nil]); first | done | rfl | (simp only [List.length_drop, List.length_take]; rfl)) ?_; (with_reducible refine (spec_Small.calls k 1 t181 t182 _ A2.out).mono ?_); rintro e w4 ⟨v183, rfl, ho0, hb⟩; refine ⟨_, rfl, ?_⟩; have n0_ := Aside0.mk (Kd.R_lower ho0 (below_size (by repeat (first | (with_reducible first | exact HB.out | apply below_alloc | apply pw_below_drewN | apply below_drew1 | refine below_set ?_ GE180.out) | exact HB.out)))); have n1_ := Aside0.mk (blk_below (g := gb180) (o := .cells #[.bool false, .slice none 0 0] 37 (0, 0)) (by (with_reducible repeat (first | refine blk_drewN ?_ _ | refine blk_drew ?_ | refine blk_alloc ?_ _)); exact BK180.out) hb); have n2_ := Aside0.mk (below_step (by repeat (first | (with_reducible first | exact HB.out | apply below_alloc | apply pw_below_drewN | apply below_drew1 | refine below_set ?_ GE180.out) | exact HB.out)) hb); clear BK180; clear HB; have HO184 := n0_; have BK180 := n1_; have HB := n2_; clear n0_ n1_ n2_; (try clear hb); (try clear hb2); (try clear hk); (try clear hi); (try clear ho0)) | ((with_reducible refine gate_dst (N := 3) rfl ?_); refine box_event ?hg (N := 3) ?hd (cs := #[.bool false, .slice none 0 0]) (t := 37) ?hr ?_; (case hd => rfl); (case hg => rfl); (case hr => first | (go_simp; done) | (go_simp; rfl)); intro gb185 hg w5 hbox hb; have n0_ := Aside0.mk (Kd.R_below (by (with_reducible repeat (first | apply Kd.R_alloc | apply Kd.R_drewN | apply Kd.R_drew)); exact HO184.out) hb); have n1_ := Aside0.mk (blk_below (g := gb180) (o := .cells #[.bool false, .slice none 0 0] 37 (0, 0)) (by (with_reducible repeat (first | refine blk_drewN ?_ _ | refine blk_drew ?_ | refine blk_alloc ?_ _)); exact BK180.out) hb); have n2_ := Aside0.mk (below_step (by repeat (first | (with_reducible first | exact HB.out | apply below_alloc | apply pw_below_drewN | apply below_drew1 | refine below_set ?_ GE180.out) | exact HB.out)) hb); have n3_ := Aside0.mk (hbox); have n4_ := Aside0.mk ((by rw [hg]; exact (below_size (by repeat (first | (with_reducible first | exact HB.out | apply below_alloc | apply pw_below_drewN | apply below_drew1 | refine below_set ?_ GE180.out) | exact HB.out))) : w.heap.size ≤ gb185)); have n5_ := Aside0.mk ((by rw [hg]; exact (below_size (by repeat (first | (with_reducible first | exact HB.out | apply below_alloc | apply pw_below_drewN | apply below_drew1 | refine below_set ?_ GE180.out) | exact HB.out))) : w.heap.size ≤ gb185)); have n6_ := Aside0.mk ((by rw [hg]; exact Nat.ne_of_lt (blk_lt (g := gb180) (o := .cells #[.bool false, .slice none 0 0] 37 (0, 0)) (by (with_reducible repeat (first | refine blk_drewN ?_ _ | refine blk_drew ?_ | refine blk_alloc ?_ _)); exact BK180.out)) : gb180 ≠ gb185)); have n7_ := Aside0.mk ((by rw [hg]; exact Nat.ne_of_gt (blk_lt (g := gb180) (o := .cells #[.bool false, .slice none 0 0] 37 (0, 0)) (by (with_reducible repeat (first | refine blk_drewN ?_ _ | refine blk_drew ?_ | refine blk_alloc ?_ _)); exact BK180.out)) : gb185 ≠ gb180)); clear HO184; clear BK180; clear HB; have HO184 := n0_; have BK180 := n1_; have HB := n2_; have BK185 := n3_; have GW185 := n4_; have GE185 := n5_; have NB180_185 := n6_; have NB185_180 := n7_; clear n0_ n1_ n2_ n3_ n4_ n5_ n6_ n7_; clear hb hbox hg; have hnb6 := NB185_180.out; have hnc6 := NB180_185.out; have hcz7_0 : w5.cell? ⟨gb185, 0, none⟩ = some (.bool false) := (blk_cell BK185.out 0).trans rfl; have hcz7_1 : w5.cell? ⟨gb185, 1, none⟩ = some (.slice none 0 0) := (blk_cell BK185.out 1).trans rfl; have hfz7_0 := blk_frozen BK185.out 0; have hfz7_1 := blk_frozen BK185.out 1; obtain ⟨Ao8, co8, eo8⟩ := Kd.R_slice HO184.out; subst eo8))
  go_loopg [0] k (fun kq v0 w' => ∃ (x0_1 : Int) (x186000_1 : Bool) (x186001_1 : List Int) (u186001 : Value), v0 = .int .i64 x0_1 ∧ Aside0 (spec_frontTens.l0 kq x0_1 x186000_1 x186001_1 = some (r1, r2)) ∧ Aside0 (kq ≤ k) ∧ Aside0 (Kd.R (Kd.int .u8) 5 w' w.heap.size (fun _ => True) u186001 x186001_1) ∧ Aside0 (w'.heap[gb180]? = some (.cells #[.bool false, (.slice none 0 0)] 37 (0, 0))) ∧ Aside0 (w'.heap[gb185]? = some (.cells #[.bool x186000_1, u186001] 37 (0, 0))) ∧ Aside0 (Below w.heap.size w w'))
  case atStart => exact ⟨(a0), (t181), (t182), (.slice Ao8 t182.length co8), (by first | rfl | (simp; done) | (simp [*]; done)), H', ⟨Nat.le_refl _⟩, ⟨by (with_reducible repeat (first | apply Kd.R_alloc | apply Kd.R_drewN | apply Kd.R_drew)); exact Kd.R_mono (Kd.R_far (p := ⟨gb185, 1, none⟩) (Kd.R_far (p := ⟨gb185, 0, none⟩) (Kd.R_types HO184.out BK185.out (by decide)) (fun _ hk => hk.2) (.bool t181)) (fun _ hk => hk.2) (.slice Ao8 t182.length co8)) (fun _ hk => trivial)⟩, ⟨by (with_reducible repeat (first | refine blk_drewN ?_ _ | refine blk_drew ?_ | refine blk_alloc ?_ _)); refine blk_far ?_ NB180_185.out _; (with_reducible repeat (first | refine blk_drewN ?_ _ | refine blk_drew ?_ | refine blk_alloc ?_ _)); refine blk_far ?_ NB180_185.out _; (with_reducible repeat (first | refine blk_drewN ?_ _ | refine blk_drew ?_ | refine blk_alloc ?_ _)); exact BK180.out⟩, ⟨by (with_reducible repeat (first | refine blk_drewN ?_ _ | refine blk_drew ?_ | refine blk_alloc ?_ _)); refine blk_put (cs := #[.bool t181, .slice none 0 0]) ?_ 1 _ rfl; (with_reducible repeat (first | refine blk_drewN ?_ _ | refine blk_drew ?_ | refine blk_alloc ?_ _)); refine blk_put (cs := #[.bool false, .slice none 0 0]) ?_ 0 _ rfl; (with_reducible repeat (first | refine blk_drewN ?_ _ | refine blk_drew ?_ | refine blk_alloc ?_ _)); exact BK185.out⟩, ⟨by repeat (first | (with_reducible first | exact HB.out | apply below_alloc | apply pw_below_drewN | apply below_drew1 | refine below_set ?_ GE180.out | refine below_set ?_ GE185.out) | exact HB.out)⟩⟩
  case round =>
    clear H'
    try clear c2
    try clear p2
    try clear c6
    try clear hcz7_0
    try clear hcz7_1
    try clear hfz7_0
    try clear hfz7_1
    obtain ⟨x0_1, x186000_1, x186001_1, u186001, rfl, HA, HK1, HO_186001, BK180, BK185, HB⟩ := hrel
    cases gk with
    | zero => exact absurd HA.out (by simp [spec_frontTens.l0])
    | succ k1 =>
      have H := HA.out
      clear HA
      simp only [spec_frontTens.l0] at H
      by_cases c9 : x0_1 ≥ 15
      · rw [if_pos c9] at H
        have c9b0 : decide (15 ≤ x0_1) = true := decide_eq_true c9
        clear c9
        replace H := Option.bind_eq_some_iff.mp H
        obtain ⟨⟨t186, t187⟩, A100, H⟩ := H
        replace H : ((spec_Int_Mul.f k1 x186000_1 x186001_1 t186 t187).bind fun bt190 => (spec_frontTens.l0 k1 (wrap64 (x0_1 - 15)) bt190.1 bt190.2)) = some (r1, r2) := H
        have A10 := Aside0.mk A100
        clear A100
        replace H := Option.bind_eq_some_iff.mp H
        obtain ⟨⟨t190, t191⟩, A110, H⟩ := H
        replace H : (spec_frontTens.l0 k1 (wrap64 (x0_1 - 15)) t190 t191) = some (r1, r2) := H
        have A11 := Aside0.mk A110
        clear A110
        have H' := Aside0.mk H
        clear H
        try go_wp2
        have n0_ := Aside0.mk (Kd.R_drew HO_186001.out)
        have n1_ := Aside0.mk (blk_drew BK180.out)
        have n2_ := Aside0.mk (blk_drew BK185.out)
        have n3_ := Aside0.mk (below_drew1 HB.out)
        clear HO_186001
        clear BK180
        clear BK185
        clear HB
        have HO_186001 := n0_
        have BK180 := n1_
        have BK185 := n2_
        have HB := n3_
        clear n0_ n1_ n2_ n3_
        refine start_ (n := 4) (S := fun w' => w'.cell? ⟨gb185, 0, none⟩ = some (.bool x186000_1) ∧ w'.cell? ⟨gb185, 1, none⟩ = some (u186001)) (ds := [3]) #[false, false, false, false] (by kernel_rfl) rfl rfl ⟨(blk_cell BK185.out 0).trans rfl, (blk_cell BK185.out 1).trans rfl⟩ (fun hHeld => ?_)
        generalize wr.drew = w12 at HO_186001 BK180 BK185 HB hHeld ⊢
        refine take_ (i := 0) (N := some 9) (v := ?_) (a' := ?_) #[true, false, false, false] rfl rfl (by kernel_rfl) (fun _ _ _ h => h) (Or.inl ⟨by rfl, ?_⟩) hHeld ?_ ?_
        rotate_left
        · rintro w' ⟨s0, s1⟩
          go_simp
          with_reducible rfl
        rotate_left
        · simp only [Act.put, List.setIfInBounds_toArray, List.set_cons_zero, List.set_cons_succ, i64_w, i32_w]
          rfl
        refine one_ (i := 1) (N := some 10) #[true, true, false, false] rfl rfl (by kernel_rfl) (by decide) (fun K hK => ?_)
        refine goes_ Tryz.func22 (by kernel_rfl) rfl #[.int .i64 1000000000000000] (by rfl) rfl rfl (by (try simp only [List.map_toArray, List.map_cons, List.map_nil]); first | done | rfl | (simp only [List.length_drop, List.length_take]; rfl)) ?_
        with_reducible refine (spec_Small.calls k1 1000000000000000 t186 t187 _ A10.out).mono ?_
        rintro e w13 ⟨v188, rfl, ho0, hb⟩
        refine ⟨_, rfl, ?_⟩
        have n0_ := Aside0.mk (Kd.R_elder' (by (with_reducible repeat (first | apply Kd.R_alloc | apply Kd.R_drewN | apply Kd.R_drew)); exact HO_186001.out) (Kd.R_base ho0) hb)
        have n1_ := Aside0.mk (Kd.R_lower (Kd.R_new' ho0 (Kd.R_lt (by (with_reducible repeat (first | apply Kd.R_alloc | apply Kd.R_drewN | apply Kd.R_drew)); exact HO_186001.out))) (below_size (by repeat (first | (with_reducible first | exact HB.out | apply below_alloc | apply pw_below_drewN | apply below_drew1 | refine below_set ?_ GE180.out | refine below_set ?_ GE185.out) | exact HB.out))))
        have n2_ := Aside0.mk (blk_below (g := gb180) (o := .cells #[.bool false, .slice none 0 0] 37 (0, 0)) (by (with_reducible repeat (first | refine blk_drewN ?_ _ | refine blk_drew ?_ | refine blk_alloc ?_ _)); exact BK180.out) hb)
        have n3_ := Aside0.mk (blk_below (g := gb185) (o := .cells #[.bool x186000_1, u186001] 37 (0, 0)) (by (with_reducible repeat (first | refine blk_drewN ?_ _ | refine blk_drew ?_ | refine blk_alloc ?_ _)); exact BK185.out) hb)
        have n4_ := Aside0.mk (below_step (by repeat (first | (with_reducible first | exact HB.out | apply below_alloc | apply pw_below_drewN | apply below_drew1 | refine below_set ?_ GE180.out | refine below_set ?_ GE185.out) | exact HB.out)) hb)
        clear HO_186001
        clear BK180
        clear BK185
        clear HB
        have HO_186001 := n0_
        have HO189 := n1_
        have BK180 := n2_
        have BK185 := n3_
        have HB := n4_
        clear n0_ n1_ n2_ n3_ n4_
        (try clear hb)
        (try clear hb2)
        (try clear hk)
        (try clear hi)
        (try clear ho0)
        obtain ⟨Ao14, co14, eo14⟩ := Kd.R_slice HO_186001.out
        (first | subst eo14 | (injection eo14 with f1_ f2_ f3_; have f4_ := f1_.symm; have f5_ := f3_.symm; clear f1_ f2_ f3_; subst f4_; subst f5_))
        obtain ⟨Ao15, co15, eo15⟩ := Kd.R_slice HO189.out
        (first | subst eo15 | (injection eo15 with f1_ f2_ f3_; have f4_ := f1_.symm; have f5_ := f3_.symm; clear f1_ f2_ f3_; subst f4_; subst f5_))
        refine hK.out _ _ ⟨(blk_cell BK185.out 0).trans rfl, (blk_cell BK185.out 1).trans rfl⟩ (fun hHeld => ?_)
        clear hK K
        refine norm_ (a' := ?_) ?_ ?_
        rotate_left
        · show Act.put _ (some 10) _ = _
          simp only [Act.put, List.setIfInBounds_toArray, List.set_cons_zero, List.set_cons_succ, i64_w, i32_w]
          rfl
        refine one_ (i := 2) (N := some 11) #[true, true, true, false] rfl rfl (by kernel_rfl) (by decide) (fun K hK => ?_)
        refine goes_ Tryz.func24 (by kernel_rfl) rfl #[.agg #[.bool x186000_1, .slice Ao14 x186001_1.length co14], .agg #[.bool t186, .slice Ao15 t187.length co15]] (by rfl) rfl rfl (by (try simp only [List.map_toArray, List.map_cons, List.map_nil]); first | done | rfl | (simp only [List.length_drop, List.length_take]; rfl)) ?_
        with_reducible refine (spec_Int_Mul.calls k1 x186000_1 _ _ x186001_1 t186 _ _ t187 t190 t191 _ ?side1 ?side2 ?side3 ?side4 A11.out).mono ?_
        (case side1 => repeat (first | exact (Kd.R_reads' HO_186001.out).2.2 | (with_reducible refine Kd.C_alloc ?_ _) | (with_reducible refine Kd.C_drewN ?_ _) | (with_reducible refine Kd.C_drew ?_)))
        (case side2 => exact (Kd.R_reads' HO_186001.out).2.1)
        (case side3 => repeat (first | exact (Kd.R_reads' HO189.out).2.2 | (with_reducible refine Kd.C_alloc ?_ _) | (with_reducible refine Kd.C_drewN ?_ _) | (with_reducible refine Kd.C_drew ?_)))
        (case side4 => exact (Kd.R_reads' HO189.out).2.1)
        rintro e w16 ⟨v192, rfl, ho0, hb⟩
        refine ⟨_, rfl, ?_⟩
        have n0_ := Aside0.mk (Kd.R_elder' (by (with_reducible repeat (first | apply Kd.R_alloc | apply Kd.R_drewN | apply Kd.R_drew)); exact HO_186001.out) (Kd.R_base ho0) hb)
        have n1_ := Aside0.mk (Kd.R_elder' (by (with_reducible repeat (first | apply Kd.R_alloc | apply Kd.R_drewN | apply Kd.R_drew)); exact HO189.out) (Kd.R_base ho0) hb)
        have n2_ := Aside0.mk (Kd.R_lower (Kd.R_new' (Kd.R_new' ho0 (Kd.R_lt (by (with_reducible repeat (first | apply Kd.R_alloc | apply Kd.R_drewN | apply Kd.R_drew)); exact HO_186001.out))) (Kd.R_lt (by (with_reducible repeat (first | apply Kd.R_alloc | apply Kd.R_drewN | apply Kd.R_drew)); exact HO189.out))) (below_size (by repeat (first | (with_reducible first | exact HB.out | apply below_alloc | apply pw_below_drewN | apply below_drew1 | refine below_set ?_ GE180.out | refine below_set ?_ GE185.out) | exact HB.out))))
        have n3_ := Aside0.mk (blk_below (g := gb180) (o := .cells #[.bool false, .slice none 0 0] 37 (0, 0)) (by (with_reducible repeat (first | refine blk_drewN ?_ _ | refine blk_drew ?_ | refine blk_alloc ?_ _)); exact BK180.out) hb)
        have n4_ := Aside0.mk (blk_below (g := gb185) (o := .cells #[.bool x186000_1, .slice Ao14 x186001_1.length co14] 37 (0, 0)) (by (with_reducible repeat (first | refine blk_drewN ?_ _ | refine blk_drew ?_ | refine blk_alloc ?_ _)); exact BK185.out) hb)
        have n5_ := Aside0.mk (below_step (by repeat (first | (with_reducible first | exact HB.out | apply below_alloc | apply pw_below_drewN | apply below_drew1 | refine below_set ?_ GE180.out | refine below_set ?_ GE185.out) | exact HB.out)) hb)
        clear HO_186001
        clear HO189
        clear BK180
        clear BK185
        clear HB
        have HO_186001 := n0_
        have HO189 := n1_
        have HO193 := n2_
        have BK180 := n3_
        have BK185 := n4_
        have HB := n5_
        clear n0_ n1_ n2_ n3_ n4_ n5_
        (try clear hb)
        (try clear hb2)
        (try clear hk)
        (try clear hi)
        (try clear ho0)
        obtain ⟨Ao18, co18, eo18⟩ := Kd.R_slice HO193.out
        (first | subst eo18 | (injection eo18 with f1_ f2_ f3_; have f4_ := f1_.symm; have f5_ := f3_.symm; clear f1_ f2_ f3_; subst f4_; subst f5_))
        refine hK.out _ _ ⟨(blk_cell BK185.out 0).trans rfl, (blk_cell BK185.out 1).trans rfl⟩ (fun hHeld => ?_)
        clear hK K
        refine norm_ (a' := ?_) ?_ ?_
        rotate_left
        · show Act.put _ (some 11) _ = _
          simp only [Act.put, List.setIfInBounds_toArray, List.set_cons_zero, List.set_cons_succ, i64_w, i32_w]
          rfl
        refine last_ (i := 3) (N := none) #[true, true, true, true] rfl rfl (by kernel_rfl) (by decide) (fun K hK => ?_)
        have hs17 : w16.cell? ⟨gb185, 0, none⟩ = some (.bool x186000_1) := (blk_cell BK185.out 0).trans rfl
        have hfs17 := blk_frozen BK185.out 0
        have hns17_0 := NB180_185.out
        have hms17_0 := NB185_180.out
        have hs19 : w16.cell? ⟨gb185, 1, none⟩ = some (.slice Ao14 x186001_1.length co14) := (blk_cell BK185.out 1).trans rfl
        have hfs19 := blk_frozen BK185.out 1
        have hns19_0 := NB180_185.out
        have hms19_0 := NB185_180.out
        refine skip_ (w1 := ?_) (by rfl) rfl ?_ ?_
        rotate_left
        · go_simp
          rfl
        refine hK.out _ _ ?_
        clear hK K
        refine done_ (by kernel_rfl) ?_
        try go_wp2
        go_roundg k1
        case measure => have := HK1.out; omega
        case rel => exact ⟨(wrap64 (x0_1 - 15)), (t190), (t191), (.slice Ao18 t191.length co18), (by first | rfl | (simp; done) | (simp [*]; done)), H', ⟨by have := HK1.out; omega⟩, ⟨by (with_reducible repeat (first | apply Kd.R_alloc | apply Kd.R_drewN | apply Kd.R_drew)); exact Kd.R_mono (Kd.R_far (p := ⟨gb185, 1, none⟩) (Kd.R_far (p := ⟨gb185, 0, none⟩) (Kd.R_types HO193.out BK185.out (by decide)) (fun _ hk => hk.2) (.bool t190)) (fun _ hk => hk.2) (.slice Ao18 t191.length co18)) (fun _ hk => trivial)⟩, ⟨by (with_reducible repeat (first | refine blk_drewN ?_ _ | refine blk_drew ?_ | refine blk_alloc ?_ _)); refine blk_far ?_ NB180_185.out _; (with_reducible repeat (first | refine blk_drewN ?_ _ | refine blk_drew ?_ | refine blk_alloc ?_ _)); refine blk_far ?_ NB180_185.out _; (with_reducible repeat (first | refine blk_drewN ?_ _ | refine blk_drew ?_ | refine blk_alloc ?_ _)); exact BK180.out⟩, ⟨by (with_reducible repeat (first | refine blk_drewN ?_ _ | refine blk_drew ?_ | refine blk_alloc ?_ _)); refine blk_put (cs := #[.bool t190, .slice Ao14 x186001_1.length co14]) ?_ 1 _ rfl; (with_reducible repeat (first | refine blk_drewN ?_ _ | refine blk_drew ?_ | refine blk_alloc ?_ _)); refine blk_put (cs := #[.bool x186000_1, .slice Ao14 x186001_1.length co14]) ?_ 0 _ rfl; (with_reducible repeat (first | refine blk_drewN ?_ _ | refine blk_drew ?_ | refine blk_alloc ?_ _)); exact BK185.out⟩, ⟨by repeat (first | (with_reducible first | exact HB.out | apply below_alloc | apply pw_below_drewN | apply below_drew1 | refine below_set ?_ GE180.out | refine below_set ?_ GE185.out) | exact HB.out)⟩⟩
      · rw [if_neg c9] at H
        have c9b0 : decide (15 ≤ x0_1) = false := decide_eq_false c9
        clear c9
        have H' := Aside0.mk H
        clear H
        go_wp2
        go_loopg [0] k1 (fun kq v0 w' => ∃ (x0_2 : Int) (x186000_2 : Bool) (x186001_2 : List Int) (u186001 : Value), v0 = .int .i64 x0_2 ∧ Aside0 (spec_frontTens.l1 kq x0_2 x186000_2 x186001_2 = some (r1, r2)) ∧ Aside0 (kq ≤ k1) ∧ Aside0 (Kd.R (Kd.int .u8) 5 w' w.heap.size (fun _ => True) u186001 x186001_2) ∧ Aside0 (w'.heap[gb180]? = some (.cells #[.bool false, (.slice none 0 0)] 37 (0, 0))) ∧ Aside0 (w'.heap[gb185]? = some (.cells #[.bool x186000_2, u186001] 37 (0, 0))) ∧ Aside0 (Below w.heap.size w w'))
        case atStart => exact ⟨(x0_1), (x186000_1), (x186001_1), (u186001), (by first | rfl | (simp; done) | (simp [*]; done)), H', ⟨Nat.le_refl _⟩, ⟨by (with_reducible repeat (first | apply Kd.R_alloc | apply Kd.R_drewN | apply Kd.R_drew)); exact HO_186001.out⟩, ⟨by (with_reducible repeat (first | refine blk_drewN ?_ _ | refine blk_drew ?_ | refine blk_alloc ?_ _)); exact BK180.out⟩, ⟨by (with_reducible repeat (first | refine blk_drewN ?_ _ | refine blk_drew ?_ | refine blk_alloc ?_ _)); exact BK185.out⟩, ⟨by repeat (first | (with_reducible first | exact HB.out | apply below_alloc | apply pw_below_drewN | apply below_drew1 | refine below_set ?_ GE180.out | refine below_set ?_ GE185.out) | exact HB.out)⟩⟩
        case round =>
          clear H'
          try clear c2
          try clear p2
          try clear c6
          try clear p6
          try clear c9
          try clear c9b0
          try clear hcz7_0
          try clear hcz7_1
          try clear hfz7_0
          try clear hfz7_1
          try clear p2
          obtain ⟨x0_2, x186000_2, x186001_2, u186001, rfl, HA, HK2, HO_186001, BK180, BK185, HB⟩ := hrel
          cases gk with
          | zero => exact absurd HA.out (by simp [spec_frontTens.l1])
          | succ k2 =>
            have H := HA.out
            clear HA
            simp only [spec_frontTens.l1] at H
            by_cases c20 : x0_2 > 0
            · rw [if_pos c20] at H
              have c20b0 : decide (0 < x0_2) = true := decide_eq_true c20
              clear c20
              replace H := Option.bind_eq_some_iff.mp H
              obtain ⟨⟨t194, t195⟩, A210, H⟩ := H
              replace H : ((spec_Int_Mul.f k2 x186000_2 x186001_2 t194 t195).bind fun bt198 => (spec_frontTens.l1 k2 (wrap64 (x0_2 - 1)) bt198.1 bt198.2)) = some (r1, r2) := H
              have A21 := Aside0.mk A210
              clear A210
              replace H := Option.bind_eq_some_iff.mp H
              obtain ⟨⟨t198, t199⟩, A220, H⟩ := H
              replace H : (spec_frontTens.l1 k2 (wrap64 (x0_2 - 1)) t198 t199) = some (r1, r2) := H
              have A22 := Aside0.mk A220
              clear A220
              have H' := Aside0.mk H
              clear H
              try go_wp2
              have n0_ := Aside0.mk (Kd.R_drew HO_186001.out)
              have n1_ := Aside0.mk (blk_drew BK180.out)
              have n2_ := Aside0.mk (blk_drew BK185.out)
              have n3_ := Aside0.mk (below_drew1 HB.out)
              clear HO_186001
              clear BK180
              clear BK185
              clear HB
              have HO_186001 := n0_
              have BK180 := n1_
              have BK185 := n2_
              have HB := n3_
              clear n0_ n1_ n2_ n3_
              refine start_ (n := 4) (S := fun w' => w'.cell? ⟨gb185, 0, none⟩ = some (.bool x186000_2) ∧ w'.cell? ⟨gb185, 1, none⟩ = some (u186001)) (ds := [3]) #[false, false, false, false] (by kernel_rfl) rfl rfl ⟨(blk_cell BK185.out 0).trans rfl, (blk_cell BK185.out 1).trans rfl⟩ (fun hHeld => ?_)
              generalize wr.drew = w23 at HO_186001 BK180 BK185 HB hHeld ⊢
              refine take_ (i := 0) (N := some 16) (v := ?_) (a' := ?_) #[true, false, false, false] rfl rfl (by kernel_rfl) (fun _ _ _ h => h) (Or.inl ⟨by rfl, ?_⟩) hHeld ?_ ?_
              rotate_left
              · rintro w' ⟨s0, s1⟩
                go_simp
                with_reducible rfl
              rotate_left
              · simp only [Act.put, List.setIfInBounds_toArray, List.set_cons_zero, List.set_cons_succ, i64_w, i32_w]
                rfl
              refine one_ (i := 1) (N := some 17) #[true, true, false, false] rfl rfl (by kernel_rfl) (by decide) (fun K hK => ?_)
              refine goes_ Tryz.func22 (by kernel_rfl) rfl #[.int .i64 10] (by rfl) rfl rfl (by (try simp only [List.map_toArray, List.map_cons, List.map_nil]); first | done | rfl | (simp only [List.length_drop, List.length_take]; rfl)) ?_
              with_reducible refine (spec_Small.calls k2 10 t194 t195 _ A21.out).mono ?_
              rintro e w24 ⟨v196, rfl, ho0, hb⟩
              refine ⟨_, rfl, ?_⟩
              have n0_ := Aside0.mk (Kd.R_elder' (by (with_reducible repeat (first | apply Kd.R_alloc | apply Kd.R_drewN | apply Kd.R_drew)); exact HO_186001.out) (Kd.R_base ho0) hb)
              have n1_ := Aside0.mk (Kd.R_lower (Kd.R_new' ho0 (Kd.R_lt (by (with_reducible repeat (first | apply Kd.R_alloc | apply Kd.R_drewN | apply Kd.R_drew)); exact HO_186001.out))) (below_size (by repeat (first | (with_reducible first | exact HB.out | apply below_alloc | apply pw_below_drewN | apply below_drew1 | refine below_set ?_ GE180.out | refine below_set ?_ GE185.out) | exact HB.out))))
              have n2_ := Aside0.mk (blk_below (g := gb180) (o := .cells #[.bool false, .slice none 0 0] 37 (0, 0)) (by (with_reducible repeat (first | refine blk_drewN ?_ _ | refine blk_drew ?_ | refine blk_alloc ?_ _)); exact BK180.out) hb)
              have n3_ := Aside0.mk (blk_below (g := gb185) (o := .cells #[.bool x186000_2, u186001] 37 (0, 0)) (by (with_reducible repeat (first | refine blk_drewN ?_ _ | refine blk_drew ?_ | refine blk_alloc ?_ _)); exact BK185.out) hb)
              have n4_ := Aside0.mk (below_step (by repeat (first | (with_reducible first | exact HB.out | apply below_alloc | apply pw_below_drewN | apply below_drew1 | refine below_set ?_ GE180.out | refine below_set ?_ GE185.out) | exact HB.out)) hb)
              clear HO_186001
              clear BK180
              clear BK185
              clear HB
              have HO_186001 := n0_
              have HO197 := n1_
              have BK180 := n2_
              have BK185 := n3_
              have HB := n4_
              clear n0_ n1_ n2_ n3_ n4_
              (try clear hb)
              (try clear hb2)
              (try clear hk)
              (try clear hi)
              (try clear ho0)
              obtain ⟨Ao25, co25, eo25⟩ := Kd.R_slice HO_186001.out
              (first | subst eo25 | (injection eo25 with f1_ f2_ f3_; have f4_ := f1_.symm; have f5_ := f3_.symm; clear f1_ f2_ f3_; subst f4_; subst f5_))
              obtain ⟨Ao26, co26, eo26⟩ := Kd.R_slice HO197.out
              (first | subst eo26 | (injection eo26 with f1_ f2_ f3_; have f4_ := f1_.symm; have f5_ := f3_.symm; clear f1_ f2_ f3_; subst f4_; subst f5_))
              refine hK.out _ _ ⟨(blk_cell BK185.out 0).trans rfl, (blk_cell BK185.out 1).trans rfl⟩ (fun hHeld => ?_)
              clear hK K
              refine norm_ (a' := ?_) ?_ ?_
              rotate_left
              · show Act.put _ (some 17) _ = _
                simp only [Act.put, List.setIfInBounds_toArray, List.set_cons_zero, List.set_cons_succ, i64_w, i32_w]
                rfl
              refine one_ (i := 2) (N := some 18) #[true, true, true, false] rfl rfl (by kernel_rfl) (by decide) (fun K hK => ?_)
              refine goes_ Tryz.func24 (by kernel_rfl) rfl #[.agg #[.bool x186000_2, .slice Ao25 x186001_2.length co25], .agg #[.bool t194, .slice Ao26 t195.length co26]] (by rfl) rfl rfl (by (try simp only [List.map_toArray, List.map_cons, List.map_nil]); first | done | rfl | (simp only [List.length_drop, List.length_take]; rfl)) ?_
              with_reducible refine (spec_Int_Mul.calls k2 x186000_2 _ _ x186001_2 t194 _ _ t195 t198 t199 _ ?side1 ?side2 ?side3 ?side4 A22.out).mono ?_
              (case side1 => repeat (first | exact (Kd.R_reads' HO_186001.out).2.2 | (with_reducible refine Kd.C_alloc ?_ _) | (with_reducible refine Kd.C_drewN ?_ _) | (with_reducible refine Kd.C_drew ?_)))
              (case side2 => exact (Kd.R_reads' HO_186001.out).2.1)
              (case side3 => repeat (first | exact (Kd.R_reads' HO197.out).2.2 | (with_reducible refine Kd.C_alloc ?_ _) | (with_reducible refine Kd.C_drewN ?_ _) | (with_reducible refine Kd.C_drew ?_)))
              (case side4 => exact (Kd.R_reads' HO197.out).2.1)
              rintro e w27 ⟨v200, rfl, ho0, hb⟩
              refine ⟨_, rfl, ?_⟩
              have n0_ := Aside0.mk (Kd.R_elder' (by (with_reducible repeat (first | apply Kd.R_alloc | apply Kd.R_drewN | apply Kd.R_drew)); exact HO_186001.out) (Kd.R_base ho0) hb)
              have n1_ := Aside0.mk (Kd.R_elder' (by (with_reducible repeat (first | apply Kd.R_alloc | apply Kd.R_drewN | apply Kd.R_drew)); exact HO197.out) (Kd.R_base ho0) hb)
              have n2_ := Aside0.mk (Kd.R_lower (Kd.R_new' (Kd.R_new' ho0 (Kd.R_lt (by (with_reducible repeat (first | apply Kd.R_alloc | apply Kd.R_drewN | apply Kd.R_drew)); exact HO_186001.out))) (Kd.R_lt (by (with_reducible repeat (first | apply Kd.R_alloc | apply Kd.R_drewN | apply Kd.R_drew)); exact HO197.out))) (below_size (by repeat (first | (with_reducible first | exact HB.out | apply below_alloc | apply pw_below_drewN | apply below_drew1 | refine below_set ?_ GE180.out | refine below_set ?_ GE185.out) | exact HB.out))))
              have n3_ := Aside0.mk (blk_below (g := gb180) (o := .cells #[.bool false, .slice none 0 0] 37 (0, 0)) (by (with_reducible repeat (first | refine blk_drewN ?_ _ | refine blk_drew ?_ | refine blk_alloc ?_ _)); exact BK180.out) hb)
              have n4_ := Aside0.mk (blk_below (g := gb185) (o := .cells #[.bool x186000_2, .slice Ao25 x186001_2.length co25] 37 (0, 0)) (by (with_reducible repeat (first | refine blk_drewN ?_ _ | refine blk_drew ?_ | refine blk_alloc ?_ _)); exact BK185.out) hb)
              have n5_ := Aside0.mk (below_step (by repeat (first | (with_reducible first | exact HB.out | apply below_alloc | apply pw_below_drewN | apply below_drew1 | refine below_set ?_ GE180.out | refine below_set ?_ GE185.out) | exact HB.out)) hb)
              clear HO_186001
              clear HO197
              clear BK180
              clear BK185
              clear HB
              have HO_186001 := n0_
              have HO197 := n1_
              have HO201 := n2_
              have BK180 := n3_
              have BK185 := n4_
              have HB := n5_
              clear n0_ n1_ n2_ n3_ n4_ n5_
              (try clear hb)
              (try clear hb2)
              (try clear hk)
              (try clear hi)
              (try clear ho0)
              obtain ⟨Ao29, co29, eo29⟩ := Kd.R_slice HO201.out
              (first | subst eo29 | (injection eo29 with f1_ f2_ f3_; have f4_ := f1_.symm; have f5_ := f3_.symm; clear f1_ f2_ f3_; subst f4_; subst f5_))
              refine hK.out _ _ ⟨(blk_cell BK185.out 0).trans rfl, (blk_cell BK185.out 1).trans rfl⟩ (fun hHeld => ?_)
              clear hK K
              refine norm_ (a' := ?_) ?_ ?_
              rotate_left
              · show Act.put _ (some 18) _ = _
                simp only [Act.put, List.setIfInBounds_toArray, List.set_cons_zero, List.set_cons_succ, i64_w, i32_w]
                rfl
              refine last_ (i := 3) (N := none) #[true, true, true, true] rfl rfl (by kernel_rfl) (by decide) (fun K hK => ?_)
              have hs28 : w27.cell? ⟨gb185, 0, none⟩ = some (.bool x186000_2) := (blk_cell BK185.out 0).trans rfl
              have hfs28 := blk_frozen BK185.out 0
              have hns28_0 := NB180_185.out
              have hms28_0 := NB185_180.out
              have hs30 : w27.cell? ⟨gb185, 1, none⟩ = some (.slice Ao25 x186001_2.length co25) := (blk_cell BK185.out 1).trans rfl
              have hfs30 := blk_frozen BK185.out 1
              have hns30_0 := NB180_185.out
              have hms30_0 := NB185_180.out
              refine skip_ (w1 := ?_) (by rfl) rfl ?_ ?_
              rotate_left
              · go_simp
                rfl
              refine hK.out _ _ ?_
              clear hK K
              refine done_ (by kernel_rfl) ?_
              try go_wp2
              go_roundg k2
              case measure => have := HK1.out; have := HK2.out; omega
              case rel => exact ⟨(wrap64 (x0_2 - 1)), (t198), (t199), (.slice Ao29 t199.length co29), (by first | rfl | (simp; done) | (simp [*]; done)), H', ⟨by have := HK1.out; have := HK2.out; omega⟩, ⟨by (with_reducible repeat (first | apply Kd.R_alloc | apply Kd.R_drewN | apply Kd.R_drew)); exact Kd.R_mono (Kd.R_far (p := ⟨gb185, 1, none⟩) (Kd.R_far (p := ⟨gb185, 0, none⟩) (Kd.R_types HO201.out BK185.out (by decide)) (fun _ hk => hk.2) (.bool t198)) (fun _ hk => hk.2) (.slice Ao29 t199.length co29)) (fun _ hk => trivial)⟩, ⟨by (with_reducible repeat (first | refine blk_drewN ?_ _ | refine blk_drew ?_ | refine blk_alloc ?_ _)); refine blk_far ?_ NB180_185.out _; (with_reducible repeat (first | refine blk_drewN ?_ _ | refine blk_drew ?_ | refine blk_alloc ?_ _)); refine blk_far ?_ NB180_185.out _; (with_reducible repeat (first | refine blk_drewN ?_ _ | refine blk_drew ?_ | refine blk_alloc ?_ _)); exact BK180.out⟩, ⟨by (with_reducible repeat (first | refine blk_drewN ?_ _ | refine blk_drew ?_ | refine blk_alloc ?_ _)); refine blk_put (cs := #[.bool t198, .slice Ao25 x186001_2.length co25]) ?_ 1 _ rfl; (with_reducible repeat (first | refine blk_drewN ?_ _ | refine blk_drew ?_ | refine blk_alloc ?_ _)); refine blk_put (cs := #[.bool x186000_2, .slice Ao25 x186001_2.length co25]) ?_ 0 _ rfl; (with_reducible repeat (first | refine blk_drewN ?_ _ | refine blk_drew ?_ | refine blk_alloc ?_ _)); exact BK185.out⟩, ⟨by repeat (first | (with_reducible first | exact HB.out | apply below_alloc | apply pw_below_drewN | apply below_drew1 | refine below_set ?_ GE180.out | refine below_set ?_ GE185.out) | exact HB.out)⟩⟩
            · rw [if_neg c20] at H
              have c20b0 : decide (0 < x0_2) = false := decide_eq_false c20
              clear c20
              simp only [Option.some.injEq, Prod.mk.injEq] at H
              obtain ⟨rfl, rfl⟩ := H
              have hnb31 := NB185_180.out
              have hnc31 := NB180_185.out
              have hcz32_0 : wr.cell? ⟨gb185, 0, none⟩ = some (.bool x186000_2) := (blk_cell BK185.out 0).trans rfl
              have hcz32_1 : wr.cell? ⟨gb185, 1, none⟩ = some (u186001) := (blk_cell BK185.out 1).trans rfl
              have hfz32_0 := blk_frozen BK185.out 0
              have hfz32_1 := blk_frozen BK185.out 1
              have hcz33_0 : wr.cell? ⟨gb180, 0, none⟩ = some (.bool false) := (blk_cell BK180.out 0).trans rfl
              have hcz33_1 : wr.cell? ⟨gb180, 1, none⟩ = some (.slice none 0 0) := (blk_cell BK180.out 1).trans rfl
              have hfz33_0 := blk_frozen BK180.out 0
              have hfz33_1 := blk_frozen BK180.out 1
              obtain ⟨Ao34, co34, eo34⟩ := Kd.R_slice HO_186001.out
              subst eo34
              go_wp2
              refine bodyPost_ret (results_cell_row rfl _ _ gb180 37 #[.bool x186000_2, .slice Ao34 x186001_2.length co34] (0, 0) _ rfl (by (with_reducible repeat (first | refine blk_drewN ?_ _ | refine blk_drew ?_ | refine blk_alloc ?_ _)); refine blk_put (cs := #[.bool x186000_2, .slice none 0 0]) ?_ 1 _ rfl; (with_reducible repeat (first | refine blk_drewN ?_ _ | refine blk_drew ?_ | refine blk_alloc ?_ _)); refine blk_put (cs := #[.bool false, .slice none 0 0]) ?_ 0 _ rfl; (with_reducible repeat (first | refine blk_drewN ?_ _ | refine blk_drew ?_ | refine blk_alloc ?_ _)); exact BK180.out) Tryz.underlying37 rfl (by kernel_rfl)) rfl ?_
              exact ⟨_, by first | rfl | (simp [errW_none, errW_some] <;> rfl) | (simp [*, errW_none, errW_some] <;> rfl), by (with_reducible repeat (first | apply Kd.R_alloc | apply Kd.R_drewN | apply Kd.R_drew)); exact Kd.R_mono (Kd.R_far (p := ⟨gb180, 1, none⟩) (Kd.R_far (p := ⟨gb180, 0, none⟩) (Kd.R_types HO_186001.out BK180.out (by decide)) (fun _ hk => hk.2) (.bool x186000_2)) (fun _ hk => hk.2) (.slice Ao34 x186001_2.length co34)) (fun _ hk => trivial), by repeat (first | (with_reducible first | exact HB.out | apply below_alloc | apply pw_below_drewN | apply below_drew1 | refine below_set ?_ GE180.out | refine below_set ?_ GE185.out) | exact HB.out)⟩
def spec_sum.l0 : Nat → List Int → List Int → Int → List Int → Int → Int → Option (List Int)
  | 0, _, _, _, _, _, _ => none
  | k + 1, x0, x1, x5, x6, x7, x8 => if x8 < x5 then ((spec_digit.f x0 x8).bind fun t205 => ((spec_digit.f x1 x8).bind fun t206 => (if 0 ≤ (wrap64 ((wrap64 (x5 - 1)) - x8)) then (if (wrap64 ((wrap64 (x5 - 1)) - x8)) < (x6.length : Int) then (spec_sum.l0 k x0 x1 x5 (x6.set ((wrap64 ((wrap64 (x5 - 1)) - x8)) : Int).toNat ((Int.tmod (wrap64 ((wrap64 (t205 + t206)) + x7)) 256) % 256)) (wrap64 (Int.tdiv (wrap64 ((wrap64 (t205 + t206)) + x7)) 256)) (wrap64 (x8 + 1))) else (none)) else (none)))) else ((spec_cut.f k x6).bind fun t208 => (some t208))
def spec_sum.f (k : Nat) (l0 : List Int) (l1 : List Int) : Option (List Int) := if 0 ≤ (wrap64 ((mx (l0.length : Int) (l1.length : Int)) + 1)) then (if (wrap64 ((mx (l0.length : Int) (l1.length : Int)) + 1) : Int).toNat ≤ 281474976710656 then (spec_sum.l0 k l0 l1 (wrap64 ((mx (l0.length : Int) (l1.length : Int)) + 1)) (List.replicate (wrap64 ((mx (l0.length : Int) (l1.length : Int)) + 1) : Int).toNat 0) 0 0) else (none)) else (none)
set_option maxHeartbeats 8000000 in
set_option maxRecDepth 100000 in
theorem spec_sum.calls (k : Nat) (A0 : Option Addr) (c0 : Nat) (l0 : List Int) (A1 : Option Addr) (c1 : Nat) (l1 : List Int) (r : List Int) (w : World) (hr0 : Kd.C (Kd.int .u8) w A0 l0.length l0) (hc0 : l0.length ≤ c0) (hr1 : Kd.C (Kd.int .u8) w A1 l1.length l1) (hc1 : l1.length ≤ c1) (h : spec_sum.f k l0 l1 = some r) :
    Calls Tryz.prog 44 #[.slice A0 l0.length c0, .slice A1 l1.length c1] w fun e w' => ∃ v0_ : Value, e = .returned (v0_) ∧ Kd.R (Kd.int .u8) 5 w' w.heap.size (fun _ => True) v0_ r ∧ Below w.heap.size w w' := by
  have HR0 := Aside0.mk hr0
  have HC0 := Aside0.mk hc0
  clear hr0 hc0
  have HR1 := Aside0.mk hr1
  have HC1 := Aside0.mk hc1
  clear hr1 hc1
  have HB := Aside0.mk (Below.refl w.heap.size w)
  have H : (if 0 ≤ (wrap64 ((mx (l0.length : Int) (l1.length : Int)) + 1)) then (if (wrap64 ((mx (l0.length : Int) (l1.length : Int)) + 1) : Int).toNat ≤ 281474976710656 then (spec_sum.l0 k l0 l1 (wrap64 ((mx (l0.length : Int) (l1.length : Int)) + 1)) (List.replicate (wrap64 ((mx (l0.length : Int) (l1.length : Int)) + 1) : Int).toNat 0) 0 0) else (none)) else (none)) = some r := h
  clear h
  obtain ⟨ji3, hji3⟩ : ∃ j_ : Int, (mx (l0.length : Int) (l1.length : Int)) = j_ := ⟨_, rfl⟩
  replace H : (if 0 ≤ (wrap64 ((ji3) + 1)) then (if (wrap64 ((ji3) + 1) : Int).toNat ≤ 281474976710656 then (spec_sum.l0 k l0 l1 (wrap64 ((ji3) + 1)) (List.replicate (wrap64 ((ji3) + 1) : Int).toNat 0) 0 0) else (none)) else (none)) = some r := by first | (rw [hji3] at H; exact H) | (simp only [hji3] at H ⊢; exact H)
  (try (have hji3l : 0 ≤ ji3 := by (rw [← hji3]; unfold mx; (repeat' split) <;> omega)))
  (try (have hji3m : 0 ≤ ji3 := by omega))
  have hji3_ : (if (l0.length : Int) < (l1.length : Int) then (l1.length : Int) else (l0.length : Int)) = ji3 := hji3
  have hji3n : (if l0.length < l1.length then (l1.length : Int) else (l0.length : Int)) = ji3 := by rw [← hji3]; unfold mx; simp only [Int.ofNat_lt]
  obtain ⟨ji4, hji4⟩ : ∃ j_ : Int, (wrap64 ((ji3) + 1)) = j_ := ⟨_, rfl⟩
  replace H : (if 0 ≤ (ji4) then (if (ji4 : Int).toNat ≤ 281474976710656 then (spec_sum.l0 k l0 l1 ji4 (List.replicate (ji4 : Int).toNat 0) 0 0) else (none)) else (none)) = some r := by first | (rw [hji4] at H; exact H) | (simp only [hji4] at H ⊢; exact H)
  have hji4w : (IntKind.i64.wrap ((ji3) + 1)) = ji4 := (i64_w _).trans hji4
  by_cases c5 : 0 ≤ (ji4)
  · rw [if_pos c5] at H
    have c5b0 := eq_true c5
    have c5b1 : decide (0 ≤ (ji4)) = true := decide_eq_true c5
    clear c5
    by_cases c6 : (ji4 : Int).toNat ≤ 281474976710656
    · rw [if_pos c6] at H
      have c6b0 := eq_true c6
      have c6b1 : decide ((ji4 : Int).toNat ≤ 281474976710656) = true := decide_eq_true c6
      clear c6
      obtain ⟨y202, hy202⟩ : ∃ y_ : List Int, y_ = (List.replicate (ji4 : Int).toNat 0) := ⟨_, rfl⟩
      replace H : (spec_sum.l0 k l0 l1 ji4 y202 0 0) = some r := by first | (rw [hy202]; with_reducible exact H) | (have H2_ := (Option.bind_some _ _).symm.trans H; rw [hy202]; with_reducible exact H2_) | (have H2_ := (Option.bind_some _ _).symm.trans H; with_reducible exact H2_) | with_reducible exact H | (rw [hy202]; exact H) | exact H
      have Ny202 := Aside0.mk hy202
      clear hy202
      have H' := Aside0.mk H
      clear H
      go_enter Tryz.func44, Tryz.ntmps44
      go_wp2_with (first | ((with_reducible refine gate_dst (N := 17) rfl ?_); refine Kd.R_make (Kd.int .u8) _ 5 rfl (N := 17) rfl 35 _ _ rfl ji4 rfl rfl Tryz.underlying35 (.int .u8 0) 1 info5 rfl (by decide) (by omega) 0 (ok := fun _ => True) (okp := fun _ => True) rfl (fun _ hk => hk) trivial (of_decide_eq_true (by first | (with_reducible assumption) | assumption)) (Nat.le_trans (Nat.mul_le_mul_right _ (of_decide_eq_true (by first | (with_reducible assumption) | assumption) : ji4.toNat ≤ 281474976710656)) (by omega)) (Below.refl _ _) (Nat.le_refl _) ?_; intro v203 w7 ho8 hb hg_ hnew_; clear hg_ hnew_; (first | rw [← Ny202.out] at ho8 | (simp only [Int.reduceToNat] at ho8; rw [← Ny202.out] at ho8)); have n0_ := Aside0.mk (Kd.R_lower ho8 (below_size (by repeat (first | (with_reducible first | exact HB.out | apply below_alloc | apply pw_below_drewN | apply below_drew1) | exact HB.out)))); have n1_ := Aside0.mk (below_step (by repeat (first | (with_reducible first | exact HB.out | apply below_alloc | apply pw_below_drewN | apply below_drew1) | exact HB.out)) hb); clear HB; have HO204 := n0_; have HB := n1_; clear n0_ n1_; clear hb ho8))
      go_loopg [7, 8] k (fun kq v7 v8 w' => ∃ (x6_1 : List Int) (x7_1 : Int) (x8_1 : Int), v7 = .int .i64 x7_1 ∧ v8 = .int .i64 x8_1 ∧ Aside0 (spec_sum.l0 kq l0 l1 ji4 x6_1 x7_1 x8_1 = some r) ∧ Aside0 (kq ≤ k) ∧ Aside0 (Kd.R (Kd.int .u8) 5 w' w.heap.size (fun _ => True) v203 x6_1) ∧ Aside0 (Below w.heap.size w w'))
      case atStart => exact ⟨(y202), (0), (0), (by first | rfl | (simp; done) | (simp [*]; done)), (by first | rfl | (simp; done) | (simp [*]; done)), H', ⟨Nat.le_refl _⟩, ⟨by (with_reducible repeat (first | apply Kd.R_alloc | apply Kd.R_drewN | apply Kd.R_drew)); exact HO204.out⟩, ⟨by repeat (first | (with_reducible first | exact HB.out | apply below_alloc | apply pw_below_drewN | apply below_drew1) | exact HB.out)⟩⟩
      case round =>
        clear H'
        try clear c1
        try clear p2
        try clear c4
        try clear c5
        try clear c5b0
        try clear c5b1
        try clear c6
        try clear c6b0
        try clear c6b1
        try clear p6
        obtain ⟨x6_1, x7_1, x8_1, rfl, rfl, HA, HK1, HO_6, HB⟩ := hrel
        cases gk with
        | zero => exact absurd HA.out (by simp [spec_sum.l0])
        | succ k1 =>
          have H := HA.out
          clear HA
          simp only [spec_sum.l0] at H
          by_cases c9 : x8_1 < ji4
          · rw [if_pos c9] at H
            have c9b0 : decide (x8_1 < ji4) = true := decide_eq_true c9
            clear c9
            replace H := Option.bind_eq_some_iff.mp H
            obtain ⟨t205, A100, H⟩ := H
            replace H : ((spec_digit.f l1 x8_1).bind fun t206 => (if 0 ≤ (wrap64 ((wrap64 (ji4 - 1)) - x8_1)) then (if (wrap64 ((wrap64 (ji4 - 1)) - x8_1)) < (x6_1.length : Int) then (spec_sum.l0 k1 l0 l1 ji4 (x6_1.set ((wrap64 ((wrap64 (ji4 - 1)) - x8_1)) : Int).toNat ((Int.tmod (wrap64 ((wrap64 (t205 + t206)) + x7_1)) 256) % 256)) (wrap64 (Int.tdiv (wrap64 ((wrap64 (t205 + t206)) + x7_1)) 256)) (wrap64 (x8_1 + 1))) else (none)) else (none))) = some r := H
            have A10 := Aside0.mk A100
            clear A100
            replace H := Option.bind_eq_some_iff.mp H
            obtain ⟨t206, A110, H⟩ := H
            replace H : (if 0 ≤ (wrap64 ((wrap64 (ji4 - 1)) - x8_1)) then (if (wrap64 ((wrap64 (ji4 - 1)) - x8_1)) < (x6_1.length : Int) then (spec_sum.l0 k1 l0 l1 ji4 (x6_1.set ((wrap64 ((wrap64 (ji4 - 1)) - x8_1)) : Int).toNat ((Int.tmod (wrap64 ((wrap64 (t205 + t206)) + x7_1)) 256) % 256)) (wrap64 (Int.tdiv (wrap64 ((wrap64 (t205 + t206)) + x7_1)) 256)) (wrap64 (x8_1 + 1))) else (none)) else (none)) = some r := H
            have A11 := Aside0.mk A110
            clear A110
            obtain ⟨ji12, hji12⟩ : ∃ j_ : Int, (wrap64 ((wrap64 (ji4 - 1)) - x8_1)) = j_ := ⟨_, rfl⟩
            replace H : (if 0 ≤ (ji12) then (if (ji12) < (x6_1.length : Int) then (spec_sum.l0 k1 l0 l1 ji4 (x6_1.set ((ji12) : Int).toNat ((Int.tmod (wrap64 ((wrap64 (t205 + t206)) + x7_1)) 256) % 256)) (wrap64 (Int.tdiv (wrap64 ((wrap64 (t205 + t206)) + x7_1)) 256)) (wrap64 (x8_1 + 1))) else (none)) else (none)) = some r := by first | (rw [hji12] at H; exact H) | (simp only [hji12] at H ⊢; exact H)
            (try rw [hji12] at A10)
            (try rw [hji12] at A11)
            have hji12w : (IntKind.i64.wrap ((wrap64 (ji4 - 1)) - x8_1)) = ji12 := (i64_w _).trans hji12
            by_cases c13 : 0 ≤ (ji12)
            · rw [if_pos c13] at H
              have c13b0 : decide (0 ≤ (ji12)) = true := decide_eq_true c13
              clear c13
              by_cases c14 : (ji12) < (x6_1.length : Int)
              · rw [if_pos c14] at H
                have c14b0 : decide ((ji12) < (x6_1.length : Int)) = true := decide_eq_true c14
                clear c14
                obtain ⟨y207, hy207⟩ : ∃ y_ : List Int, y_ = (x6_1.set ((ji12) : Int).toNat ((Int.tmod (wrap64 ((wrap64 (t205 + t206)) + x7_1)) 256) % 256)) := ⟨_, rfl⟩
                replace H : (spec_sum.l0 k1 l0 l1 ji4 y207 (wrap64 (Int.tdiv (wrap64 ((wrap64 (t205 + t206)) + x7_1)) 256)) (wrap64 (x8_1 + 1))) = some r := by first | (rw [hy207]; with_reducible exact H) | (have H2_ := (Option.bind_some _ _).symm.trans H; rw [hy207]; with_reducible exact H2_) | (have H2_ := (Option.bind_some _ _).symm.trans H; with_reducible exact H2_) | with_reducible exact H | (rw [hy207]; exact H) | exact H
                have Ny207 := Aside0.mk hy207
                clear hy207
                have H' := Aside0.mk H
                clear H
                go_wp2_with (first | ((with_reducible refine gate_callee (f := 35) rfl ?_); refine goesL_ (some 25) rfl rfl Tryz.func35 (by kernel_rfl) rfl #[.slice A0 l0.length c0, .int .i64 x8_1] rfl (by (try simp only [List.map_toArray, List.map_cons, List.map_nil]); first | done | rfl | (simp only [List.length_drop, List.length_take]; rfl)) ?_; (with_reducible refine (spec_digit.calls _ _ l0 x8_1 t205 _ ?side1 ?side2 A10.out).mono ?_); (case side1 => repeat (first | exact (Kd.C_below HR0.out HB.out) | (with_reducible refine Kd.C_alloc ?_ _) | (with_reducible refine Kd.C_drewN ?_ _) | (with_reducible refine Kd.C_drew ?_))); (case side2 => exact HC0.out); rintro e w' ⟨rfl, ⟨nd, rfl⟩⟩; refine ⟨_, rfl, ?_⟩; (try (rw [drewN_self wr]; generalize hq_ : World.drewN wr _ = wr; have n0_ : Aside0 (Kd.R (Kd.int .u8) 5 wr w.heap.size (fun _ => True) v203 x6_1) := ⟨by rw [← hq_]; exact (by (with_reducible repeat (first | apply Kd.R_alloc | apply Kd.R_drewN | apply Kd.R_drew)); exact HO_6.out)⟩; have n1_ : Aside0 (Below w.heap.size w wr) := ⟨by rw [← hq_]; exact (by repeat (first | (with_reducible first | exact HB.out | apply below_alloc | apply pw_below_drewN | apply below_drew1) | exact HB.out))⟩; clear HO_6 HB hq_; have HO_6 := n0_; have HB := n1_; clear n0_ n1_))) | ((with_reducible refine gate_callee (f := 35) rfl ?_); refine goesL_ (some 28) rfl rfl Tryz.func35 (by kernel_rfl) rfl #[.slice A1 l1.length c1, .int .i64 x8_1] rfl (by (try simp only [List.map_toArray, List.map_cons, List.map_nil]); first | done | rfl | (simp only [List.length_drop, List.length_take]; rfl)) ?_; (with_reducible refine (spec_digit.calls _ _ l1 x8_1 t206 _ ?side1 ?side2 A11.out).mono ?_); (case side1 => repeat (first | exact (Kd.C_below HR1.out HB.out) | (with_reducible refine Kd.C_alloc ?_ _) | (with_reducible refine Kd.C_drewN ?_ _) | (with_reducible refine Kd.C_drew ?_))); (case side2 => exact HC1.out); rintro e w' ⟨rfl, ⟨nd, rfl⟩⟩; refine ⟨_, rfl, ?_⟩; (try (rw [drewN_self wr]; generalize hq_ : World.drewN wr _ = wr; have n0_ : Aside0 (Kd.R (Kd.int .u8) 5 wr w.heap.size (fun _ => True) v203 x6_1) := ⟨by rw [← hq_]; exact (by (with_reducible repeat (first | apply Kd.R_alloc | apply Kd.R_drewN | apply Kd.R_drew)); exact HO_6.out)⟩; have n1_ : Aside0 (Below w.heap.size w wr) := ⟨by rw [← hq_]; exact (by repeat (first | (with_reducible first | exact HB.out | apply below_alloc | apply pw_below_drewN | apply below_drew1) | exact HB.out))⟩; clear HO_6 HB hq_; have HO_6 := n0_; have HB := n1_; clear n0_ n1_)); have p15 : 0 ≤ ((ji12) : Int) := of_decide_eq_true (by first | (with_reducible assumption) | assumption); have q15 : ((ji12) : Int) < ((x6_1.length : Int) : Int) := of_decide_eq_true (by first | (with_reducible assumption) | assumption); obtain ⟨go15, co15, eo15, gb15, gl15, cl15, HG15⟩ := Kd.R_form HO_6.out (by omega); (first | cases eo15 | (injection eo15 with ea_ en_ ec_; (first | subst ea_ | (injection ea_ with ea_; subst ea_)); subst ec_; clear en_)); have GB15 := Aside0.mk gb15; have GG15 := Aside0.mk HG15; clear gb15 gl15 HG15; obtain ⟨hx15_0, hf15_0⟩ := Kd.R_celln 0 HO_6.out ((ji12) : Int) p15 q15; replace p15 := eq_true p15; replace q15 := eq_true q15; obtain ⟨hy16_, hz16_⟩ := Kd.R_celln 0 HO_6.out ((ji12) : Int) (of_decide_eq_true (by first | (with_reducible assumption) | assumption)) (of_decide_eq_true (by first | (with_reducible assumption) | assumption)); have HP16 := Kd.R_putg HO_6.out ((ji12) : Int) ((Int.tmod (wrap64 ((wrap64 (t205 + t206)) + x7_1)) 256) % 256)) | ((with_reducible refine gate_store (t := 5) (p := 40) rfl ?_); refine store_event (t := 5) (p := 40) (v := ?vo_w17) (w1 := (wr.setCell ⟨go15, ((ji12) : Int).toNat, none⟩ (.int .u8 ((Int.tmod (wrap64 ((wrap64 (t205 + t206)) + x7_1)) 256) % 256)))) ?hg ?ho ?hn ?hr ?_; (case ho => rfl); (case hg => rfl); (case hn => rfl); (case hr => first | (go_simp; done) | (go_simp; rfl)); intro w17 hw; have hg : wr.grownBy w17 (some go15) := (by rw [hw]; exact HP16.2); have hp_ : Kd.R (Kd.int .u8) 5 w17 w.heap.size (fun _ => True) (.slice (some ⟨go15, 0, none⟩) x6_1.length co15) y207 := (by rw [hw, Ny207.out]; exact HP16.1); clear HP16; have n0_ := Aside0.mk (hp_); have n1_ := Aside0.mk ((by rw [hw]; exact below_set (HB.out) GB15.out : Below w.heap.size w w17)); clear HO_6; clear HB; have HO_6 := n0_; have HB := n1_; clear n0_ n1_; clear hg hw hp_))
                go_roundg k1
                case measure => have := HK1.out; omega
                case rel => exact ⟨(y207), (wrap64 (Int.tdiv (wrap64 ((wrap64 (t205 + t206)) + x7_1)) 256)), (wrap64 (x8_1 + 1)), (by first | rfl | (simp; done) | (simp [*]; done)), (by first | rfl | (simp; done) | (simp [*]; done)), H', ⟨by have := HK1.out; omega⟩, ⟨by (with_reducible repeat (first | apply Kd.R_alloc | apply Kd.R_drewN | apply Kd.R_drew)); exact HO_6.out⟩, ⟨by repeat (first | (with_reducible first | exact HB.out | apply below_alloc | apply pw_below_drewN | apply below_drew1) | exact HB.out)⟩⟩
              · rw [if_neg c14] at H
                exact absurd H (by simp)
            · rw [if_neg c13] at H
              exact absurd H (by simp)
          · rw [if_neg c9] at H
            have c9b0 : decide (x8_1 < ji4) = false := decide_eq_false c9
            clear c9
            replace H := Option.bind_eq_some_iff.mp H
            obtain ⟨t208, A180, H⟩ := H
            replace H : (some t208) = some r := H
            have A18 := Aside0.mk A180
            clear A180
            obtain rfl := Option.some.inj H
            obtain ⟨Ao19, co19, eo19⟩ := Kd.R_slice HO_6.out
            subst eo19
            go_wp2_with (first | ((with_reducible refine gate_callee (f := 32) rfl ?_); refine goesL_ (some 44) rfl rfl Tryz.func32 (by kernel_rfl) rfl #[.slice Ao19 x6_1.length co19] rfl (by (try simp only [List.map_toArray, List.map_cons, List.map_nil]); first | done | rfl | (simp only [List.length_drop, List.length_take]; rfl)) ?_; (with_reducible refine (spec_cut.calls k1 _ _ x6_1 t208 _ ?side1 ?side2 A18.out).mono ?_); (case side1 => repeat (first | exact (Kd.R_reads' HO_6.out).2.2 | (with_reducible refine Kd.C_alloc ?_ _) | (with_reducible refine Kd.C_drewN ?_ _) | (with_reducible refine Kd.C_drew ?_))); (case side2 => exact (Kd.R_reads' HO_6.out).2.1); rintro e w20 ⟨v209, rfl, ho0, hb⟩; refine ⟨_, rfl, ?_⟩; have n0_ := Aside0.mk (Kd.R_elder' (by (with_reducible repeat (first | apply Kd.R_alloc | apply Kd.R_drewN | apply Kd.R_drew)); exact HO_6.out) (Kd.R_base ho0) hb); have n1_ := Aside0.mk (Kd.R_lower (Kd.R_new' ho0 (Kd.R_lt (by (with_reducible repeat (first | apply Kd.R_alloc | apply Kd.R_drewN | apply Kd.R_drew)); exact HO_6.out))) (below_size (by repeat (first | (with_reducible first | exact HB.out | apply below_alloc | apply pw_below_drewN | apply below_drew1) | exact HB.out)))); have n2_ := Aside0.mk (below_step (by repeat (first | (with_reducible first | exact HB.out | apply below_alloc | apply pw_below_drewN | apply below_drew1) | exact HB.out)) hb); clear HO_6; clear HB; have HO_6 := n0_; have HO210 := n1_; have HB := n2_; clear n0_ n1_ n2_; (try clear hb); (try clear hb2); (try clear hk); (try clear hi); (try clear ho0)))
            go_ret
            exact ⟨_, by first | rfl | (simp [errW_none, errW_some] <;> rfl) | (simp only [← hji3, ← hji4]; first | rfl | (simp [errW_none, errW_some] <;> rfl)) | (simp [*, errW_none, errW_some] <;> rfl), by (with_reducible repeat (first | apply Kd.R_alloc | apply Kd.R_drewN | apply Kd.R_drew)); exact Kd.R_mono HO210.out (fun _ hk => trivial), by repeat (first | (with_reducible first | exact HB.out | apply below_alloc | apply pw_below_drewN | apply below_drew1) | exact HB.out)⟩
    · rw [if_neg c6] at H
      exact absurd H (by simp)
  · rw [if_neg c5] at H
    exact absurd H (by simp)
end Go.Proofs.YtdbjoiojiibdgaaGreatDoor.PFixed
