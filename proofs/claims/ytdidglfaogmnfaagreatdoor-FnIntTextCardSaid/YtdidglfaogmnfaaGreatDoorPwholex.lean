import Derived.Test.YtdidglfaogmnfaaGreatDoorProg
import Derived.Below
import Derived.Deep.Draws
import Derived.Deep.AppendLies
import Derived.Maps.AppendAt
import Derived.OwnWalk
import Derived.Laws.BytesArg
import Derived.Laws.MakeOwn
import Derived.Laws.OwnMore
import Derived.Deep.OwnRows
import Derived.Tactics
import Derived.Lib.ConvBytes
import Derived.Laws.Slices
import Derived.WalkKit
import Derived.KernelRfl
import Derived.RowKit3
import Derived.Deep.LoopGhost
import Derived.Deep.QuietTactic
import Derived.BigQuiet
import Derived.WideLaws
import Derived.Deep.DeepCutAuto
import Derived.Deep.CutBlock
import Derived.Deep.RegionHeld3
import Derived.Laws.Rows
import Derived.Lib.AppendStr
import Derived.ArgAppend
import Derived.Laws.IdiomCopy
import Derived.OrdersHeld
import Derived.Laws.BitsLemmas
import Derived.RowKit
import Derived.Test.YtdidglfaogmnfaaGreatDoorWWords
import Derived.Test.YtdidglfaogmnfaaGreatDoorWLast
namespace Go.Proofs.YtdidglfaogmnfaaGreatDoor.Pwhole
open Go.RowKit Go.Proofs.YtdidglfaogmnfaaGreatDoorW.PrintWords Go.Proofs.YtdidglfaogmnfaaGreatDoorW.PrintLast Go.Proofs.YtdidglfaogmnfaaGreatDoorW.PrintMore
attribute [local go_sem] max2_int min2_int max_two min_two max_three min_three max_four min_four
set_option linter.unusedVariables false
set_option linter.unusedSimpArgs false
def errW : Option Int → Value
  | none => .nilIface
  | some c => .iface 0 (.int .i64 c)
theorem errW_none : errW none = .nilIface := rfl
theorem errW_some (c : Int) : errW (some c) = .iface 0 (.int .i64 c) := rfl
theorem info5 : (Tryz.prog.info? 5).map (fun i => (i.zero, i.size, i.bytes)) = some (some (.int .u8 0), 1, 1) := by kernel_rfl
def rd_L3 (xs : List (List Int)) (i : Int) : (List Int) := xs.getD i.toNat ([] : List Int)
theorem at_L3 {w : World} {A : Option Addr} {n : Nat} {xs : List (List Int)} (h : Kd.C (Kd.slice 5 (Kd.int .u8)) w A n xs) (i : Int) (h0 : 0 ≤ i) (h1 : i < n) : ∃ ad A0 c0, A = some ad ∧ w.cell? (ad.add i.toNat) = some (.slice A0 (rd_L3 xs i).length c0) ∧ (rd_L3 xs i).length ≤ c0 ∧ (Kd.int .u8).C w A0 (rd_L3 xs i).length (rd_L3 xs i) := by
  obtain ⟨ad, c, e, _, hK, hc0⟩ := Kd.C_get h ([] : List Int) i h0 h1
  have hc : ∀ j u, c[j]? = some u → w.cell? (ad.add (i.toNat * 1 + j)) = some u := hc0
  obtain ⟨A0, c0, rfl, l0, g0⟩ := hK
  exact ⟨ad, A0, c0, e, by have hq := hc 0 _ rfl; rwa [Nat.mul_one, Nat.add_zero] at hq, l0, g0⟩
structure S28 where
  f0 : Int
  f1 : Bool
  f2 : (List Int)
  f3 : Int
  f4 : ByteArray
  f5 : (List S28)
def z28 : S28 := ⟨(0 : Int), false, ([] : List Int), (0 : Int), (⟨#[]⟩ : ByteArray), ([] : List S28)⟩
def F28 (d : Kd S28) : Kd S28 := Kd.iso (Kd.pair (Kd.int .i64) (Kd.pair Kd.bool (Kd.pair (Kd.slice 5 (Kd.int .u8)) (Kd.pair (Kd.int .u64) (Kd.pair Kd.string (Kd.slice 28 d)))))) (fun x : S28 => (x.f0, x.f1, x.f2, x.f3, x.f4, x.f5))
theorem mono28 : Kd.Mono F28 := Kd.mono_iso _ (Kd.mono_pair (Kd.mono_const _) (Kd.mono_pair (Kd.mono_const _) (Kd.mono_pair (Kd.mono_const _) (Kd.mono_pair (Kd.mono_const _) (Kd.mono_pair (Kd.mono_const _) (Kd.mono_slice 28 Kd.mono_id))))))
theorem sub28 : Kd.Sub F28 [5, 28] := Kd.sub_iso _ (Kd.sub_pair (Kd.sub_const _ (by decide)) (Kd.sub_pair (Kd.sub_const _ (by decide)) (Kd.sub_pair (Kd.sub_const _ (by decide)) (Kd.sub_pair (Kd.sub_const _ (by decide)) (Kd.sub_pair (Kd.sub_const _ (by decide)) (Kd.sub_slice 28 (by decide) Kd.sub_id))))))
theorem sz28 : ∀ n, (Kd.upto F28 6 [5, 28] n).sz = 6 := Kd.upto_sz (fun _ => rfl)
def k28 : Kd S28 := Kd.fix F28 6 [5, 28] sz28 (Kd.upto_E sub28)
theorem k28_open {w : World} {x : S28} {cs : List Value} (h : k28.K w x cs) : ∃ A2 c2 A5 c5, cs = [.int .i64 x.f0, .bool x.f1, .slice A2 x.f2.length c2, .int .u64 x.f3, .string x.f4, .slice A5 x.f5.length c5] ∧ x.f2.length ≤ c2 ∧ (Kd.int .u8).C w A2 x.f2.length x.f2 ∧ x.f5.length ≤ c5 ∧ k28.C w A5 x.f5.length x.f5 := by
  obtain ⟨n, h⟩ := h
  cases n with
  | zero => exact h.elim
  | succ n =>
    obtain ⟨_, _, rfl, rfl, ⟨_, _, rfl, rfl, ⟨_, _, rfl, ⟨A2, c2, rfl, l2, g2⟩, ⟨_, _, rfl, rfl, ⟨_, _, rfl, rfl, ⟨A5, c5, rfl, l5, g5⟩⟩⟩⟩⟩⟩ := h
    exact ⟨A2, c2, A5, c5, rfl, l2, g2, l5, Kd.fix_C g5⟩
theorem k28_openM {w : World} {base : Nat} {ok : Nat → Prop} {x : S28} {cs : List Value} (h : k28.M w base ok x cs) : ∃ v2 v5, cs = [.int .i64 x.f0, .bool x.f1, v2, .int .u64 x.f3, .string x.f4, v5] ∧ (Kd.int .u8).R 5 w base ok v2 x.f2 ∧ k28.R 28 w base ok v5 x.f5 := by
  obtain ⟨n, h⟩ := h
  cases n with
  | zero => exact h.elim
  | succ n =>
    obtain ⟨_, _, rfl, rfl, ⟨_, _, rfl, rfl, ⟨_, _, rfl, ⟨v2, rfl, g2⟩, ⟨_, _, rfl, rfl, ⟨_, _, rfl, rfl, ⟨v5, rfl, g5⟩⟩⟩⟩⟩⟩ := h
    exact ⟨v2, v5, rfl, g2, Kd.fix_R g5⟩
theorem k28_mk (w : World) (x : S28) {A2 : Option Addr} {c2 : Nat} (l2 : x.f2.length ≤ c2) (g2 : (Kd.int .u8).C w A2 x.f2.length x.f2) {A5 : Option Addr} {c5 : Nat} (l5 : x.f5.length ≤ c5) (g5 : k28.C w A5 x.f5.length x.f5) : k28.K w x [.int .i64 x.f0, .bool x.f1, .slice A2 x.f2.length c2, .int .u64 x.f3, .string x.f4, .slice A5 x.f5.length c5] := by
  obtain ⟨n5, q5⟩ := Kd.fix_C_back mono28 g5
  have r5 := Kd.upto_C_le mono28 sz28 (show n5 ≤ n5 by omega) q5
  exact ⟨n5 + 1, ⟨[.int .i64 x.f0], [.bool x.f1, .slice A2 x.f2.length c2, .int .u64 x.f3, .string x.f4, .slice A5 x.f5.length c5], rfl, rfl, ⟨[.bool x.f1], [.slice A2 x.f2.length c2, .int .u64 x.f3, .string x.f4, .slice A5 x.f5.length c5], rfl, rfl, ⟨[.slice A2 x.f2.length c2], [.int .u64 x.f3, .string x.f4, .slice A5 x.f5.length c5], rfl, ⟨A2, c2, rfl, l2, g2⟩, ⟨[.int .u64 x.f3], [.string x.f4, .slice A5 x.f5.length c5], rfl, rfl, ⟨[.string x.f4], [.slice A5 x.f5.length c5], rfl, rfl, ⟨A5, c5, rfl, l5, r5⟩⟩⟩⟩⟩⟩⟩
theorem k28_mkM (w : World) (base : Nat) (ok : Nat → Prop) (x : S28) {v2 : Value} (g2 : (Kd.int .u8).R 5 w base ok v2 x.f2) {v5 : Value} (g5 : k28.R 28 w base ok v5 x.f5) : k28.M w base ok x [.int .i64 x.f0, .bool x.f1, v2, .int .u64 x.f3, .string x.f4, v5] := by
  obtain ⟨n5, q5⟩ := Kd.fix_R_back mono28 g5
  have r5 := Kd.upto_R_le mono28 sz28 (show n5 ≤ n5 by omega) q5
  exact ⟨n5 + 1, ⟨[.int .i64 x.f0], [.bool x.f1, v2, .int .u64 x.f3, .string x.f4, v5], rfl, rfl, ⟨[.bool x.f1], [v2, .int .u64 x.f3, .string x.f4, v5], rfl, rfl, ⟨[v2], [.int .u64 x.f3, .string x.f4, v5], rfl, ⟨v2, rfl, g2⟩, ⟨[.int .u64 x.f3], [.string x.f4, v5], rfl, rfl, ⟨[.string x.f4], [v5], rfl, rfl, ⟨v5, rfl, r5⟩⟩⟩⟩⟩⟩⟩
def rd_T28 (xs : List S28) (i : Int) : S28 := xs.getD i.toNat z28
theorem at_T28 {w : World} {A : Option Addr} {n : Nat} {xs : List S28} (h : Kd.C k28 w A n xs) (i : Int) (h0 : 0 ≤ i) (h1 : i < n) : ∃ ad A2 c2 A5 c5, A = some ad ∧ w.cell? (ad.add (i.toNat * 6)) = some (.int .i64 (rd_T28 xs i).f0) ∧ w.cell? ⟨(ad.add (i.toNat * 6)).block, (ad.add (i.toNat * 6)).off + 1, none⟩ = some (.bool (rd_T28 xs i).f1) ∧ w.cell? ⟨(ad.add (i.toNat * 6)).block, (ad.add (i.toNat * 6)).off + 2, none⟩ = some (.slice A2 (rd_T28 xs i).f2.length c2) ∧ w.cell? ⟨(ad.add (i.toNat * 6)).block, (ad.add (i.toNat * 6)).off + 3, none⟩ = some (.int .u64 (rd_T28 xs i).f3) ∧ w.cell? ⟨(ad.add (i.toNat * 6)).block, (ad.add (i.toNat * 6)).off + 4, none⟩ = some (.string (rd_T28 xs i).f4) ∧ w.cell? ⟨(ad.add (i.toNat * 6)).block, (ad.add (i.toNat * 6)).off + 5, none⟩ = some (.slice A5 (rd_T28 xs i).f5.length c5) ∧ (rd_T28 xs i).f2.length ≤ c2 ∧ (Kd.int .u8).C w A2 (rd_T28 xs i).f2.length (rd_T28 xs i).f2 ∧ (rd_T28 xs i).f5.length ≤ c5 ∧ k28.C w A5 (rd_T28 xs i).f5.length (rd_T28 xs i).f5 := by
  obtain ⟨ad, c, e, _, hK, hc0⟩ := Kd.C_get h z28 i h0 h1
  have hc : ∀ j u, c[j]? = some u → w.cell? (ad.add (i.toNat * 6 + j)) = some u := hc0
  obtain ⟨A2, c2, A5, c5, rfl, l2, g2, l5, g5⟩ := k28_open hK
  exact ⟨ad, A2, c2, A5, c5, e, hc 0 _ rfl, by rw [← add_field _ _ 1 (by omega)]; exact hc 1 _ rfl, by rw [← add_field _ _ 2 (by omega)]; exact hc 2 _ rfl, by rw [← add_field _ _ 3 (by omega)]; exact hc 3 _ rfl, by rw [← add_field _ _ 4 (by omega)]; exact hc 4 _ rfl, by rw [← add_field _ _ 5 (by omega)]; exact hc 5 _ rfl, l2, g2, l5, g5⟩
end Go.Proofs.YtdidglfaogmnfaaGreatDoor.Pwhole
namespace Go.Proofs.YtdidglfaogmnfaaGreatDoor.Pwhole
open Go.RowKit Go.Proofs.YtdidglfaogmnfaaGreatDoorW.PrintWords Go.Proofs.YtdidglfaogmnfaaGreatDoorW.PrintLast Go.Proofs.YtdidglfaogmnfaaGreatDoorW.PrintMore
attribute [local go_sem] max2_int min2_int max_two min_two max_three min_three max_four min_four
set_option linter.unusedVariables false
set_option linter.unusedSimpArgs false
def spec_cut.l0 : Nat → List Int → Int → Option (List Int)
  | 0, _, _ => none
  | k + 1, x0, x3 => if x3 < (x0.length : Int) then (if 0 ≤ x3 then (if (rd x0 x3) = 0 then (spec_cut.l0 k x0 (wrap64 (x3 + 1))) else ((some (([] : List Int) : List Int)).bind fun y102 => (if x3 ≤ (x0.length : Int) then (if y102.length + (x0.drop (x3 : Int).toNat).length < 140737488355328 then (some (y102 ++ (x0.drop (x3 : Int).toNat))) else (none)) else (none)))) else (none)) else ((some (([] : List Int) : List Int)).bind fun y109 => (if 0 ≤ x3 then (if x3 ≤ (x0.length : Int) then (if y109.length + (x0.drop (x3 : Int).toNat).length < 140737488355328 then (some (y109 ++ (x0.drop (x3 : Int).toNat))) else (none)) else (none)) else (none)))
def spec_cut.f (k : Nat) (l0 : List Int) : Option (List Int) := spec_cut.l0 k l0 0
theorem spec_cut.mono_l : ∀ k, (∀ y0 y1, LeO (spec_cut.l0 k y0 y1) (spec_cut.l0 (k + 1) y0 y1))
  | 0 => fun _ _ r h => by simp [spec_cut.l0] at h
  | k + 1 => by
    have ih0 := spec_cut.mono_l k
    · intro y0 y1
      unfold spec_cut.l0
      repeat' first
      | (with_reducible exact ih0 _ _)
      | (with_reducible exact LeO.refl _)
      | (with_reducible exact LeO.none _)
      | (with_reducible refine LeO.ite ?_ ?_)
      | (with_reducible refine LeO.bind ?_ (fun _ => ?_))
      | exact ih0 _ _
      | exact LeO.none _
      | refine LeO.ite ?_ ?_
      | refine LeO.bind ?_ (fun _ => ?_)
theorem spec_cut.mono : ∀ a0 k, LeO (spec_cut.f k a0) (spec_cut.f (k + 1) a0) := by
  intro a0 k
  have ih0 := spec_cut.mono_l k
  unfold spec_cut.f
  repeat' first
      | (with_reducible exact ih0 _ _)
      | (with_reducible exact LeO.refl _)
      | (with_reducible exact LeO.none _)
      | (with_reducible refine LeO.ite ?_ ?_)
      | (with_reducible refine LeO.bind ?_ (fun _ => ?_))
      | exact ih0 _ _
      | exact LeO.none _
      | refine LeO.ite ?_ ?_
      | refine LeO.bind ?_ (fun _ => ?_)
set_option maxHeartbeats 8000000 in
set_option maxRecDepth 100000 in
theorem spec_cut.calls (k : Nat) (A0 : Option Addr) (c0 : Nat) (l0 : List Int) (r : List Int) (w : World) (hr0 : Kd.C (Kd.int .u8) w A0 l0.length l0) (hc0 : l0.length ≤ c0) (h : spec_cut.f k l0 = some r) :
    Calls Tryz.prog 12 #[.slice A0 l0.length c0] w fun e w' => ∃ v0_ : Value, e = .returned (v0_) ∧ Kd.R (Kd.int .u8) 5 w' w.heap.size (fun _ => True) v0_ r ∧ Below w.heap.size w w' := by
  have HR0 := Aside0.mk hr0
  have HC0 := Aside0.mk hc0
  clear hr0 hc0
  have HB := Aside0.mk (Below.refl w.heap.size w)
  have H : (spec_cut.l0 k l0 0) = some r := h
  clear h
  have H' := Aside0.mk H
  clear H
  go_enter Tryz.func12, Tryz.ntmps12
  go_wp2
  go_loopg [3] k (fun kq v3 w' => ∃ (x3_1 : Int), v3 = .int .i64 x3_1 ∧ Aside0 (spec_cut.l0 kq l0 x3_1 = some r) ∧ Aside0 (kq ≤ k) ∧ Aside0 (Below w.heap.size w w'))
  case atStart => exact ⟨(0), (by first | rfl | (simp; done) | (simp [*]; done)), H', ⟨Nat.le_refl _⟩, ⟨by repeat (first | (with_reducible first | exact HB.out | apply below_alloc | apply pw_below_drewN | apply below_drew1) | exact HB.out)⟩⟩
  case round =>
    clear H'
    try clear c1
    obtain ⟨x3_1, rfl, HA, HK1, HB⟩ := hrel
    cases gk with
    | zero => exact absurd HA.out (by simp [spec_cut.l0])
    | succ k1 =>
      have H := HA.out
      clear HA
      simp only [spec_cut.l0] at H
      by_cases c2 : x3_1 < (l0.length : Int)
      · rw [if_pos c2] at H
        have c2b0 : decide (x3_1 < (l0.length : Int)) = true := decide_eq_true c2
        clear c2
        by_cases c3 : 0 ≤ x3_1
        · rw [if_pos c3] at H
          have c3b0 : decide (0 ≤ x3_1) = true := decide_eq_true c3
          clear c3
          by_cases c4 : (rd l0 x3_1) = 0
          · rw [if_pos c4] at H
            have c4b0 : ((rd l0 x3_1) == 0) = true := beq_iff_eq.mpr c4
            have c4b1 : ((rd l0 x3_1) != 0) = false := bne_eq_false_iff_eq.mpr c4
            clear c4
            have H' := Aside0.mk H
            clear H
            have p101 : 0 ≤ (x3_1 : Int) := of_decide_eq_true (by first | (with_reducible assumption) | assumption)
            have q101 : x3_1 < (l0.length : Int) := of_decide_eq_true (by first | (with_reducible assumption) | assumption)
            obtain ⟨ad101, e101, hx101_0⟩ := Kd.at_int HR0.out x3_1 p101 q101
            cases e101
            replace hx101_0 := (HB.out.cell (World.block_lt_of_cell? w _ hx101_0)).trans hx101_0
            replace p101 := eq_true p101
            replace q101 := eq_true q101
            go_wp2
            go_roundg k1
            case measure => have := HK1.out; omega
            case rel => exact ⟨(wrap64 (x3_1 + 1)), (by first | rfl | (simp; done) | (simp [*]; done)), H', ⟨by have := HK1.out; omega⟩, ⟨by repeat (first | (with_reducible first | exact HB.out | apply below_alloc | apply pw_below_drewN | apply below_drew1) | exact HB.out)⟩⟩
          · rw [if_neg c4] at H
            have c4b0 : ((rd l0 x3_1) == 0) = false := beq_eq_false_iff_ne.mpr c4
            have c4b1 : ((rd l0 x3_1) != 0) = true := bne_iff_ne.mpr c4
            obtain ⟨y102, hy102⟩ : ∃ y_ : List Int, y_ = (([] : List Int)) := ⟨_, rfl⟩
            replace H : (if x3_1 ≤ (l0.length : Int) then (if y102.length + (l0.drop (x3_1 : Int).toNat).length < 140737488355328 then (some (y102 ++ (l0.drop (x3_1 : Int).toNat))) else (none)) else (none)) = some r := by first | (rw [hy102]; with_reducible exact H) | (have H2_ := (Option.bind_some _ _).symm.trans H; rw [hy102]; with_reducible exact H2_) | (have H2_ := (Option.bind_some _ _).symm.trans H; with_reducible exact H2_) | with_reducible exact H | (rw [hy102]; exact H) | exact H
            have Ny102 := Aside0.mk hy102
            clear hy102
            have c5b0 := eq_true (of_decide_eq_true (by first | (with_reducible assumption) | assumption) : 0 ≤ x3_1)
            by_cases c6 : x3_1 ≤ (l0.length : Int)
            · rw [if_pos c6] at H
              have c6b0 := eq_true c6
              have c6b1 : decide (x3_1 ≤ (l0.length : Int)) = true := decide_eq_true c6
              clear c6
              by_cases c7 : y102.length + (l0.drop (x3_1 : Int).toNat).length < 140737488355328
              · rw [if_pos c7] at H
                have LMc7 := Aside0.mk c7
                clear c7
                obtain ⟨y106, hy106⟩ : ∃ y_ : List Int, y_ = (y102 ++ (l0.drop (x3_1 : Int).toNat)) := ⟨_, rfl⟩
                replace H : (some y106) = some r := by first | (rw [hy106]; with_reducible exact H) | (have H2_ := (Option.bind_some _ _).symm.trans H; rw [hy106]; with_reducible exact H2_) | (have H2_ := (Option.bind_some _ _).symm.trans H; with_reducible exact H2_) | with_reducible exact H | (rw [hy106]; exact H) | exact H
                have Ny106 := Aside0.mk hy106
                clear hy106
                obtain rfl := Option.some.inj H
                have p101 : 0 ≤ (x3_1 : Int) := of_decide_eq_true (by first | (with_reducible assumption) | assumption)
                have q101 : x3_1 < (l0.length : Int) := of_decide_eq_true (by first | (with_reducible assumption) | assumption)
                obtain ⟨ad101, e101, hx101_0⟩ := Kd.at_int HR0.out x3_1 p101 q101
                cases e101
                replace hx101_0 := (HB.out.cell (World.block_lt_of_cell? w _ hx101_0)).trans hx101_0
                replace p101 := eq_true p101
                replace q101 := eq_true q101
                go_wp2_with (first | ((with_reducible refine gate_dst (N := 17) rfl ?_); refine Kd.R_lit (Kd.int .u8) _ 5 ?hg (N := 17) ?hd (xs := ([] : List Int)) (inner := []) (ok := fun _ => True) (okp := fun _ => True) ?hr ?hp (fun _ hk => hk) trivial (Below.refl _ _) (Nat.le_refl _) (by simp) ?_; (case hd => rfl); (case hg => rfl); (case hr => first | (go_simp; done) | (go_simp; rfl)); (case hp => exact (Reps.none _ _)); intro v103 w8 ho9 hb hg_ hnew_; clear hg_ hnew_; (first | rw [← Ny102.out] at ho9 | (simp only [Int.reduceToNat] at ho9; rw [← Ny102.out] at ho9)); have n0_ := Aside0.mk (Kd.R_lower ho9 (below_size (by repeat (first | (with_reducible first | exact HB.out | apply below_alloc | apply pw_below_drewN | apply below_drew1) | exact HB.out)))); have n1_ := Aside0.mk (below_step (by repeat (first | (with_reducible first | exact HB.out | apply below_alloc | apply pw_below_drewN | apply below_drew1) | exact HB.out)) hb); clear HB; have HO104 := n0_; have HB := n1_; clear n0_ n1_; clear hb ho9; obtain ⟨i010, hi010, _, hsz10, _⟩ := info_parts info5; obtain ⟨A10, hcut10, hA10, hC10⟩ := print_drop_of (P := Tryz.prog) (Value.int .u8) 0 22 5 .i64 Tryz.underlying22 hi010 hsz10 (some ad101) c0 l0 x3_1 (of_decide_eq_true (by first | (with_reducible assumption) | assumption)) (of_decide_eq_true (by first | (with_reducible assumption) | assumption)) HC0.out; have HR105 := Aside0.mk (Kd.C_of_reads (h1 := fun _ => rfl) (hA10 _ (Kd.reads_of_C HR0.out))); have HC105 := Aside0.mk hC10; clear hA10 hC10 hi010 hsz10) | ((with_reducible refine gate_builtin (b := .append) (xs := #[.tmp 17, .tmp 20]) rfl ?_); at_builtin; refine Kd.R_append_rows (Kd.int .u8) (w0 := w) w.heap.size rfl (.tmp 17) (.tmp 20) 22 5 (.int .u8 0) 1 rfl Tryz.underlying22 info5 rfl (by decide) (by omega) v103 y102 (l0.drop (x3_1 : Int).toNat) _ _ _ (fun _ => True) (fun _ => False) rfl rfl ?aO ?aR (fun _ _ h => h) (fun _ h => h.elim) ?aF ?aB ?aS ?aL ?_; (case aR => first | (rw [← show (l0.drop (x3_1 : Int).toNat).length = (l0.length - x3_1.toNat) from List.length_drop]; repeat (first | exact (Kd.C_below HR105.out HB.out) | (with_reducible refine Kd.C_alloc ?_ _) | (with_reducible refine Kd.C_drewN ?_ _) | (with_reducible refine Kd.C_drew ?_))) | (repeat (first | exact (Kd.C_below HR105.out HB.out) | (with_reducible refine Kd.C_alloc ?_ _) | (with_reducible refine Kd.C_drewN ?_ _) | (with_reducible refine Kd.C_drew ?_)))); (case aB => exact (by repeat (first | (with_reducible first | exact HB.out | apply below_alloc | apply pw_below_drewN | apply below_drew1) | exact HB.out))); (case aF => exact (fun _ _ => trivial)); (case aO => exact (by (with_reducible repeat (first | apply Kd.R_alloc | apply Kd.R_drewN | apply Kd.R_drew)); exact HO104.out)); (case aS => exact (below_size (by repeat (first | (with_reducible first | exact HB.out | apply below_alloc | apply pw_below_drewN | apply below_drew1) | exact HB.out)))); (case aL => have := LMc7.out; have hlx_ := (show (l0.drop (x3_1 : Int).toNat).length = (l0.length - x3_1.toNat) from List.length_drop); omega); intro v107 w11 ho hb hg hat; rw [← Ny106.out] at ho; have n0_ := Aside0.mk (hb); have n1_ := Aside0.mk (ho); clear HB; clear HO104; have HB := n0_; have HO108 := n1_; clear n0_ n1_; clear ho hb hg hat))
                go_ret
                exact ⟨_, by first | rfl | (simp [errW_none, errW_some] <;> rfl) | (simp [*, errW_none, errW_some] <;> rfl), by (with_reducible repeat (first | apply Kd.R_alloc | apply Kd.R_drewN | apply Kd.R_drew)); exact HO108.out, by repeat (first | (with_reducible first | exact HB.out | apply below_alloc | apply pw_below_drewN | apply below_drew1) | exact HB.out)⟩
              · rw [if_neg c7] at H
                exact absurd H (by simp)
            · rw [if_neg c6] at H
              exact absurd H (by simp)
        · rw [if_neg c3] at H
          exact absurd H (by simp)
      · rw [if_neg c2] at H
        have c2b0 : decide (x3_1 < (l0.length : Int)) = false := decide_eq_false c2
        clear c2
        obtain ⟨y109, hy109⟩ : ∃ y_ : List Int, y_ = (([] : List Int)) := ⟨_, rfl⟩
        replace H : (if 0 ≤ x3_1 then (if x3_1 ≤ (l0.length : Int) then (if y109.length + (l0.drop (x3_1 : Int).toNat).length < 140737488355328 then (some (y109 ++ (l0.drop (x3_1 : Int).toNat))) else (none)) else (none)) else (none)) = some r := by first | (rw [hy109]; with_reducible exact H) | (have H2_ := (Option.bind_some _ _).symm.trans H; rw [hy109]; with_reducible exact H2_) | (have H2_ := (Option.bind_some _ _).symm.trans H; with_reducible exact H2_) | with_reducible exact H | (rw [hy109]; exact H) | exact H
        have Ny109 := Aside0.mk hy109
        clear hy109
        by_cases c12 : 0 ≤ x3_1
        · rw [if_pos c12] at H
          have c12b0 := eq_true c12
          have c12b1 : decide (0 ≤ x3_1) = true := decide_eq_true c12
          clear c12
          by_cases c13 : x3_1 ≤ (l0.length : Int)
          · rw [if_pos c13] at H
            have c13b0 := eq_true c13
            have c13b1 : decide (x3_1 ≤ (l0.length : Int)) = true := decide_eq_true c13
            clear c13
            by_cases c14 : y109.length + (l0.drop (x3_1 : Int).toNat).length < 140737488355328
            · rw [if_pos c14] at H
              have LMc14 := Aside0.mk c14
              clear c14
              obtain ⟨y113, hy113⟩ : ∃ y_ : List Int, y_ = (y109 ++ (l0.drop (x3_1 : Int).toNat)) := ⟨_, rfl⟩
              replace H : (some y113) = some r := by first | (rw [hy113]; with_reducible exact H) | (have H2_ := (Option.bind_some _ _).symm.trans H; rw [hy113]; with_reducible exact H2_) | (have H2_ := (Option.bind_some _ _).symm.trans H; with_reducible exact H2_) | with_reducible exact H | (rw [hy113]; exact H) | exact H
              have Ny113 := Aside0.mk hy113
              clear hy113
              obtain rfl := Option.some.inj H
              go_wp2_with (first | ((with_reducible refine gate_dst (N := 17) rfl ?_); refine Kd.R_lit (Kd.int .u8) _ 5 ?hg (N := 17) ?hd (xs := ([] : List Int)) (inner := []) (ok := fun _ => True) (okp := fun _ => True) ?hr ?hp (fun _ hk => hk) trivial (Below.refl _ _) (Nat.le_refl _) (by simp) ?_; (case hd => rfl); (case hg => rfl); (case hr => first | (go_simp; done) | (go_simp; rfl)); (case hp => exact (Reps.none _ _)); intro v110 w15 ho16 hb hg_ hnew_; clear hg_ hnew_; (first | rw [← Ny109.out] at ho16 | (simp only [Int.reduceToNat] at ho16; rw [← Ny109.out] at ho16)); have n0_ := Aside0.mk (Kd.R_lower ho16 (below_size (by repeat (first | (with_reducible first | exact HB.out | apply below_alloc | apply pw_below_drewN | apply below_drew1) | exact HB.out)))); have n1_ := Aside0.mk (below_step (by repeat (first | (with_reducible first | exact HB.out | apply below_alloc | apply pw_below_drewN | apply below_drew1) | exact HB.out)) hb); clear HB; have HO111 := n0_; have HB := n1_; clear n0_ n1_; clear hb ho16; obtain ⟨i017, hi017, _, hsz17, _⟩ := info_parts info5; obtain ⟨A17, hcut17, hA17, hC17⟩ := print_drop_of (P := Tryz.prog) (Value.int .u8) 0 22 5 .i64 Tryz.underlying22 hi017 hsz17 A0 c0 l0 x3_1 (of_decide_eq_true (by first | (with_reducible assumption) | assumption)) (of_decide_eq_true (by first | (with_reducible assumption) | assumption)) HC0.out; have HR112 := Aside0.mk (Kd.C_of_reads (h1 := fun _ => rfl) (hA17 _ (Kd.reads_of_C HR0.out))); have HC112 := Aside0.mk hC17; clear hA17 hC17 hi017 hsz17) | ((with_reducible refine gate_builtin (b := .append) (xs := #[.tmp 17, .tmp 20]) rfl ?_); at_builtin; refine Kd.R_append_rows (Kd.int .u8) (w0 := w) w.heap.size rfl (.tmp 17) (.tmp 20) 22 5 (.int .u8 0) 1 rfl Tryz.underlying22 info5 rfl (by decide) (by omega) v110 y109 (l0.drop (x3_1 : Int).toNat) _ _ _ (fun _ => True) (fun _ => False) rfl rfl ?aO ?aR (fun _ _ h => h) (fun _ h => h.elim) ?aF ?aB ?aS ?aL ?_; (case aR => first | (rw [← show (l0.drop (x3_1 : Int).toNat).length = (l0.length - x3_1.toNat) from List.length_drop]; repeat (first | exact (Kd.C_below HR112.out HB.out) | (with_reducible refine Kd.C_alloc ?_ _) | (with_reducible refine Kd.C_drewN ?_ _) | (with_reducible refine Kd.C_drew ?_))) | (repeat (first | exact (Kd.C_below HR112.out HB.out) | (with_reducible refine Kd.C_alloc ?_ _) | (with_reducible refine Kd.C_drewN ?_ _) | (with_reducible refine Kd.C_drew ?_)))); (case aB => exact (by repeat (first | (with_reducible first | exact HB.out | apply below_alloc | apply pw_below_drewN | apply below_drew1) | exact HB.out))); (case aF => exact (fun _ _ => trivial)); (case aO => exact (by (with_reducible repeat (first | apply Kd.R_alloc | apply Kd.R_drewN | apply Kd.R_drew)); exact HO111.out)); (case aS => exact (below_size (by repeat (first | (with_reducible first | exact HB.out | apply below_alloc | apply pw_below_drewN | apply below_drew1) | exact HB.out)))); (case aL => have := LMc14.out; have hlx_ := (show (l0.drop (x3_1 : Int).toNat).length = (l0.length - x3_1.toNat) from List.length_drop); omega); intro v114 w18 ho hb hg hat; rw [← Ny113.out] at ho; have n0_ := Aside0.mk (hb); have n1_ := Aside0.mk (ho); clear HB; clear HO111; have HB := n0_; have HO115 := n1_; clear n0_ n1_; clear ho hb hg hat))
              go_ret
              exact ⟨_, by first | rfl | (simp [errW_none, errW_some] <;> rfl) | (simp [*, errW_none, errW_some] <;> rfl), by (with_reducible repeat (first | apply Kd.R_alloc | apply Kd.R_drewN | apply Kd.R_drew)); exact HO115.out, by repeat (first | (with_reducible first | exact HB.out | apply below_alloc | apply pw_below_drewN | apply below_drew1) | exact HB.out)⟩
            · rw [if_neg c14] at H
              exact absurd H (by simp)
          · rw [if_neg c13] at H
            exact absurd H (by simp)
        · rw [if_neg c12] at H
          exact absurd H (by simp)
def spec_Of.f (k : Nat) (a0 : Bool) (l1 : List Int) : Option (Bool × List Int) := (spec_cut.f k l1).bind fun t117 => (if a0 = true then (some (decide ((t117.length : Int) > 0), t117)) else (some (false, t117)))
theorem spec_Of.mono : ∀ a0 a1 k, LeO (spec_Of.f k a0 a1) (spec_Of.f (k + 1) a0 a1) := by
  intro a0 a1 k
  unfold spec_Of.f
  repeat' first
      | (with_reducible exact spec_cut.mono _ _)
      | (with_reducible exact LeO.refl _)
      | (with_reducible exact LeO.none _)
      | (with_reducible refine LeO.ite ?_ ?_)
      | (with_reducible refine LeO.bind ?_ (fun _ => ?_))
      | exact spec_cut.mono _ _
      | exact LeO.none _
      | refine LeO.ite ?_ ?_
      | refine LeO.bind ?_ (fun _ => ?_)
set_option maxHeartbeats 8000000 in
set_option maxRecDepth 100000 in
theorem spec_Of.calls (k : Nat) (a0 : Bool) (A1 : Option Addr) (c1 : Nat) (l1 : List Int) (r1 : Bool) (r2 : List Int) (w : World) (hr1 : Kd.C (Kd.int .u8) w A1 l1.length l1) (hc1 : l1.length ≤ c1) (h : spec_Of.f k a0 l1 = some (r1, r2)) :
    Calls Tryz.prog 7 #[.bool a0, .slice A1 l1.length c1] w fun e w' => ∃ v1_ : Value, e = .returned (.agg #[.bool r1, v1_]) ∧ Kd.R (Kd.int .u8) 5 w' w.heap.size (fun _ => True) v1_ r2 ∧ Below w.heap.size w w' := by
  have hu24 := Tryz.underlying24
  have HR1 := Aside0.mk hr1
  have HC1 := Aside0.mk hc1
  clear hr1 hc1
  have HB := Aside0.mk (Below.refl w.heap.size w)
  have H : ((spec_cut.f k l1).bind fun t117 => (if a0 = true then (some (decide ((t117.length : Int) > 0), t117)) else (some (false, t117)))) = some (r1, r2) := h
  clear h
  replace H := Option.bind_eq_some_iff.mp H
  obtain ⟨t117, A30, H⟩ := H
  replace H : (if a0 = true then (some (decide ((t117.length : Int) > 0), t117)) else (some (false, t117))) = some (r1, r2) := H
  have A3 := Aside0.mk A30
  clear A30
  by_cases c4 : a0 = true
  · subst c4
    have H1 : (some (decide ((t117.length : Int) > 0), t117)) = some (r1, r2) := by rw [if_pos rfl] at H; exact H
    clear H
    have H := H1
    clear H1
    simp only [Option.some.injEq, Prod.mk.injEq] at H
    obtain ⟨rfl, rfl⟩ := H
    go_enter Tryz.func7, Tryz.ntmps7
    go_wp2_with (first | ((with_reducible refine gate_dst (N := 4) rfl ?_); (try (refine gate_guard (by rfl) ?_; dsimp only)); refine box_event ?hg (N := 4) ?hd (cs := #[.bool false, .slice none 0 0]) (t := 24) ?hr ?_; (case hd => rfl); (case hg => rfl); (case hr => first | (go_simp; done) | (go_simp; rfl)); intro gb116 hg w5 hbox hb; have n0_ := Aside0.mk (below_step (by repeat (first | (with_reducible first | exact HB.out | apply below_alloc | apply pw_below_drewN | apply below_drew1) | exact HB.out)) hb); have n1_ := Aside0.mk (hbox); have n2_ := Aside0.mk ((by rw [hg]; exact (below_size (by repeat (first | (with_reducible first | exact HB.out | apply below_alloc | apply pw_below_drewN | apply below_drew1) | exact HB.out))) : w.heap.size ≤ gb116)); have n3_ := Aside0.mk ((by rw [hg]; exact (below_size (by repeat (first | (with_reducible first | exact HB.out | apply below_alloc | apply pw_below_drewN | apply below_drew1) | exact HB.out))) : w.heap.size ≤ gb116)); clear HB; have HB := n0_; have BK116 := n1_; have GW116 := n2_; have GE116 := n3_; clear n0_ n1_ n2_ n3_; clear hb hbox hg) | ((with_reducible refine gate_callee (f := 12) rfl ?_); refine goesL_ (some 7) rfl rfl Tryz.func12 (by kernel_rfl) rfl #[.slice A1 l1.length c1] rfl (by (try simp only [List.map_toArray, List.map_cons, List.map_nil]); first | done | rfl | (simp only [List.length_drop, List.length_take]; rfl)) ?_; (with_reducible refine (spec_cut.calls k _ _ l1 t117 _ ?side1 ?side2 A3.out).mono ?_); (case side1 => repeat (first | exact (Kd.C_below HR1.out HB.out) | (with_reducible refine Kd.C_alloc ?_ _) | (with_reducible refine Kd.C_drewN ?_ _) | (with_reducible refine Kd.C_drew ?_))); (case side2 => exact HC1.out); rintro e w6 ⟨v118, rfl, ho0, hb⟩; refine ⟨_, rfl, ?_⟩; have n0_ := Aside0.mk (Kd.R_lower ho0 (below_size (by repeat (first | (with_reducible first | exact HB.out | apply below_alloc | apply pw_below_drewN | apply below_drew1 | refine below_set ?_ GE116.out) | exact HB.out)))); have n1_ := Aside0.mk (blk_below (g := gb116) (o := .cells #[.bool false, .slice none 0 0] 24 (0, 0)) (by (with_reducible repeat (first | refine blk_drewN ?_ _ | refine blk_drew ?_ | refine blk_alloc ?_ _)); exact BK116.out) hb); have n2_ := Aside0.mk (below_step (by repeat (first | (with_reducible first | exact HB.out | apply below_alloc | apply pw_below_drewN | apply below_drew1 | refine below_set ?_ GE116.out) | exact HB.out)) hb); clear BK116; clear HB; have HO119 := n0_; have BK116 := n1_; have HB := n2_; clear n0_ n1_ n2_; (try clear hb); (try clear hb2); (try clear hk); (try clear hi); (try clear ho0); obtain ⟨Ao7, co7, eo7⟩ := Kd.R_slice HO119.out; subst eo7; have hcz8_0 : w6.cell? ⟨gb116, 0, none⟩ = some (.bool false) := (blk_cell BK116.out 0).trans rfl; have hcz8_1 : w6.cell? ⟨gb116, 1, none⟩ = some (.slice none 0 0) := (blk_cell BK116.out 1).trans rfl; have hfz8_0 := blk_frozen BK116.out 0; have hfz8_1 := blk_frozen BK116.out 1))
    refine bodyPost_ret (results_cell_row rfl _ _ gb116 24 #[.bool (decide (0 < t117.length)), .slice Ao7 t117.length co7] (0, 0) _ rfl (by (with_reducible repeat (first | refine blk_drewN ?_ _ | refine blk_drew ?_ | refine blk_alloc ?_ _)); refine blk_put (cs := #[.bool (decide (0 < t117.length)), .slice none 0 0]) ?_ 1 _ rfl; (with_reducible repeat (first | refine blk_drewN ?_ _ | refine blk_drew ?_ | refine blk_alloc ?_ _)); refine blk_put (cs := #[.bool false, .slice none 0 0]) ?_ 0 _ rfl; (with_reducible repeat (first | refine blk_drewN ?_ _ | refine blk_drew ?_ | refine blk_alloc ?_ _)); exact BK116.out) Tryz.underlying24 rfl (by kernel_rfl)) rfl ?_
    exact ⟨_, by first | rfl | (simp [errW_none, errW_some] <;> rfl) | (simp [*, errW_none, errW_some] <;> rfl), by (with_reducible repeat (first | apply Kd.R_alloc | apply Kd.R_drewN | apply Kd.R_drew)); exact Kd.R_mono (Kd.R_far (p := ⟨gb116, 1, none⟩) (Kd.R_far (p := ⟨gb116, 0, none⟩) (Kd.R_types HO119.out BK116.out (by decide)) (fun _ hk => hk.2) (.bool (decide (0 < t117.length)))) (fun _ hk => hk.2) (.slice Ao7 t117.length co7)) (fun _ hk => trivial), by repeat (first | (with_reducible first | exact HB.out | apply below_alloc | apply pw_below_drewN | apply below_drew1 | refine below_set ?_ GE116.out) | exact HB.out)⟩
  · replace c4 := Bool.eq_false_iff.mpr c4
    subst c4
    have H1 : (some (false, t117)) = some (r1, r2) := by rw [if_neg (show ¬ (false = true) by decide)] at H; exact H
    clear H
    have H := H1
    clear H1
    simp only [Option.some.injEq, Prod.mk.injEq] at H
    obtain ⟨rfl, rfl⟩ := H
    go_enter Tryz.func7, Tryz.ntmps7
    go_wp2_with (first | ((with_reducible refine gate_dst (N := 4) rfl ?_); (try (refine gate_guard (by rfl) ?_; dsimp only)); refine box_event ?hg (N := 4) ?hd (cs := #[.bool false, .slice none 0 0]) (t := 24) ?hr ?_; (case hd => rfl); (case hg => rfl); (case hr => first | (go_simp; done) | (go_simp; rfl)); intro gb116 hg w9 hbox hb; have n0_ := Aside0.mk (below_step (by repeat (first | (with_reducible first | exact HB.out | apply below_alloc | apply pw_below_drewN | apply below_drew1) | exact HB.out)) hb); have n1_ := Aside0.mk (hbox); have n2_ := Aside0.mk ((by rw [hg]; exact (below_size (by repeat (first | (with_reducible first | exact HB.out | apply below_alloc | apply pw_below_drewN | apply below_drew1) | exact HB.out))) : w.heap.size ≤ gb116)); have n3_ := Aside0.mk ((by rw [hg]; exact (below_size (by repeat (first | (with_reducible first | exact HB.out | apply below_alloc | apply pw_below_drewN | apply below_drew1) | exact HB.out))) : w.heap.size ≤ gb116)); clear HB; have HB := n0_; have BK116 := n1_; have GW116 := n2_; have GE116 := n3_; clear n0_ n1_ n2_ n3_; clear hb hbox hg) | ((with_reducible refine gate_callee (f := 12) rfl ?_); refine goesL_ (some 7) rfl rfl Tryz.func12 (by kernel_rfl) rfl #[.slice A1 l1.length c1] rfl (by (try simp only [List.map_toArray, List.map_cons, List.map_nil]); first | done | rfl | (simp only [List.length_drop, List.length_take]; rfl)) ?_; (with_reducible refine (spec_cut.calls k _ _ l1 t117 _ ?side1 ?side2 A3.out).mono ?_); (case side1 => repeat (first | exact (Kd.C_below HR1.out HB.out) | (with_reducible refine Kd.C_alloc ?_ _) | (with_reducible refine Kd.C_drewN ?_ _) | (with_reducible refine Kd.C_drew ?_))); (case side2 => exact HC1.out); rintro e w10 ⟨v118, rfl, ho0, hb⟩; refine ⟨_, rfl, ?_⟩; have n0_ := Aside0.mk (Kd.R_lower ho0 (below_size (by repeat (first | (with_reducible first | exact HB.out | apply below_alloc | apply pw_below_drewN | apply below_drew1 | refine below_set ?_ GE116.out) | exact HB.out)))); have n1_ := Aside0.mk (blk_below (g := gb116) (o := .cells #[.bool false, .slice none 0 0] 24 (0, 0)) (by (with_reducible repeat (first | refine blk_drewN ?_ _ | refine blk_drew ?_ | refine blk_alloc ?_ _)); exact BK116.out) hb); have n2_ := Aside0.mk (below_step (by repeat (first | (with_reducible first | exact HB.out | apply below_alloc | apply pw_below_drewN | apply below_drew1 | refine below_set ?_ GE116.out) | exact HB.out)) hb); clear BK116; clear HB; have HO119 := n0_; have BK116 := n1_; have HB := n2_; clear n0_ n1_ n2_; (try clear hb); (try clear hb2); (try clear hk); (try clear hi); (try clear ho0); obtain ⟨Ao11, co11, eo11⟩ := Kd.R_slice HO119.out; subst eo11; have hcz12_0 : w10.cell? ⟨gb116, 0, none⟩ = some (.bool false) := (blk_cell BK116.out 0).trans rfl; have hcz12_1 : w10.cell? ⟨gb116, 1, none⟩ = some (.slice none 0 0) := (blk_cell BK116.out 1).trans rfl; have hfz12_0 := blk_frozen BK116.out 0; have hfz12_1 := blk_frozen BK116.out 1))
    refine bodyPost_ret (results_cell_row rfl _ _ gb116 24 #[.bool false, .slice Ao11 t117.length co11] (0, 0) _ rfl (by (with_reducible repeat (first | refine blk_drewN ?_ _ | refine blk_drew ?_ | refine blk_alloc ?_ _)); refine blk_put (cs := #[.bool false, .slice none 0 0]) ?_ 1 _ rfl; (with_reducible repeat (first | refine blk_drewN ?_ _ | refine blk_drew ?_ | refine blk_alloc ?_ _)); refine blk_put (cs := #[.bool false, .slice none 0 0]) ?_ 0 _ rfl; (with_reducible repeat (first | refine blk_drewN ?_ _ | refine blk_drew ?_ | refine blk_alloc ?_ _)); exact BK116.out) Tryz.underlying24 rfl (by kernel_rfl)) rfl ?_
    exact ⟨_, by first | rfl | (simp [errW_none, errW_some] <;> rfl) | (simp [*, errW_none, errW_some] <;> rfl), by (with_reducible repeat (first | apply Kd.R_alloc | apply Kd.R_drewN | apply Kd.R_drew)); exact Kd.R_mono (Kd.R_far (p := ⟨gb116, 1, none⟩) (Kd.R_far (p := ⟨gb116, 0, none⟩) (Kd.R_types HO119.out BK116.out (by decide)) (fun _ hk => hk.2) (.bool false)) (fun _ hk => hk.2) (.slice Ao11 t117.length co11)) (fun _ hk => trivial), by repeat (first | (with_reducible first | exact HB.out | apply below_alloc | apply pw_below_drewN | apply below_drew1 | refine below_set ?_ GE116.out) | exact HB.out)⟩
def laws_told.f (a0_0 : Bool) (l0_1 : List Int) : Option (Int × Bool × List Int × Int × ByteArray × (List (S28))) := (some (([] : List Int) : List Int)).bind fun y122 => (if y122.length + l0_1.length < 140737488355328 then (some (2, a0_0, (y122 ++ l0_1), 0, (⟨#[]⟩ : ByteArray), ([] : List (S28)))) else (none))
def laws_told.T1 : Bool × List (List Nat × List Nat) := (true, [([], []), ([0], [0]), ([], []), ([], []), ([3], [3]), ([2, 4], [2, 4]), ([1, 5], [1, 5]), ([6, 5, 0, 1, 2, 3, 4, 5, 6], [6])])
def laws_told.B1 : List Nat := [0, 1, 0, 0, 8, 28, 63, 127]
theorem laws_told.tab1 : rtab .any (opsOf Tryz.f8 1) = laws_told.T1 := by kernel_rfl
theorem laws_told.bits1 : waitsOk laws_told.T1.2 laws_told.B1 = true := by kernel_rfl
set_option maxHeartbeats 8000000 in
set_option maxRecDepth 100000 in
theorem laws_told.calls (a0_0 : Bool) (A0_1 : Option Addr) (c0_1 : Nat) (l0_1 : List Int) (r1 : Int) (r2 : Bool) (r3 : List Int) (r4 : Int) (r5 : ByteArray) (r6 : List (S28)) (w : World) (hr0_1 : Kd.C (Kd.int .u8) w A0_1 l0_1.length l0_1) (hc0_1 : l0_1.length ≤ c0_1) (h : laws_told.f a0_0 l0_1 = some (r1, r2, r3, r4, r5, r6)) :
    Calls Tryz.prog 8 #[.agg #[.bool a0_0, .slice A0_1 l0_1.length c0_1]] w fun e w' => ∃ v2_ v5_ : Value, e = .returned (.agg #[.int .i64 r1, .bool r2, v2_, .int .u64 r4, .string r5, v5_]) ∧ Kd.R (Kd.int .u8) 5 w' w.heap.size (fun _ => True) v2_ r3 ∧ Kd.R k28 28 w' w.heap.size (fun k_ => some k_ ≠ (v2_ : Value).ownBlock) v5_ r6 ∧ Below w.heap.size w w' := by
  have hu24 := Tryz.underlying24
  have hu28 := Tryz.underlying28
  have HR0_1 := Aside0.mk hr0_1
  have HC0_1 := Aside0.mk hc0_1
  clear hr0_1 hc0_1
  have HB := Aside0.mk (Below.refl w.heap.size w)
  have H : ((some (([] : List Int) : List Int)).bind fun y122 => (if y122.length + l0_1.length < 140737488355328 then (some (2, a0_0, (y122 ++ l0_1), 0, (⟨#[]⟩ : ByteArray), ([] : List (S28)))) else (none))) = some (r1, r2, r3, r4, r5, r6) := h
  clear h
  obtain ⟨y122, hy122⟩ : ∃ y_ : List Int, y_ = (([] : List Int)) := ⟨_, rfl⟩
  replace H : (if y122.length + l0_1.length < 140737488355328 then (some (2, a0_0, (y122 ++ l0_1), 0, (⟨#[]⟩ : ByteArray), ([] : List (S28)))) else (none)) = some (r1, r2, r3, r4, r5, r6) := by first | (rw [hy122]; with_reducible exact H) | (have H2_ := (Option.bind_some _ _).symm.trans H; rw [hy122]; with_reducible exact H2_) | (have H2_ := (Option.bind_some _ _).symm.trans H; with_reducible exact H2_) | with_reducible exact H | (rw [hy122]; exact H) | exact H
  have Ny122 := Aside0.mk hy122
  clear hy122
  by_cases c2 : y122.length + l0_1.length < 140737488355328
  · rw [if_pos c2] at H
    have LMc2 := Aside0.mk c2
    clear c2
    obtain ⟨y125, hy125⟩ : ∃ y_ : List Int, y_ = (y122 ++ l0_1) := ⟨_, rfl⟩
    replace H : (some (2, a0_0, y125, 0, (⟨#[]⟩ : ByteArray), ([] : List (S28)))) = some (r1, r2, r3, r4, r5, r6) := by first | (rw [hy125]; with_reducible exact H) | (have H2_ := (Option.bind_some _ _).symm.trans H; rw [hy125]; with_reducible exact H2_) | (have H2_ := (Option.bind_some _ _).symm.trans H; with_reducible exact H2_) | with_reducible exact H | (rw [hy125]; exact H) | exact H
    have Ny125 := Aside0.mk hy125
    clear hy125
    simp only [Option.some.injEq, Prod.mk.injEq] at H
    obtain ⟨rfl, rfl, rfl, rfl, rfl, rfl⟩ := H
    go_enter Tryz.func8, Tryz.ntmps8
    try go_wp2_with (first | ((with_reducible refine gate_dst (N := 1) rfl ?_); refine box_event ?hg (N := 1) ?hd (cs := #[.bool a0_0, .slice A0_1 l0_1.length c0_1]) (t := 24) ?hr ?_; (case hd => rfl); (case hg => rfl); (case hr => first | (go_simp; done) | (go_simp; rfl)); intro gb120 hg w3 hbox hb; have n0_ := Aside0.mk (below_step (by repeat (first | (with_reducible first | exact HB.out | apply below_alloc | apply pw_below_drewN | apply below_drew1) | exact HB.out)) hb); have n1_ := Aside0.mk (hbox); have n2_ := Aside0.mk ((by rw [hg]; exact (below_size (by repeat (first | (with_reducible first | exact HB.out | apply below_alloc | apply pw_below_drewN | apply below_drew1) | exact HB.out))) : w.heap.size ≤ gb120)); have n3_ := Aside0.mk ((by rw [hg]; exact (below_size (by repeat (first | (with_reducible first | exact HB.out | apply below_alloc | apply pw_below_drewN | apply below_drew1) | exact HB.out))) : w.heap.size ≤ gb120)); clear HB; have HB := n0_; have BK120 := n1_; have GW120 := n2_; have GE120 := n3_; clear n0_ n1_ n2_ n3_; clear hb hbox hg) | ((with_reducible refine gate_dst (N := 2) rfl ?_); refine box_event ?hg (N := 2) ?hd (cs := #[.int .i64 0, .bool false, .slice none 0 0, .int .u64 0, .string (⟨#[]⟩ : ByteArray), .slice none 0 0]) (t := 28) ?hr ?_; (case hd => rfl); (case hg => rfl); (case hr => first | (go_simp; done) | (go_simp; rfl)); intro gb121 hg w4 hbox hb; have n0_ := Aside0.mk (blk_below (g := gb120) (o := .cells #[.bool a0_0, .slice A0_1 l0_1.length c0_1] 24 (0, 0)) (by (with_reducible repeat (first | refine blk_drewN ?_ _ | refine blk_drew ?_ | refine blk_alloc ?_ _)); exact BK120.out) hb); have n1_ := Aside0.mk (below_step (by repeat (first | (with_reducible first | exact HB.out | apply below_alloc | apply pw_below_drewN | apply below_drew1 | refine below_set ?_ GE120.out) | exact HB.out)) hb); have n2_ := Aside0.mk (hbox); have n3_ := Aside0.mk ((by rw [hg]; exact (below_size (by repeat (first | (with_reducible first | exact HB.out | apply below_alloc | apply pw_below_drewN | apply below_drew1 | refine below_set ?_ GE120.out) | exact HB.out))) : w.heap.size ≤ gb121)); have n4_ := Aside0.mk ((by rw [hg]; exact (below_size (by repeat (first | (with_reducible first | exact HB.out | apply below_alloc | apply pw_below_drewN | apply below_drew1 | refine below_set ?_ GE120.out) | exact HB.out))) : w.heap.size ≤ gb121)); have n5_ := Aside0.mk ((by rw [hg]; exact Nat.ne_of_lt (blk_lt (g := gb120) (o := .cells #[.bool a0_0, .slice A0_1 l0_1.length c0_1] 24 (0, 0)) (by (with_reducible repeat (first | refine blk_drewN ?_ _ | refine blk_drew ?_ | refine blk_alloc ?_ _)); exact BK120.out)) : gb120 ≠ gb121)); have n6_ := Aside0.mk ((by rw [hg]; exact Nat.ne_of_gt (blk_lt (g := gb120) (o := .cells #[.bool a0_0, .slice A0_1 l0_1.length c0_1] 24 (0, 0)) (by (with_reducible repeat (first | refine blk_drewN ?_ _ | refine blk_drew ?_ | refine blk_alloc ?_ _)); exact BK120.out)) : gb121 ≠ gb120)); clear BK120; clear HB; have BK120 := n0_; have HB := n1_; have BK121 := n2_; have GW121 := n3_; have GE121 := n4_; have NB120_121 := n5_; have NB121_120 := n6_; clear n0_ n1_ n2_ n3_ n4_ n5_ n6_; clear hb hbox hg))
    have n0_ := Aside0.mk (blk_drew BK120.out)
    have n1_ := Aside0.mk (blk_drew BK121.out)
    have n2_ := Aside0.mk (below_drew1 HB.out)
    clear BK120
    clear BK121
    clear HB
    have BK120 := n0_
    have BK121 := n1_
    have HB := n2_
    clear n0_ n1_ n2_
    refine start_ (n := 8) (S := fun w' => w'.cell? ⟨gb120, 0, none⟩ = some (.bool a0_0) ∧ w'.cell? ⟨gb120, 1, none⟩ = some (.slice A0_1 l0_1.length c0_1)) (ds := []) #[false, false, false, false, false, false, false, false] (by kernel_rfl) rfl rfl ⟨(blk_cell BK120.out 0).trans rfl, (blk_cell BK120.out 1).trans rfl⟩ (fun hHeld => ?_); refine with_tabW laws_told.tab1 laws_told.bits1 (fun HT_ HW_ => ?_)
    generalize w4.drew = w5 at BK120 BK121 HB hHeld ⊢
    refine pure_ (i := 0) (N := some 3) (v := ?_) (a' := ?_) #[true, false, false, false, false, false, false, false] rfl rfl (any_of HT_.out (by kernel_rfl)) (fun _ _ _ h => h) (Or.inl ⟨by rfl, ?_⟩) ?_ ?_
    rotate_left
    · intro w'
      go_simp
      with_reducible rfl
    rotate_left
    · simp only [Act.put, List.setIfInBounds_toArray, List.set_cons_zero, List.set_cons_succ, i64_w, i32_w]
      rfl
    refine pure_ (i := 3) (N := some 6) (v := ?_) (a' := ?_) #[true, false, false, true, false, false, false, false] rfl rfl (any_of HT_.out (by kernel_rfl)) (fun _ _ _ h => h) (Or.inl ⟨by rfl, ?_⟩) ?_ ?_
    rotate_left
    · intro w'
      go_simp
      with_reducible rfl
    rotate_left
    · simp only [Act.put, List.setIfInBounds_toArray, List.set_cons_zero, List.set_cons_succ, i64_w, i32_w]
      rfl
    refine take_ (i := 1) (N := some 4) (v := ?_) (a' := ?_) #[true, true, false, true, false, false, false, false] rfl rfl (take_ofW HT_.out HW_.out (by kernel_rfl)) (fun _ _ _ h => h) (Or.inl ⟨by rfl, ?_⟩) hHeld ?_ ?_
    rotate_left
    · rintro w' ⟨s0, s1⟩
      go_simp
      with_reducible rfl
    rotate_left
    · simp only [Act.put, List.setIfInBounds_toArray, List.set_cons_zero, List.set_cons_succ, i64_w, i32_w]
      rfl
    refine take_ (i := 4) (N := some 7) (v := ?_) (a' := ?_) #[true, true, false, true, true, false, false, false] rfl rfl (take_ofW HT_.out HW_.out (by kernel_rfl)) (fun _ _ _ h => h) (Or.inl ⟨by rfl, ?_⟩) hHeld ?_ ?_
    rotate_left
    · rintro w' ⟨s0, s1⟩
      go_simp
      with_reducible rfl
    rotate_left
    · simp only [Act.put, List.setIfInBounds_toArray, List.set_cons_zero, List.set_cons_succ, i64_w, i32_w]
      rfl
    refine one_ (i := 2) (N := some 5) #[true, true, true, true, true, false, false, false] rfl rfl (one_of HT_.out (by kernel_rfl)) (by decide) (fun K hK => ?_)
    refine Kd.R_lit_step (Kd.int .u8) _ 5 ?hg (N := 5) ?hd (xs := ([] : List Int)) (inner := []) (ok := fun _ => True) (okp := fun _ => True) ?hr ?hp (fun _ hk => hk) trivial (Below.refl _ _) (Nat.le_refl _) (by simp) ?_; (case hd => rfl); (case hg => rfl); (case hr => first | (go_simp; done) | (go_simp; rfl)); (case hp => exact (Reps.none _ _))
    intro v123 w6 ho7 hb hg_ hnew_
    clear hg_ hnew_
    (first | rw [← Ny122.out] at ho7 | (simp only [Int.reduceToNat] at ho7; rw [← Ny122.out] at ho7))
    have n0_ := Aside0.mk (Kd.R_lower ho7 (below_size (by repeat (first | (with_reducible first | exact HB.out | apply below_alloc | apply pw_below_drewN | apply below_drew1 | refine below_set ?_ GE120.out | refine below_set ?_ GE121.out) | exact HB.out))))
    have n1_ := Aside0.mk (blk_below (g := gb120) (o := .cells #[.bool a0_0, .slice A0_1 l0_1.length c0_1] 24 (0, 0)) (by (with_reducible repeat (first | refine blk_drewN ?_ _ | refine blk_drew ?_ | refine blk_alloc ?_ _)); exact BK120.out) hb)
    have n2_ := Aside0.mk (blk_below (g := gb121) (o := .cells #[.int .i64 0, .bool false, .slice none 0 0, .int .u64 0, .string (⟨#[]⟩ : ByteArray), .slice none 0 0] 28 (0, 0)) (by (with_reducible repeat (first | refine blk_drewN ?_ _ | refine blk_drew ?_ | refine blk_alloc ?_ _)); exact BK121.out) hb)
    have n3_ := Aside0.mk (below_step (by repeat (first | (with_reducible first | exact HB.out | apply below_alloc | apply pw_below_drewN | apply below_drew1 | refine below_set ?_ GE120.out | refine below_set ?_ GE121.out) | exact HB.out)) hb)
    clear BK120
    clear BK121
    clear HB
    have HO124 := n0_
    have BK120 := n1_
    have BK121 := n2_
    have HB := n3_
    clear n0_ n1_ n2_ n3_
    clear hb ho7
    refine hK.out _ _ ⟨(blk_cell BK120.out 0).trans rfl, (blk_cell BK120.out 1).trans rfl⟩ (fun hHeld => ?_)
    clear hK K
    refine norm_ (a' := ?_) ?_ ?_
    rotate_left
    · show Act.put _ (some 5) _ = _
      simp only [Act.put, List.setIfInBounds_toArray, List.set_cons_zero, List.set_cons_succ, i64_w, i32_w]
      rfl
    refine one_ (i := 5) (N := some 8) #[true, true, true, true, true, true, false, false] rfl rfl (one_of HT_.out (by kernel_rfl)) (by decide) (fun K hK => ?_)
    refine Kd.R_append_rows_step (Kd.int .u8) (w0 := w) w.heap.size (by rfl) (.tmp 5) (.tmp 7) 22 5 (.int .u8 0) 1 rfl Tryz.underlying22 info5 rfl (by decide) (by omega) v123 y122 l0_1 _ _ _ (fun _ => True) (fun _ => False) rfl rfl ?aO ?aR (fun _ _ h => h) (fun _ h => h.elim) ?aF ?aB ?aS ?aL ?_
    (case aR => repeat (first | exact (Kd.C_below HR0_1.out HB.out) | (with_reducible refine Kd.C_alloc ?_ _) | (with_reducible refine Kd.C_drewN ?_ _) | (with_reducible refine Kd.C_drew ?_)))
    (case aB => exact (by repeat (first | (with_reducible first | exact HB.out | apply below_alloc | apply pw_below_drewN | apply below_drew1 | refine below_set ?_ GE120.out | refine below_set ?_ GE121.out) | exact HB.out)))
    (case aF => exact (fun _ _ => trivial))
    (case aO => exact (by (with_reducible repeat (first | apply Kd.R_alloc | apply Kd.R_drewN | apply Kd.R_drew)); exact HO124.out))
    (case aS => exact (below_size (by repeat (first | (with_reducible first | exact HB.out | apply below_alloc | apply pw_below_drewN | apply below_drew1 | refine below_set ?_ GE120.out | refine below_set ?_ GE121.out) | exact HB.out))))
    (case aL => have := LMc2.out; omega)
    intro v126 w8 ho hb hg hat
    rw [← Ny125.out] at ho
    have n0_ := Aside0.mk (blk_grown (g := gb120) (o := .cells #[.bool a0_0, .slice A0_1 l0_1.length c0_1] 24 (0, 0)) (by (with_reducible repeat (first | refine blk_drewN ?_ _ | refine blk_drew ?_ | refine blk_alloc ?_ _)); exact BK120.out) hg (Kd.R_ne HO124.out BK120.out (by decide)))
    have n1_ := Aside0.mk (blk_grown (g := gb121) (o := .cells #[.int .i64 0, .bool false, .slice none 0 0, .int .u64 0, .string (⟨#[]⟩ : ByteArray), .slice none 0 0] 28 (0, 0)) (by (with_reducible repeat (first | refine blk_drewN ?_ _ | refine blk_drew ?_ | refine blk_alloc ?_ _)); exact BK121.out) hg (Kd.R_ne HO124.out BK121.out (by decide)))
    have n2_ := Aside0.mk (hb)
    have n3_ := Aside0.mk (ho)
    clear BK120
    clear BK121
    clear HB
    clear HO124
    have BK120 := n0_
    have BK121 := n1_
    have HB := n2_
    have HO127 := n3_
    clear n0_ n1_ n2_ n3_
    clear ho hb hg hat
    obtain ⟨Ao9, co9, eo9⟩ := Kd.R_slice HO127.out
    (first | subst eo9 | (injection eo9 with f1_ f2_ f3_; have f4_ := f1_.symm; have f5_ := f3_.symm; clear f1_ f2_ f3_; subst f4_; subst f5_))
    refine hK.out _ _ ⟨(blk_cell BK120.out 0).trans rfl, (blk_cell BK120.out 1).trans rfl⟩ (fun hHeld => ?_)
    clear hK K
    refine norm_ (a' := ?_) ?_ ?_
    rotate_left
    · show Act.put _ (some 8) _ = _
      simp only [Act.put, List.setIfInBounds_toArray, List.set_cons_zero, List.set_cons_succ, i64_w, i32_w]
      rfl
    refine pure_ (i := 6) (N := some 9) (v := ?_) (a' := ?_) #[true, true, true, true, true, true, true, false] rfl rfl (any_of HT_.out (by kernel_rfl)) (fun _ _ _ h => h) (Or.inl ⟨by rfl, ?_⟩) ?_ ?_
    rotate_left
    · intro w'
      go_simp
      with_reducible rfl
    rotate_left
    · simp only [Act.put, List.setIfInBounds_toArray, List.set_cons_zero, List.set_cons_succ, i64_w, i32_w]
      rfl
    refine one_ (i := 7) (N := none) #[true, true, true, true, true, true, true, true] rfl rfl (one_of HT_.out (by kernel_rfl)) (by decide) (fun K hK => ?_)
    have hs10 : w8.cell? ⟨gb121, 0, none⟩ = some (.int .i64 0) := (blk_cell BK121.out 0).trans rfl
    have hfs10 := blk_frozen BK121.out 0
    have hns10_0 := NB120_121.out
    have hms10_0 := NB121_120.out
    have hs11 : w8.cell? ⟨gb121, 1, none⟩ = some (.bool false) := (blk_cell BK121.out 1).trans rfl
    have hfs11 := blk_frozen BK121.out 1
    have hns11_0 := NB120_121.out
    have hms11_0 := NB121_120.out
    have hs12 : w8.cell? ⟨gb121, 2, none⟩ = some (.slice none 0 0) := (blk_cell BK121.out 2).trans rfl
    have hfs12 := blk_frozen BK121.out 2
    have hns12_0 := NB120_121.out
    have hms12_0 := NB121_120.out
    have hs13 : w8.cell? ⟨gb121, 3, none⟩ = some (.int .u64 0) := (blk_cell BK121.out 3).trans rfl
    have hfs13 := blk_frozen BK121.out 3
    have hns13_0 := NB120_121.out
    have hms13_0 := NB121_120.out
    have hs14 : w8.cell? ⟨gb121, 4, none⟩ = some (.string (⟨#[]⟩ : ByteArray)) := (blk_cell BK121.out 4).trans rfl
    have hfs14 := blk_frozen BK121.out 4
    have hns14_0 := NB120_121.out
    have hms14_0 := NB121_120.out
    have hs15 : w8.cell? ⟨gb121, 5, none⟩ = some (.slice none 0 0) := (blk_cell BK121.out 5).trans rfl
    have hfs15 := blk_frozen BK121.out 5
    have hns15_0 := NB120_121.out
    have hms15_0 := NB121_120.out
    refine skip_ (w1 := ?_) (by rfl) rfl ?_ ?_
    rotate_left
    · go_simp
      rfl
    refine hK.out _ _ ⟨((cell_far (p := ⟨gb121, _, none⟩) NB120_121.out _).trans (((cell_far (p := ⟨gb121, _, none⟩) NB120_121.out _).trans (((cell_far (p := ⟨gb121, _, none⟩) NB120_121.out _).trans (((cell_far (p := ⟨gb121, _, none⟩) NB120_121.out _).trans (((cell_far (p := ⟨gb121, _, none⟩) NB120_121.out _).trans (((cell_far (p := ⟨gb121, _, none⟩) NB120_121.out _).trans (hHeld.1)))))))))))), ((cell_far (p := ⟨gb121, _, none⟩) NB120_121.out _).trans (((cell_far (p := ⟨gb121, _, none⟩) NB120_121.out _).trans (((cell_far (p := ⟨gb121, _, none⟩) NB120_121.out _).trans (((cell_far (p := ⟨gb121, _, none⟩) NB120_121.out _).trans (((cell_far (p := ⟨gb121, _, none⟩) NB120_121.out _).trans (((cell_far (p := ⟨gb121, _, none⟩) NB120_121.out _).trans (hHeld.2))))))))))))⟩ (fun hHeld => ?_)
    clear hK K
    refine done_ (done_of HT_.out (by kernel_rfl)) ?_
    try go_wp2
    refine bodyPost_ret (results_cell_row rfl _ _ gb121 28 #[.int .i64 2, .bool a0_0, .slice Ao9 y125.length co9, .int .u64 0, .string (⟨#[]⟩ : ByteArray), .slice none 0 0] (0, 0) _ rfl (by (with_reducible repeat (first | refine blk_drewN ?_ _ | refine blk_drew ?_ | refine blk_alloc ?_ _)); refine blk_put (cs := #[.int .i64 2, .bool a0_0, .slice Ao9 y125.length co9, .int .u64 0, .string (⟨#[]⟩ : ByteArray), .slice none 0 0]) ?_ 5 _ rfl; (with_reducible repeat (first | refine blk_drewN ?_ _ | refine blk_drew ?_ | refine blk_alloc ?_ _)); refine blk_put (cs := #[.int .i64 2, .bool a0_0, .slice Ao9 y125.length co9, .int .u64 0, .string (⟨#[]⟩ : ByteArray), .slice none 0 0]) ?_ 4 _ rfl; (with_reducible repeat (first | refine blk_drewN ?_ _ | refine blk_drew ?_ | refine blk_alloc ?_ _)); refine blk_put (cs := #[.int .i64 2, .bool a0_0, .slice Ao9 y125.length co9, .int .u64 0, .string (⟨#[]⟩ : ByteArray), .slice none 0 0]) ?_ 3 _ rfl; (with_reducible repeat (first | refine blk_drewN ?_ _ | refine blk_drew ?_ | refine blk_alloc ?_ _)); refine blk_put (cs := #[.int .i64 2, .bool a0_0, .slice none 0 0, .int .u64 0, .string (⟨#[]⟩ : ByteArray), .slice none 0 0]) ?_ 2 _ rfl; (with_reducible repeat (first | refine blk_drewN ?_ _ | refine blk_drew ?_ | refine blk_alloc ?_ _)); refine blk_put (cs := #[.int .i64 2, .bool false, .slice none 0 0, .int .u64 0, .string (⟨#[]⟩ : ByteArray), .slice none 0 0]) ?_ 1 _ rfl; (with_reducible repeat (first | refine blk_drewN ?_ _ | refine blk_drew ?_ | refine blk_alloc ?_ _)); refine blk_put (cs := #[.int .i64 0, .bool false, .slice none 0 0, .int .u64 0, .string (⟨#[]⟩ : ByteArray), .slice none 0 0]) ?_ 0 _ rfl; (with_reducible repeat (first | refine blk_drewN ?_ _ | refine blk_drew ?_ | refine blk_alloc ?_ _)); exact BK121.out) Tryz.underlying28 rfl (by kernel_rfl)) rfl ?_
    exact ⟨_, _, by first | rfl | (simp [errW_none, errW_some] <;> rfl) | (simp [*, errW_none, errW_some] <;> rfl), by (with_reducible repeat (first | apply Kd.R_alloc | apply Kd.R_drewN | apply Kd.R_drew)); exact Kd.R_mono (Kd.R_far (p := ⟨gb121, 5, none⟩) (Kd.R_far (p := ⟨gb121, 4, none⟩) (Kd.R_far (p := ⟨gb121, 3, none⟩) (Kd.R_far (p := ⟨gb121, 2, none⟩) (Kd.R_far (p := ⟨gb121, 1, none⟩) (Kd.R_far (p := ⟨gb121, 0, none⟩) (Kd.R_types HO127.out BK121.out (by decide)) (fun _ hk => hk.2) (.int .i64 2)) (fun _ hk => hk.2) (.bool a0_0)) (fun _ hk => hk.2) (.slice Ao9 y125.length co9)) (fun _ hk => hk.2) (.int .u64 0)) (fun _ hk => hk.2) (.string (⟨#[]⟩ : ByteArray))) (fun _ hk => hk.2) (.slice none 0 0)) (fun _ hk => trivial), by first | exact Kd.R_nil _ _ _ _ _ | exact Kd.N_nil _ _ _ _ _ | exact Kd.V_nil _ _ _ _ _ | exact Kd.Q_nil _ _ _ _ _ | exact Kd.S_nil _ _ _ _ _, by repeat (first | (with_reducible first | exact HB.out | apply below_alloc | apply pw_below_drewN | apply below_drew1 | refine below_set ?_ GE120.out | refine below_set ?_ GE121.out) | exact HB.out)⟩
  · rw [if_neg c2] at H
    exact absurd H (by simp)
def laws_whole.f (k : Nat) (a0 : Bool) (l1 : List Int) (a2 : Int) : Option (Bool × List Int × Int × Bool × List Int × Int × ByteArray × (List (S28))) := if 0 ≤ (mn (l1.length : Int) a2) then (if (mn (l1.length : Int) a2) ≤ (l1.length : Int) then ((spec_Of.f k a0 (l1.take ((mn (l1.length : Int) a2) : Int).toNat)).bind fun bt131 => ((laws_told.f bt131.1 bt131.2).bind fun bt136 => (some (bt131.1, bt131.2, bt136.1, bt136.2.1, bt136.2.2.1, bt136.2.2.2.1, bt136.2.2.2.2.1, bt136.2.2.2.2.2)))) else (none)) else (none)
theorem laws_whole.mono : ∀ a0 a1 a2 k, LeO (laws_whole.f k a0 a1 a2) (laws_whole.f (k + 1) a0 a1 a2) := by
  intro a0 a1 a2 k
  unfold laws_whole.f
  repeat' first
      | (with_reducible exact spec_Of.mono _ _ _)
      | (with_reducible exact LeO.refl _)
      | (with_reducible exact LeO.none _)
      | (with_reducible refine LeO.ite ?_ ?_)
      | (with_reducible refine LeO.bind ?_ (fun _ => ?_))
      | exact spec_Of.mono _ _ _
      | exact LeO.none _
      | refine LeO.ite ?_ ?_
      | refine LeO.bind ?_ (fun _ => ?_)
set_option maxHeartbeats 8000000 in
set_option maxRecDepth 100000 in
theorem laws_whole.calls (k : Nat) (a0 : Bool) (A1 : Option Addr) (c1 : Nat) (l1 : List Int) (a2 : Int) (r1 : Bool) (r2 : List Int) (r3 : Int) (r4 : Bool) (r5 : List Int) (r6 : Int) (r7 : ByteArray) (r8 : List (S28)) (w : World) (hr1 : Kd.C (Kd.int .u8) w A1 l1.length l1) (hc1 : l1.length ≤ c1) (h : laws_whole.f k a0 l1 a2 = some (r1, r2, r3, r4, r5, r6, r7, r8)) :
    Calls Tryz.prog 4 #[.bool a0, .slice A1 l1.length c1, .int .i64 a2] w fun e w' => ∃ v1_ v4_ v7_ : Value, e = .returned (.tuple #[.agg #[.bool r1, v1_], .agg #[.int .i64 r3, .bool r4, v4_, .int .u64 r6, .string r7, v7_]]) ∧ Kd.R (Kd.int .u8) 5 w' w.heap.size (fun k_ => some k_ ≠ (v4_ : Value).ownBlock) v1_ r2 ∧ Kd.R (Kd.int .u8) 5 w' w.heap.size (fun k_ => some k_ ≠ (v1_ : Value).ownBlock) v4_ r5 ∧ Kd.R k28 28 w' w.heap.size (fun k_ => some k_ ≠ (v1_ : Value).ownBlock ∧ some k_ ≠ (v4_ : Value).ownBlock) v7_ r8 ∧ Below w.heap.size w w' := by
  have hu24 := Tryz.underlying24
  have hu28 := Tryz.underlying28
  have HR1 := Aside0.mk hr1
  have HC1 := Aside0.mk hc1
  clear hr1 hc1
  have HB := Aside0.mk (Below.refl w.heap.size w)
  have H : (if 0 ≤ (mn (l1.length : Int) a2) then (if (mn (l1.length : Int) a2) ≤ (l1.length : Int) then ((spec_Of.f k a0 (l1.take ((mn (l1.length : Int) a2) : Int).toNat)).bind fun bt131 => ((laws_told.f bt131.1 bt131.2).bind fun bt136 => (some (bt131.1, bt131.2, bt136.1, bt136.2.1, bt136.2.2.1, bt136.2.2.2.1, bt136.2.2.2.2.1, bt136.2.2.2.2.2)))) else (none)) else (none)) = some (r1, r2, r3, r4, r5, r6, r7, r8) := h
  clear h
  obtain ⟨ji4, hji4⟩ : ∃ j_ : Int, (mn (l1.length : Int) a2) = j_ := ⟨_, rfl⟩
  replace H : (if 0 ≤ (ji4) then (if (ji4) ≤ (l1.length : Int) then ((spec_Of.f k a0 (l1.take ((ji4) : Int).toNat)).bind fun bt131 => ((laws_told.f bt131.1 bt131.2).bind fun bt136 => (some (bt131.1, bt131.2, bt136.1, bt136.2.1, bt136.2.2.1, bt136.2.2.2.1, bt136.2.2.2.2.1, bt136.2.2.2.2.2)))) else (none)) else (none)) = some (r1, r2, r3, r4, r5, r6, r7, r8) := by first | (rw [hji4] at H; exact H) | (simp only [hji4] at H ⊢; exact H)
  have hji4_ : (if a2 < (l1.length : Int) then a2 else (l1.length : Int)) = ji4 := hji4
  by_cases c5 : 0 ≤ (ji4)
  · rw [if_pos c5] at H
    have c5b0 := eq_true c5
    have c5b1 : decide (0 ≤ (ji4)) = true := decide_eq_true c5
    clear c5
    by_cases c6 : (ji4) ≤ (l1.length : Int)
    · rw [if_pos c6] at H
      have c6b0 := eq_true c6
      have c6b1 : decide ((ji4) ≤ (l1.length : Int)) = true := decide_eq_true c6
      clear c6
      replace H := Option.bind_eq_some_iff.mp H
      obtain ⟨⟨t131, t132⟩, A70, H⟩ := H
      replace H : ((laws_told.f t131 t132).bind fun bt136 => (some (t131, t132, bt136.1, bt136.2.1, bt136.2.2.1, bt136.2.2.2.1, bt136.2.2.2.2.1, bt136.2.2.2.2.2))) = some (r1, r2, r3, r4, r5, r6, r7, r8) := H
      have A7 := Aside0.mk A70
      clear A70
      replace H := Option.bind_eq_some_iff.mp H
      obtain ⟨⟨t136, t137, t138, t141, t142, t143⟩, A80, H⟩ := H
      replace H : (some (t131, t132, t136, t137, t138, t141, t142, t143)) = some (r1, r2, r3, r4, r5, r6, r7, r8) := H
      have A8 := Aside0.mk A80
      clear A80
      simp only [Option.some.injEq, Prod.mk.injEq] at H
      obtain ⟨rfl, rfl, rfl, rfl, rfl, rfl, rfl, rfl⟩ := H
      go_enter Tryz.func4, Tryz.ntmps4
      try go_wp2_with (first | ((with_reducible refine gate_dst (N := 6) rfl ?_); refine box_event ?hg (N := 6) ?hd (cs := #[.bool false, .slice none 0 0]) (t := 24) ?hr ?_; (case hd => rfl); (case hg => rfl); (case hr => first | (go_simp; done) | (go_simp; rfl)); intro gb128 hg w9 hbox hb; have n0_ := Aside0.mk (below_step (by repeat (first | (with_reducible first | exact HB.out | apply below_alloc | apply pw_below_drewN | apply below_drew1) | exact HB.out)) hb); have n1_ := Aside0.mk (hbox); have n2_ := Aside0.mk ((by rw [hg]; exact (below_size (by repeat (first | (with_reducible first | exact HB.out | apply below_alloc | apply pw_below_drewN | apply below_drew1) | exact HB.out))) : w.heap.size ≤ gb128)); have n3_ := Aside0.mk ((by rw [hg]; exact (below_size (by repeat (first | (with_reducible first | exact HB.out | apply below_alloc | apply pw_below_drewN | apply below_drew1) | exact HB.out))) : w.heap.size ≤ gb128)); clear HB; have HB := n0_; have BK128 := n1_; have GW128 := n2_; have GE128 := n3_; clear n0_ n1_ n2_ n3_; clear hb hbox hg) | ((with_reducible refine gate_dst (N := 7) rfl ?_); refine box_event ?hg (N := 7) ?hd (cs := #[.int .i64 0, .bool false, .slice none 0 0, .int .u64 0, .string (⟨#[]⟩ : ByteArray), .slice none 0 0]) (t := 28) ?hr ?_; (case hd => rfl); (case hg => rfl); (case hr => first | (go_simp; done) | (go_simp; rfl)); intro gb129 hg w10 hbox hb; have n0_ := Aside0.mk (blk_below (g := gb128) (o := .cells #[.bool false, .slice none 0 0] 24 (0, 0)) (by (with_reducible repeat (first | refine blk_drewN ?_ _ | refine blk_drew ?_ | refine blk_alloc ?_ _)); exact BK128.out) hb); have n1_ := Aside0.mk (below_step (by repeat (first | (with_reducible first | exact HB.out | apply below_alloc | apply pw_below_drewN | apply below_drew1 | refine below_set ?_ GE128.out) | exact HB.out)) hb); have n2_ := Aside0.mk (hbox); have n3_ := Aside0.mk ((by rw [hg]; exact (below_size (by repeat (first | (with_reducible first | exact HB.out | apply below_alloc | apply pw_below_drewN | apply below_drew1 | refine below_set ?_ GE128.out) | exact HB.out))) : w.heap.size ≤ gb129)); have n4_ := Aside0.mk ((by rw [hg]; exact (below_size (by repeat (first | (with_reducible first | exact HB.out | apply below_alloc | apply pw_below_drewN | apply below_drew1 | refine below_set ?_ GE128.out) | exact HB.out))) : w.heap.size ≤ gb129)); have n5_ := Aside0.mk ((by rw [hg]; exact Nat.ne_of_lt (blk_lt (g := gb128) (o := .cells #[.bool false, .slice none 0 0] 24 (0, 0)) (by (with_reducible repeat (first | refine blk_drewN ?_ _ | refine blk_drew ?_ | refine blk_alloc ?_ _)); exact BK128.out)) : gb128 ≠ gb129)); have n6_ := Aside0.mk ((by rw [hg]; exact Nat.ne_of_gt (blk_lt (g := gb128) (o := .cells #[.bool false, .slice none 0 0] 24 (0, 0)) (by (with_reducible repeat (first | refine blk_drewN ?_ _ | refine blk_drew ?_ | refine blk_alloc ?_ _)); exact BK128.out)) : gb129 ≠ gb128)); clear BK128; clear HB; have BK128 := n0_; have HB := n1_; have BK129 := n2_; have GW129 := n3_; have GE129 := n4_; have NB128_129 := n5_; have NB129_128 := n6_; clear n0_ n1_ n2_ n3_ n4_ n5_ n6_; clear hb hbox hg; obtain ⟨i011, hi011, _, hsz11, _⟩ := info_parts info5; obtain ⟨hcut11, hA11, hC11⟩ := print_take_of (P := Tryz.prog) (Value.int .u8) 0 22 5 .i64 Tryz.underlying22 hi011 hsz11 A1 c1 l1 (ji4) (of_decide_eq_true (by first | (with_reducible assumption) | assumption)) (of_decide_eq_true (by first | (with_reducible assumption) | assumption)) HC1.out; have HR130 := Aside0.mk (Kd.C_of_reads (h1 := fun _ => rfl) (hA11 _ (Kd.reads_of_C HR1.out))); have HC130 := Aside0.mk hC11; clear hA11 hC11 hi011 hsz11) | ((with_reducible refine gate_callee (f := 7) rfl ?_); refine goesL_ (some 16) rfl rfl Tryz.func7 (by kernel_rfl) rfl #[.bool a0, .slice A1 (l1.take ((ji4) : Int).toNat).length c1] rfl (by (try simp only [List.map_toArray, List.map_cons, List.map_nil]); first | done | (rw [show (l1.take ((ji4) : Int).toNat).length = (ji4).toNat from (by rw [List.length_take]; have h_ : ((ji4) : Int) ≤ (l1.length : Int) := of_decide_eq_true (by first | (with_reducible assumption) | assumption); omega)] <;> rfl) | (simp only [hji4]; rfl) | rfl | (simp only [List.length_drop, List.length_take]; rfl)) ?_; (with_reducible refine (spec_Of.calls k a0 _ _ (l1.take ((ji4) : Int).toNat) t131 t132 _ ?side1 ?side2 A7.out).mono ?_); (case side1 => repeat (first | exact (Kd.C_below HR130.out HB.out) | (with_reducible refine Kd.C_alloc ?_ _) | (with_reducible refine Kd.C_drewN ?_ _) | (with_reducible refine Kd.C_drew ?_))); (case side2 => exact HC130.out); rintro e w12 ⟨v133, rfl, ho0, hb⟩; refine ⟨_, rfl, ?_⟩; have n0_ := Aside0.mk (Kd.R_lower ho0 (below_size (by repeat (first | (with_reducible first | exact HB.out | apply below_alloc | apply pw_below_drewN | apply below_drew1 | refine below_set ?_ GE128.out | refine below_set ?_ GE129.out) | exact HB.out)))); have n1_ := Aside0.mk (blk_below (g := gb128) (o := .cells #[.bool false, .slice none 0 0] 24 (0, 0)) (by (with_reducible repeat (first | refine blk_drewN ?_ _ | refine blk_drew ?_ | refine blk_alloc ?_ _)); exact BK128.out) hb); have n2_ := Aside0.mk (blk_below (g := gb129) (o := .cells #[.int .i64 0, .bool false, .slice none 0 0, .int .u64 0, .string (⟨#[]⟩ : ByteArray), .slice none 0 0] 28 (0, 0)) (by (with_reducible repeat (first | refine blk_drewN ?_ _ | refine blk_drew ?_ | refine blk_alloc ?_ _)); exact BK129.out) hb); have n3_ := Aside0.mk (below_step (by repeat (first | (with_reducible first | exact HB.out | apply below_alloc | apply pw_below_drewN | apply below_drew1 | refine below_set ?_ GE128.out | refine below_set ?_ GE129.out) | exact HB.out)) hb); clear BK128; clear BK129; clear HB; have HO134 := n0_; have BK128 := n1_; have BK129 := n2_; have HB := n3_; clear n0_ n1_ n2_ n3_; (try clear hb); (try clear hb2); (try clear hk); (try clear hi); (try clear ho0)) | ((with_reducible refine gate_dst (N := 8) rfl ?_); refine box_event ?hg (N := 8) ?hd (cs := #[.bool false, .slice none 0 0]) (t := 24) ?hr ?_; (case hd => rfl); (case hg => rfl); (case hr => first | (go_simp; done) | (go_simp; rfl)); intro gb135 hg w13 hbox hb; have n0_ := Aside0.mk (Kd.R_below (by (with_reducible repeat (first | apply Kd.R_alloc | apply Kd.R_drewN | apply Kd.R_drew)); exact HO134.out) hb); have n1_ := Aside0.mk (blk_below (g := gb128) (o := .cells #[.bool false, .slice none 0 0] 24 (0, 0)) (by (with_reducible repeat (first | refine blk_drewN ?_ _ | refine blk_drew ?_ | refine blk_alloc ?_ _)); exact BK128.out) hb); have n2_ := Aside0.mk (blk_below (g := gb129) (o := .cells #[.int .i64 0, .bool false, .slice none 0 0, .int .u64 0, .string (⟨#[]⟩ : ByteArray), .slice none 0 0] 28 (0, 0)) (by (with_reducible repeat (first | refine blk_drewN ?_ _ | refine blk_drew ?_ | refine blk_alloc ?_ _)); exact BK129.out) hb); have n3_ := Aside0.mk (below_step (by repeat (first | (with_reducible first | exact HB.out | apply below_alloc | apply pw_below_drewN | apply below_drew1 | refine below_set ?_ GE128.out | refine below_set ?_ GE129.out) | exact HB.out)) hb); have n4_ := Aside0.mk (hbox); have n5_ := Aside0.mk ((by rw [hg]; exact (below_size (by repeat (first | (with_reducible first | exact HB.out | apply below_alloc | apply pw_below_drewN | apply below_drew1 | refine below_set ?_ GE128.out | refine below_set ?_ GE129.out) | exact HB.out))) : w.heap.size ≤ gb135)); have n6_ := Aside0.mk ((by rw [hg]; exact (below_size (by repeat (first | (with_reducible first | exact HB.out | apply below_alloc | apply pw_below_drewN | apply below_drew1 | refine below_set ?_ GE128.out | refine below_set ?_ GE129.out) | exact HB.out))) : w.heap.size ≤ gb135)); have n7_ := Aside0.mk ((by rw [hg]; exact Nat.ne_of_lt (blk_lt (g := gb128) (o := .cells #[.bool false, .slice none 0 0] 24 (0, 0)) (by (with_reducible repeat (first | refine blk_drewN ?_ _ | refine blk_drew ?_ | refine blk_alloc ?_ _)); exact BK128.out)) : gb128 ≠ gb135)); have n8_ := Aside0.mk ((by rw [hg]; exact Nat.ne_of_gt (blk_lt (g := gb128) (o := .cells #[.bool false, .slice none 0 0] 24 (0, 0)) (by (with_reducible repeat (first | refine blk_drewN ?_ _ | refine blk_drew ?_ | refine blk_alloc ?_ _)); exact BK128.out)) : gb135 ≠ gb128)); have n9_ := Aside0.mk ((by rw [hg]; exact Nat.ne_of_lt (blk_lt (g := gb129) (o := .cells #[.int .i64 0, .bool false, .slice none 0 0, .int .u64 0, .string (⟨#[]⟩ : ByteArray), .slice none 0 0] 28 (0, 0)) (by (with_reducible repeat (first | refine blk_drewN ?_ _ | refine blk_drew ?_ | refine blk_alloc ?_ _)); exact BK129.out)) : gb129 ≠ gb135)); have n10_ := Aside0.mk ((by rw [hg]; exact Nat.ne_of_gt (blk_lt (g := gb129) (o := .cells #[.int .i64 0, .bool false, .slice none 0 0, .int .u64 0, .string (⟨#[]⟩ : ByteArray), .slice none 0 0] 28 (0, 0)) (by (with_reducible repeat (first | refine blk_drewN ?_ _ | refine blk_drew ?_ | refine blk_alloc ?_ _)); exact BK129.out)) : gb135 ≠ gb129)); clear HO134; clear BK128; clear BK129; clear HB; have HO134 := n0_; have BK128 := n1_; have BK129 := n2_; have HB := n3_; have BK135 := n4_; have GW135 := n5_; have GE135 := n6_; have NB128_135 := n7_; have NB135_128 := n8_; have NB129_135 := n9_; have NB135_129 := n10_; clear n0_ n1_ n2_ n3_ n4_ n5_ n6_ n7_ n8_ n9_ n10_; clear hb hbox hg; have hnb14 := NB135_128.out; have hnc14 := NB128_135.out; have hnb15 := NB135_129.out; have hnc15 := NB129_135.out; have hcz16_0 : w13.cell? ⟨gb135, 0, none⟩ = some (.bool false) := (blk_cell BK135.out 0).trans rfl; have hcz16_1 : w13.cell? ⟨gb135, 1, none⟩ = some (.slice none 0 0) := (blk_cell BK135.out 1).trans rfl; have hfz16_0 := blk_frozen BK135.out 0; have hfz16_1 := blk_frozen BK135.out 1; obtain ⟨Ao17, co17, eo17⟩ := Kd.R_slice HO134.out; subst eo17))
      have n0_ : Aside0 (Kd.R (Kd.int .u8) 5 ((w13.setCell ⟨gb135, 0, none⟩ (.bool t131)).setCell ⟨gb135, 1, none⟩ (.slice Ao17 t132.length co17)) w.heap.size (fun _ => True) (.slice Ao17 t132.length co17) t132) := ⟨by (with_reducible repeat (first | apply Kd.R_alloc | apply Kd.R_drewN | apply Kd.R_drew)); exact Kd.R_mono (Kd.R_far (p := ⟨gb135, 1, none⟩) (Kd.R_far (p := ⟨gb135, 0, none⟩) (Kd.R_types HO134.out BK135.out (by decide)) (fun _ hk => hk.2) (.bool t131)) (fun _ hk => hk.2) (.slice Ao17 t132.length co17)) (fun _ hk => trivial)⟩
      have n1_ : Aside0 (((w13.setCell ⟨gb135, 0, none⟩ (.bool t131)).setCell ⟨gb135, 1, none⟩ (.slice Ao17 t132.length co17)).heap[gb128]? = some (.cells #[.bool false, .slice none 0 0] 24 (0, 0))) := ⟨by (with_reducible repeat (first | refine blk_drewN ?_ _ | refine blk_drew ?_ | refine blk_alloc ?_ _)); refine blk_far ?_ NB128_135.out _; (with_reducible repeat (first | refine blk_drewN ?_ _ | refine blk_drew ?_ | refine blk_alloc ?_ _)); refine blk_far ?_ NB128_135.out _; (with_reducible repeat (first | refine blk_drewN ?_ _ | refine blk_drew ?_ | refine blk_alloc ?_ _)); exact BK128.out⟩
      have n2_ : Aside0 (((w13.setCell ⟨gb135, 0, none⟩ (.bool t131)).setCell ⟨gb135, 1, none⟩ (.slice Ao17 t132.length co17)).heap[gb129]? = some (.cells #[.int .i64 0, .bool false, .slice none 0 0, .int .u64 0, .string (⟨#[]⟩ : ByteArray), .slice none 0 0] 28 (0, 0))) := ⟨by (with_reducible repeat (first | refine blk_drewN ?_ _ | refine blk_drew ?_ | refine blk_alloc ?_ _)); refine blk_far ?_ NB129_135.out _; (with_reducible repeat (first | refine blk_drewN ?_ _ | refine blk_drew ?_ | refine blk_alloc ?_ _)); refine blk_far ?_ NB129_135.out _; (with_reducible repeat (first | refine blk_drewN ?_ _ | refine blk_drew ?_ | refine blk_alloc ?_ _)); exact BK129.out⟩
      have n3_ : Aside0 (((w13.setCell ⟨gb135, 0, none⟩ (.bool t131)).setCell ⟨gb135, 1, none⟩ (.slice Ao17 t132.length co17)).heap[gb135]? = some (.cells #[.bool t131, .slice Ao17 t132.length co17] 24 (0, 0))) := ⟨by (with_reducible repeat (first | refine blk_drewN ?_ _ | refine blk_drew ?_ | refine blk_alloc ?_ _)); refine blk_put (cs := #[.bool t131, .slice none 0 0]) ?_ 1 _ rfl; (with_reducible repeat (first | refine blk_drewN ?_ _ | refine blk_drew ?_ | refine blk_alloc ?_ _)); refine blk_put (cs := #[.bool false, .slice none 0 0]) ?_ 0 _ rfl; (with_reducible repeat (first | refine blk_drewN ?_ _ | refine blk_drew ?_ | refine blk_alloc ?_ _)); exact BK135.out⟩
      have n4_ : Aside0 (Below w.heap.size w ((w13.setCell ⟨gb135, 0, none⟩ (.bool t131)).setCell ⟨gb135, 1, none⟩ (.slice Ao17 t132.length co17))) := ⟨by repeat (first | (with_reducible first | exact HB.out | apply below_alloc | apply pw_below_drewN | apply below_drew1 | refine below_set ?_ GE128.out | refine below_set ?_ GE129.out | refine below_set ?_ GE135.out) | exact HB.out)⟩
      (try clear HO134)
      (try clear BK128)
      (try clear BK129)
      (try clear BK135)
      (try clear HB)
      generalize ((w13.setCell ⟨gb135, 0, none⟩ (.bool t131)).setCell ⟨gb135, 1, none⟩ (.slice Ao17 t132.length co17)) = w18 at n0_ n1_ n2_ n3_ n4_ ⊢
      have HO134 := n0_
      have BK128 := n1_
      have BK129 := n2_
      have BK135 := n3_
      have HB := n4_
      clear n0_ n1_ n2_ n3_ n4_
      have n0_ := Aside0.mk (Kd.R_drew HO134.out)
      have n1_ := Aside0.mk (blk_drew BK128.out)
      have n2_ := Aside0.mk (blk_drew BK129.out)
      have n3_ := Aside0.mk (blk_drew BK135.out)
      have n4_ := Aside0.mk (below_drew1 HB.out)
      clear HO134
      clear BK128
      clear BK129
      clear BK135
      clear HB
      have HO134 := n0_
      have BK128 := n1_
      have BK129 := n2_
      have BK135 := n3_
      have HB := n4_
      clear n0_ n1_ n2_ n3_ n4_
      refine start_ (n := 5) (S := fun w' => w'.cell? ⟨gb135, 0, none⟩ = some (.bool t131) ∧ w'.cell? ⟨gb135, 1, none⟩ = some (.slice Ao17 t132.length co17)) (ds := []) #[false, false, false, false, false] (by kernel_rfl) rfl rfl ⟨(blk_cell BK135.out 0).trans rfl, (blk_cell BK135.out 1).trans rfl⟩ (fun hHeld => ?_)
      generalize w18.drew = w19 at HO134 BK128 BK129 BK135 HB hHeld ⊢
      refine take_ (i := 0) (N := some 17) (v := ?_) (a' := ?_) #[true, false, false, false, false] rfl rfl (by kernel_rfl) (fun _ _ _ h => h) (Or.inl ⟨by rfl, ?_⟩) hHeld ?_ ?_
      rotate_left
      · rintro w' ⟨s0, s1⟩
        go_simp
        with_reducible rfl
      rotate_left
      · simp only [Act.put, List.setIfInBounds_toArray, List.set_cons_zero, List.set_cons_succ, i64_w, i32_w]
        rfl
      refine take_ (i := 1) (N := some 18) (v := ?_) (a' := ?_) #[true, true, false, false, false] rfl rfl (by kernel_rfl) (fun _ _ _ h => h) (Or.inl ⟨by rfl, ?_⟩) hHeld ?_ ?_
      rotate_left
      · rintro w' ⟨s0, s1⟩
        go_simp
        with_reducible rfl
      rotate_left
      · simp only [Act.put, List.setIfInBounds_toArray, List.set_cons_zero, List.set_cons_succ, i64_w, i32_w]
        rfl
      refine one_ (i := 2) (N := some 19) #[true, true, true, false, false] rfl rfl (by kernel_rfl) (by decide) (fun K hK => ?_)
      refine goes_ Tryz.func8 (by kernel_rfl) rfl #[.agg #[.bool t131, .slice Ao17 t132.length co17]] (by rfl) rfl rfl (by (try simp only [List.map_toArray, List.map_cons, List.map_nil]); first | done | rfl | (simp only [List.length_drop, List.length_take]; rfl)) ?_
      with_reducible refine (laws_told.calls t131 _ _ t132 t136 t137 t138 t141 t142 t143 _ ?side1 ?side2 A8.out).mono ?_
      (case side1 => repeat (first | exact (Kd.R_reads' HO134.out).2.2 | (with_reducible refine Kd.C_alloc ?_ _) | (with_reducible refine Kd.C_drewN ?_ _) | (with_reducible refine Kd.C_drew ?_)))
      (case side2 => exact (Kd.R_reads' HO134.out).2.1)
      rintro e w20 ⟨v139, v144, rfl, ho0, ho1, hb⟩
      refine ⟨_, rfl, ?_⟩
      have n0_ := Aside0.mk (Kd.R_elder' (by (with_reducible repeat (first | apply Kd.R_alloc | apply Kd.R_drewN | apply Kd.R_drew)); exact HO134.out) (Kd.R_base ho0) hb)
      have n1_ := Aside0.mk (Kd.R_lower (Kd.R_new' ho0 (Kd.R_lt (by (with_reducible repeat (first | apply Kd.R_alloc | apply Kd.R_drewN | apply Kd.R_drew)); exact HO134.out))) (below_size (by repeat (first | (with_reducible first | exact HB.out | apply below_alloc | apply pw_below_drewN | apply below_drew1 | refine below_set ?_ GE128.out | refine below_set ?_ GE129.out | refine below_set ?_ GE135.out) | exact HB.out))))
      have n2_ := Aside0.mk (Kd.R_lower (Kd.R_newB (Kd.R_new' ho1 (Kd.R_lt (by (with_reducible repeat (first | apply Kd.R_alloc | apply Kd.R_drewN | apply Kd.R_drew)); exact HO134.out))) (g := gb129) (o := .cells #[.int .i64 0, .bool false, .slice none 0 0, .int .u64 0, .string (⟨#[]⟩ : ByteArray), .slice none 0 0] 28 (0, 0)) (by (with_reducible repeat (first | refine blk_drewN ?_ _ | refine blk_drew ?_ | refine blk_alloc ?_ _)); exact BK129.out)) (below_size (by repeat (first | (with_reducible first | exact HB.out | apply below_alloc | apply pw_below_drewN | apply below_drew1 | refine below_set ?_ GE128.out | refine below_set ?_ GE129.out | refine below_set ?_ GE135.out) | exact HB.out))))
      have n3_ := Aside0.mk (blk_below (g := gb128) (o := .cells #[.bool false, .slice none 0 0] 24 (0, 0)) (by (with_reducible repeat (first | refine blk_drewN ?_ _ | refine blk_drew ?_ | refine blk_alloc ?_ _)); exact BK128.out) hb)
      have n4_ := Aside0.mk (blk_below (g := gb129) (o := .cells #[.int .i64 0, .bool false, .slice none 0 0, .int .u64 0, .string (⟨#[]⟩ : ByteArray), .slice none 0 0] 28 (0, 0)) (by (with_reducible repeat (first | refine blk_drewN ?_ _ | refine blk_drew ?_ | refine blk_alloc ?_ _)); exact BK129.out) hb)
      have n5_ := Aside0.mk (blk_below (g := gb135) (o := .cells #[.bool t131, .slice Ao17 t132.length co17] 24 (0, 0)) (by (with_reducible repeat (first | refine blk_drewN ?_ _ | refine blk_drew ?_ | refine blk_alloc ?_ _)); exact BK135.out) hb)
      have n6_ := Aside0.mk (below_step (by repeat (first | (with_reducible first | exact HB.out | apply below_alloc | apply pw_below_drewN | apply below_drew1 | refine below_set ?_ GE128.out | refine below_set ?_ GE129.out | refine below_set ?_ GE135.out) | exact HB.out)) hb)
      clear HO134
      clear BK128
      clear BK129
      clear BK135
      clear HB
      have HO134 := n0_
      have HO140 := n1_
      have HO145 := n2_
      have BK128 := n3_
      have BK129 := n4_
      have BK135 := n5_
      have HB := n6_
      clear n0_ n1_ n2_ n3_ n4_ n5_ n6_
      (try clear hb)
      (try clear hb2)
      (try clear hk)
      (try clear hi)
      (try clear ho0)
      (try clear ho1)
      obtain ⟨Ao25, co25, eo25⟩ := Kd.R_slice HO140.out
      (first | subst eo25 | (injection eo25 with f1_ f2_ f3_; have f4_ := f1_.symm; have f5_ := f3_.symm; clear f1_ f2_ f3_; subst f4_; subst f5_))
      obtain ⟨Ao29, co29, eo29⟩ := Kd.R_slice HO145.out
      (first | subst eo29 | (injection eo29 with f1_ f2_ f3_; have f4_ := f1_.symm; have f5_ := f3_.symm; clear f1_ f2_ f3_; subst f4_; subst f5_))
      refine hK.out _ _ ⟨(blk_cell BK135.out 0).trans rfl, (blk_cell BK135.out 1).trans rfl⟩ (fun hHeld => ?_)
      clear hK K
      refine norm_ (a' := ?_) ?_ ?_
      rotate_left
      · show Act.put _ (some 19) _ = _
        simp only [Act.put, List.setIfInBounds_toArray, List.set_cons_zero, List.set_cons_succ, i64_w, i32_w]
        rfl
      refine one_ (i := 3) (N := none) #[true, true, true, true, false] rfl rfl (by kernel_rfl) (by decide) (fun K hK => ?_)
      have hs21 : w20.cell? ⟨gb128, 0, none⟩ = some (.bool false) := (blk_cell BK128.out 0).trans rfl
      have hfs21 := blk_frozen BK128.out 0
      have hns21_1 := NB129_128.out
      have hns21_2 := NB135_128.out
      have hms21_1 := NB128_129.out
      have hms21_2 := NB128_135.out
      have hs22 : w20.cell? ⟨gb128, 1, none⟩ = some (.slice none 0 0) := (blk_cell BK128.out 1).trans rfl
      have hfs22 := blk_frozen BK128.out 1
      have hns22_1 := NB129_128.out
      have hns22_2 := NB135_128.out
      have hms22_1 := NB128_129.out
      have hms22_2 := NB128_135.out
      refine skip_ (w1 := ?_) (by rfl) rfl ?_ ?_
      rotate_left
      · go_simp
        rfl
      refine hK.out _ _ ⟨((cell_far (p := ⟨gb128, _, none⟩) NB135_128.out _).trans (((cell_far (p := ⟨gb128, _, none⟩) NB135_128.out _).trans (hHeld.1)))), ((cell_far (p := ⟨gb128, _, none⟩) NB135_128.out _).trans (((cell_far (p := ⟨gb128, _, none⟩) NB135_128.out _).trans (hHeld.2))))⟩ (fun hHeld => ?_)
      clear hK K
      refine one_ (i := 4) (N := none) #[true, true, true, true, true] rfl rfl (by kernel_rfl) (by decide) (fun K hK => ?_)
      have hs23 : w20.cell? ⟨gb129, 0, none⟩ = some (.int .i64 0) := (blk_cell BK129.out 0).trans rfl
      have hfs23 := blk_frozen BK129.out 0
      have hns23_0 := NB128_129.out
      have hns23_2 := NB135_129.out
      have hms23_0 := NB129_128.out
      have hms23_2 := NB129_135.out
      have hs24 : w20.cell? ⟨gb129, 1, none⟩ = some (.bool false) := (blk_cell BK129.out 1).trans rfl
      have hfs24 := blk_frozen BK129.out 1
      have hns24_0 := NB128_129.out
      have hns24_2 := NB135_129.out
      have hms24_0 := NB129_128.out
      have hms24_2 := NB129_135.out
      have hs26 : w20.cell? ⟨gb129, 2, none⟩ = some (.slice none 0 0) := (blk_cell BK129.out 2).trans rfl
      have hfs26 := blk_frozen BK129.out 2
      have hns26_0 := NB128_129.out
      have hns26_2 := NB135_129.out
      have hms26_0 := NB129_128.out
      have hms26_2 := NB129_135.out
      have hs27 : w20.cell? ⟨gb129, 3, none⟩ = some (.int .u64 0) := (blk_cell BK129.out 3).trans rfl
      have hfs27 := blk_frozen BK129.out 3
      have hns27_0 := NB128_129.out
      have hns27_2 := NB135_129.out
      have hms27_0 := NB129_128.out
      have hms27_2 := NB129_135.out
      have hs28 : w20.cell? ⟨gb129, 4, none⟩ = some (.string (⟨#[]⟩ : ByteArray)) := (blk_cell BK129.out 4).trans rfl
      have hfs28 := blk_frozen BK129.out 4
      have hns28_0 := NB128_129.out
      have hns28_2 := NB135_129.out
      have hms28_0 := NB129_128.out
      have hms28_2 := NB129_135.out
      have hs30 : w20.cell? ⟨gb129, 5, none⟩ = some (.slice none 0 0) := (blk_cell BK129.out 5).trans rfl
      have hfs30 := blk_frozen BK129.out 5
      have hns30_0 := NB128_129.out
      have hns30_2 := NB135_129.out
      have hms30_0 := NB129_128.out
      have hms30_2 := NB129_135.out
      refine skip_ (w1 := ?_) (by rfl) rfl ?_ ?_
      rotate_left
      · go_simp
        rfl
      refine hK.out _ _ ⟨((cell_far (p := ⟨gb129, _, none⟩) NB135_129.out _).trans (((cell_far (p := ⟨gb129, _, none⟩) NB135_129.out _).trans (((cell_far (p := ⟨gb129, _, none⟩) NB135_129.out _).trans (((cell_far (p := ⟨gb129, _, none⟩) NB135_129.out _).trans (((cell_far (p := ⟨gb129, _, none⟩) NB135_129.out _).trans (((cell_far (p := ⟨gb129, _, none⟩) NB135_129.out _).trans (hHeld.1)))))))))))), ((cell_far (p := ⟨gb129, _, none⟩) NB135_129.out _).trans (((cell_far (p := ⟨gb129, _, none⟩) NB135_129.out _).trans (((cell_far (p := ⟨gb129, _, none⟩) NB135_129.out _).trans (((cell_far (p := ⟨gb129, _, none⟩) NB135_129.out _).trans (((cell_far (p := ⟨gb129, _, none⟩) NB135_129.out _).trans (((cell_far (p := ⟨gb129, _, none⟩) NB135_129.out _).trans (hHeld.2))))))))))))⟩ (fun hHeld => ?_)
      clear hK K
      refine done_ (by kernel_rfl) ?_
      try go_wp2
      refine bodyPost_ret (results_cc rfl _ _ gb128 gb129 24 28 #[.bool t131, .slice Ao17 t132.length co17] #[.int .i64 t136, .bool t137, .slice Ao25 t138.length co25, .int .u64 t141, .string t142, .slice Ao29 t143.length co29] (0, 0) (0, 0) _ _ rfl (by (with_reducible repeat (first | refine blk_drewN ?_ _ | refine blk_drew ?_ | refine blk_alloc ?_ _)); refine blk_far ?_ NB128_129.out _; (with_reducible repeat (first | refine blk_drewN ?_ _ | refine blk_drew ?_ | refine blk_alloc ?_ _)); refine blk_far ?_ NB128_129.out _; (with_reducible repeat (first | refine blk_drewN ?_ _ | refine blk_drew ?_ | refine blk_alloc ?_ _)); refine blk_far ?_ NB128_129.out _; (with_reducible repeat (first | refine blk_drewN ?_ _ | refine blk_drew ?_ | refine blk_alloc ?_ _)); refine blk_far ?_ NB128_129.out _; (with_reducible repeat (first | refine blk_drewN ?_ _ | refine blk_drew ?_ | refine blk_alloc ?_ _)); refine blk_far ?_ NB128_129.out _; (with_reducible repeat (first | refine blk_drewN ?_ _ | refine blk_drew ?_ | refine blk_alloc ?_ _)); refine blk_far ?_ NB128_129.out _; (with_reducible repeat (first | refine blk_drewN ?_ _ | refine blk_drew ?_ | refine blk_alloc ?_ _)); refine blk_put (cs := #[.bool t131, .slice none 0 0]) ?_ 1 _ rfl; (with_reducible repeat (first | refine blk_drewN ?_ _ | refine blk_drew ?_ | refine blk_alloc ?_ _)); refine blk_put (cs := #[.bool false, .slice none 0 0]) ?_ 0 _ rfl; (with_reducible repeat (first | refine blk_drewN ?_ _ | refine blk_drew ?_ | refine blk_alloc ?_ _)); exact BK128.out) Tryz.underlying24 rfl (by kernel_rfl) rfl (by (with_reducible repeat (first | refine blk_drewN ?_ _ | refine blk_drew ?_ | refine blk_alloc ?_ _)); refine blk_put (cs := #[.int .i64 t136, .bool t137, .slice Ao25 t138.length co25, .int .u64 t141, .string t142, .slice none 0 0]) ?_ 5 _ rfl; (with_reducible repeat (first | refine blk_drewN ?_ _ | refine blk_drew ?_ | refine blk_alloc ?_ _)); refine blk_put (cs := #[.int .i64 t136, .bool t137, .slice Ao25 t138.length co25, .int .u64 t141, .string (⟨#[]⟩ : ByteArray), .slice none 0 0]) ?_ 4 _ rfl; (with_reducible repeat (first | refine blk_drewN ?_ _ | refine blk_drew ?_ | refine blk_alloc ?_ _)); refine blk_put (cs := #[.int .i64 t136, .bool t137, .slice Ao25 t138.length co25, .int .u64 0, .string (⟨#[]⟩ : ByteArray), .slice none 0 0]) ?_ 3 _ rfl; (with_reducible repeat (first | refine blk_drewN ?_ _ | refine blk_drew ?_ | refine blk_alloc ?_ _)); refine blk_put (cs := #[.int .i64 t136, .bool t137, .slice none 0 0, .int .u64 0, .string (⟨#[]⟩ : ByteArray), .slice none 0 0]) ?_ 2 _ rfl; (with_reducible repeat (first | refine blk_drewN ?_ _ | refine blk_drew ?_ | refine blk_alloc ?_ _)); refine blk_put (cs := #[.int .i64 t136, .bool false, .slice none 0 0, .int .u64 0, .string (⟨#[]⟩ : ByteArray), .slice none 0 0]) ?_ 1 _ rfl; (with_reducible repeat (first | refine blk_drewN ?_ _ | refine blk_drew ?_ | refine blk_alloc ?_ _)); refine blk_put (cs := #[.int .i64 0, .bool false, .slice none 0 0, .int .u64 0, .string (⟨#[]⟩ : ByteArray), .slice none 0 0]) ?_ 0 _ rfl; (with_reducible repeat (first | refine blk_drewN ?_ _ | refine blk_drew ?_ | refine blk_alloc ?_ _)); refine blk_far ?_ NB129_128.out _; (with_reducible repeat (first | refine blk_drewN ?_ _ | refine blk_drew ?_ | refine blk_alloc ?_ _)); refine blk_far ?_ NB129_128.out _; (with_reducible repeat (first | refine blk_drewN ?_ _ | refine blk_drew ?_ | refine blk_alloc ?_ _)); exact BK129.out) Tryz.underlying28 rfl (by kernel_rfl)) rfl ?_
      exact ⟨_, _, _, by first | rfl | (simp [errW_none, errW_some] <;> rfl) | (simp only [← hji4]; first | rfl | (simp [errW_none, errW_some] <;> rfl)) | (simp [*, errW_none, errW_some] <;> rfl), by (with_reducible repeat (first | apply Kd.R_alloc | apply Kd.R_drewN | apply Kd.R_drew)); exact Kd.R_mono (Kd.R_far (p := ⟨gb129, 5, none⟩) (Kd.R_far (p := ⟨gb129, 4, none⟩) (Kd.R_far (p := ⟨gb129, 3, none⟩) (Kd.R_far (p := ⟨gb129, 2, none⟩) (Kd.R_far (p := ⟨gb129, 1, none⟩) (Kd.R_far (p := ⟨gb129, 0, none⟩) (Kd.R_far (p := ⟨gb128, 1, none⟩) (Kd.R_far (p := ⟨gb128, 0, none⟩) (Kd.R_types (Kd.R_types HO134.out BK128.out (by decide)) BK129.out (by decide)) (fun _ hk => hk.1.2) (.bool t131)) (fun _ hk => hk.1.2) (.slice Ao17 t132.length co17)) (fun _ hk => hk.2) (.int .i64 t136)) (fun _ hk => hk.2) (.bool t137)) (fun _ hk => hk.2) (.slice Ao25 t138.length co25)) (fun _ hk => hk.2) (.int .u64 t141)) (fun _ hk => hk.2) (.string t142)) (fun _ hk => hk.2) (.slice Ao29 t143.length co29)) (fun _ hk => hk.1.1.2), by (with_reducible repeat (first | apply Kd.R_alloc | apply Kd.R_drewN | apply Kd.R_drew)); exact Kd.R_mono (Kd.R_far (p := ⟨gb129, 5, none⟩) (Kd.R_far (p := ⟨gb129, 4, none⟩) (Kd.R_far (p := ⟨gb129, 3, none⟩) (Kd.R_far (p := ⟨gb129, 2, none⟩) (Kd.R_far (p := ⟨gb129, 1, none⟩) (Kd.R_far (p := ⟨gb129, 0, none⟩) (Kd.R_far (p := ⟨gb128, 1, none⟩) (Kd.R_far (p := ⟨gb128, 0, none⟩) (Kd.R_types (Kd.R_types HO140.out BK128.out (by decide)) BK129.out (by decide)) (fun _ hk => hk.1.2) (.bool t131)) (fun _ hk => hk.1.2) (.slice Ao17 t132.length co17)) (fun _ hk => hk.2) (.int .i64 t136)) (fun _ hk => hk.2) (.bool t137)) (fun _ hk => hk.2) (.slice Ao25 t138.length co25)) (fun _ hk => hk.2) (.int .u64 t141)) (fun _ hk => hk.2) (.string t142)) (fun _ hk => hk.2) (.slice Ao29 t143.length co29)) (fun _ hk => hk.1.1.2), by (with_reducible repeat (first | apply Kd.R_alloc | apply Kd.R_drewN | apply Kd.R_drew)); exact Kd.R_mono (Kd.R_far (p := ⟨gb129, 5, none⟩) (Kd.R_far (p := ⟨gb129, 4, none⟩) (Kd.R_far (p := ⟨gb129, 3, none⟩) (Kd.R_far (p := ⟨gb129, 2, none⟩) (Kd.R_far (p := ⟨gb129, 1, none⟩) (Kd.R_far (p := ⟨gb129, 0, none⟩) (Kd.R_far (p := ⟨gb128, 1, none⟩) (Kd.R_far (p := ⟨gb128, 0, none⟩) (Kd.R_mono (Kd.R_types HO145.out BK128.out (by decide)) (fun k_ hk => (⟨hk, hk.1.2⟩ : _ ∧ k_ ≠ gb129))) (fun _ hk => hk.1.2) (.bool t131)) (fun _ hk => hk.1.2) (.slice Ao17 t132.length co17)) (fun _ hk => hk.2) (.int .i64 t136)) (fun _ hk => hk.2) (.bool t137)) (fun _ hk => hk.2) (.slice Ao25 t138.length co25)) (fun _ hk => hk.2) (.int .u64 t141)) (fun _ hk => hk.2) (.string t142)) (fun _ hk => hk.2) (.slice Ao29 t143.length co29)) (fun _ hk => ⟨hk.1.1.1.2, hk.1.1.1.1⟩), by repeat (first | (with_reducible first | exact HB.out | apply below_alloc | apply pw_below_drewN | apply below_drew1 | refine below_set ?_ GE128.out | refine below_set ?_ GE129.out | refine below_set ?_ GE135.out) | exact HB.out)⟩
    · rw [if_neg c6] at H
      exact absurd H (by simp)
  · rw [if_neg c5] at H
    exact absurd H (by simp)
end Go.Proofs.YtdidglfaogmnfaaGreatDoor.Pwhole
namespace Go.Proofs.YtdidglfaogmnfaaGreatDoor.Pwhole
open Go.RowKit Go.Proofs.YtdidglfaogmnfaaGreatDoorW.PrintWords Go.Proofs.YtdidglfaogmnfaaGreatDoorW.PrintLast Go.Proofs.YtdidglfaogmnfaaGreatDoorW.PrintMore
attribute [local go_sem] max2_int min2_int max_two min_two max_three min_three max_four min_four
set_option linter.unusedVariables false
set_option linter.unusedSimpArgs false
end Go.Proofs.YtdidglfaogmnfaaGreatDoor.Pwhole