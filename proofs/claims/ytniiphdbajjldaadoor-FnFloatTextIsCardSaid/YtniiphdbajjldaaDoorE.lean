/-
  A part of the proof of FnFloatTextIs: fmtEFG at the form with an exponent.
-/
import Derived.Test.YtniiphdbajjldaaDoorD
namespace Go.Proofs.YtniiphdbajjldaaDoor
open Go.RowKit

structure Dig (arr : Array Value) (nd : Nat) (ds : List Int) : Prop where
  size : arr.size = 32
  len : ds.length = nd
  at_ : ∀ j, j < nd → arr[j]? = some (.int .u8 (ds.getD j 0))

/-- fmtEFG at 'g', the shortest digits: one text, whatever the world -/
def FmtG (neg : Bool) (nd : Nat) (ds : List Int) (dp : Int) : Prop :=
  ∃ out : List Int, ∀ (B : Nat) (w0 w : World) (sb : Nat) (arr : Array Value) (v : Value), Dig arr nd ds → St B w0 (some (sb, arr)) v [] w →
    Calls Tryd.prog 29 #[v, .bool neg, .slice (some ⟨sb, 0, none⟩) 32 32, .int .i64 dp, .int .i64 nd, .int .i64 nd, .int .u8 103, .bool true] w fun en w' =>
      ∃ v', en = .returned v' ∧ St B w0 (some (sb, arr)) v' out w'

set_option maxHeartbeats 2000000 in
set_option maxRecDepth 100000 in
theorem fmtE0fn (ds : List Int) (dp : Int) (h0 : dp - 1 < -4) (h1 : -500 ≤ dp) : FmtG false 0 ds dp := by
  apply Exists.intro
  intro B w0 w sb arr v hD hst
  go_enter Tryd.func29, Tryd.ntmps29
  go_wp2_with (first
     | (at_builtin; refine app_new rfl _ _ rfl hst rfl _ [_] 1 rfl rfl rfl (by first | (simp; done) | (simp; omega)) ?_; clear hst; intro v1 w1 hst)
     | (at_builtin; refine app_new rfl _ _ rfl hst rfl _ [_, _] 2 rfl rfl rfl (by first | (simp; done) | (simp; omega)) ?_; clear hst; intro v1 w1 hst)
     | (at_builtin; refine app_new rfl _ _ rfl hst rfl _ [_, _, _] 3 rfl rfl rfl (by first | (simp; done) | (simp; omega)) ?_; clear hst; intro v1 w1 hst))
  go_ret
  exact ⟨_, rfl, hst⟩

set_option maxHeartbeats 2000000 in
set_option maxRecDepth 100000 in
theorem fmtE0fp (ds : List Int) (dp : Int) (h0 : 6 ≤ dp - 1) (h1 : dp ≤ 500) : FmtG false 0 ds dp := by
  apply Exists.intro
  intro B w0 w sb arr v hD hst
  go_enter Tryd.func29, Tryd.ntmps29
  go_wp2_with (first
     | (at_builtin; refine app_new rfl _ _ rfl hst rfl _ [_] 1 rfl rfl rfl (by first | (simp; done) | (simp; omega)) ?_; clear hst; intro v1 w1 hst)
     | (at_builtin; refine app_new rfl _ _ rfl hst rfl _ [_, _] 2 rfl rfl rfl (by first | (simp; done) | (simp; omega)) ?_; clear hst; intro v1 w1 hst)
     | (at_builtin; refine app_new rfl _ _ rfl hst rfl _ [_, _, _] 3 rfl rfl rfl (by first | (simp; done) | (simp; omega)) ?_; clear hst; intro v1 w1 hst))
  go_ret
  exact ⟨_, rfl, hst⟩

set_option maxHeartbeats 2000000 in
set_option maxRecDepth 100000 in
theorem fmtE1fa (ds : List Int) (dp : Int)  (h0 : dp - 1 < -4) (h1 : -(dp - 1) < 10) : FmtG false 1 ds dp := by
  by_cases hdl : ds.length = 1
  case neg => exact ⟨[], fun B w0 w sb arr v hD => absurd hD.len hdl⟩
  apply Exists.intro
  intro B w0 w sb arr v hD hst
  have hc0 : ∀ v l w', St B w0 (some (sb, arr)) v l w' → w'.cell? ⟨sb, 0, none⟩ = some (.int .u8 (ds.getD 0 0)) := fun v l w' h => by
    rw [cell_of_row w' sb 0 arr 56 (0, 0) (h.dig _ rfl).1]; exact hD.at_ 0 (by omega)
  have hw0 := hc0 _ _ _ hst
  have K0 := Lib.hid hc0
  clear hc0
  go_enter Tryd.func29, Tryd.ntmps29
  go_wp2_with (first
     | (at_builtin; refine app_new rfl _ _ rfl hst rfl _ [_] 1 rfl rfl rfl (by first | (simp; done) | (simp; omega)) ?_; clear hst hw0; intro v1 w1 hst; have hw0 := K0.out _ _ _ hst)
     | (at_builtin; refine app_new rfl _ _ rfl hst rfl _ [_, _] 2 rfl rfl rfl (by first | (simp; done) | (simp; omega)) ?_; clear hst hw0; intro v1 w1 hst; have hw0 := K0.out _ _ _ hst)
     | (at_builtin; refine app_new rfl _ _ rfl hst rfl _ [_, _, _] 3 rfl rfl rfl (by first | (simp; done) | (simp; omega)) ?_; clear hst hw0; intro v1 w1 hst; have hw0 := K0.out _ _ _ hst))
  go_ret
  exact ⟨_, rfl, hst⟩

set_option maxHeartbeats 2000000 in
set_option maxRecDepth 100000 in
theorem fmtE2fa (nd : Nat) (ds : List Int) (dp : Int) (hnd0 : 2 ≤ nd) (hnd1 : nd ≤ 20) (h0 : dp - 1 < -4) (h1 : -(dp - 1) < 10) : FmtG false nd ds dp := by
  obtain ⟨tl, htl⟩ : ∃ tl, tl = ds.tail := ⟨_, rfl⟩
  have KT : Hid (tl = ds.tail) := Lib.hid htl
  clear htl
  by_cases hdl : ds.length = nd
  case neg => exact ⟨[], fun B w0 w sb arr v hD => absurd hD.len hdl⟩
  have htlen : tl.length = nd - 1 := by rw [KT.out, List.length_tail, hdl]
  have KL := Lib.hid htlen
  have hl19 : tl.length ≤ 19 := by rw [htlen]; omega
  clear htlen
  apply Exists.intro
  intro B w0 w sb arr v hD hst
  have harr : ∀ j, j < nd - 1 → arr[1 + j]? = some (.int .u8 (tl.getD j 0)) := fun j hj => by
    rw [hD.at_ _ (by omega), KT.out]; cases ds <;> simp [Nat.add_comm]
  have KA := Lib.hid harr
  clear harr
  have hc0 : ∀ v l w', St B w0 (some (sb, arr)) v l w' → w'.cell? ⟨sb, 0, none⟩ = some (.int .u8 (ds.getD 0 0)) := fun v l w' h => by
    rw [cell_of_row w' sb 0 arr 56 (0, 0) (h.dig _ rfl).1]; exact hD.at_ 0 (by omega)
  have hw0 := hc0 _ _ _ hst
  have K0 := Lib.hid hc0
  clear hc0
  go_enter Tryd.func29, Tryd.ntmps29
  go_wp2_with (first
     | (at_builtin; refine app_new rfl _ _ rfl hst rfl _ [_] 1 rfl rfl rfl (by first | (simp; done) | (simp; omega)) ?_; clear hst hw0; intro v1 w1 hst; have hw0 := K0.out _ _ _ hst)
     | (at_builtin; refine app_new rfl _ _ rfl hst rfl _ [_, _] 2 rfl rfl rfl (by first | (simp; done) | (simp; omega)) ?_; clear hst hw0; intro v1 w1 hst; have hw0 := K0.out _ _ _ hst)
     | (at_builtin; refine app_new rfl _ _ rfl hst rfl _ [_, _, _] 3 rfl rfl rfl (by first | (simp; done) | (simp; omega)) ?_; clear hst hw0; intro v1 w1 hst; have hw0 := K0.out _ _ _ hst)
     | (at_builtin; refine app_dig rfl _ _ rfl rfl hst rfl 1 (nd - 1) _ tl rfl KA.out KL.out (by first | (simp; done) | (simp; omega)) ?_; clear hst hw0; intro v1 w1 hst; have hw0 := K0.out _ _ _ hst))
  refine wp_loop_rounds 1 ?_
  rw [rounds_succ]
  go_wp2_with (first
     | (at_builtin; refine app_new rfl _ _ rfl hst rfl _ [_] 1 rfl rfl rfl (by first | (simp; done) | (simp; omega)) ?_; clear hst hw0; intro v1 w1 hst; have hw0 := K0.out _ _ _ hst)
     | (at_builtin; refine app_new rfl _ _ rfl hst rfl _ [_, _] 2 rfl rfl rfl (by first | (simp; done) | (simp; omega)) ?_; clear hst hw0; intro v1 w1 hst; have hw0 := K0.out _ _ _ hst)
     | (at_builtin; refine app_new rfl _ _ rfl hst rfl _ [_, _, _] 3 rfl rfl rfl (by first | (simp; done) | (simp; omega)) ?_; clear hst hw0; intro v1 w1 hst; have hw0 := K0.out _ _ _ hst)
     | (at_builtin; refine app_dig rfl _ _ rfl rfl hst rfl 1 (nd - 1) _ tl rfl KA.out KL.out (by first | (simp; done) | (simp; omega)) ?_; clear hst hw0; intro v1 w1 hst; have hw0 := K0.out _ _ _ hst))
  go_ret
  exact ⟨_, rfl, hst⟩

set_option maxHeartbeats 2000000 in
set_option maxRecDepth 100000 in
theorem fmtE1fb (ds : List Int) (dp : Int)  (h0 : 10 ≤ -(dp - 1)) (h1 : -(dp - 1) < 100) : FmtG false 1 ds dp := by
  by_cases hdl : ds.length = 1
  case neg => exact ⟨[], fun B w0 w sb arr v hD => absurd hD.len hdl⟩
  apply Exists.intro
  intro B w0 w sb arr v hD hst
  have hc0 : ∀ v l w', St B w0 (some (sb, arr)) v l w' → w'.cell? ⟨sb, 0, none⟩ = some (.int .u8 (ds.getD 0 0)) := fun v l w' h => by
    rw [cell_of_row w' sb 0 arr 56 (0, 0) (h.dig _ rfl).1]; exact hD.at_ 0 (by omega)
  have hw0 := hc0 _ _ _ hst
  have K0 := Lib.hid hc0
  clear hc0
  go_enter Tryd.func29, Tryd.ntmps29
  go_wp2_with (first
     | (at_builtin; refine app_new rfl _ _ rfl hst rfl _ [_] 1 rfl rfl rfl (by first | (simp; done) | (simp; omega)) ?_; clear hst hw0; intro v1 w1 hst; have hw0 := K0.out _ _ _ hst)
     | (at_builtin; refine app_new rfl _ _ rfl hst rfl _ [_, _] 2 rfl rfl rfl (by first | (simp; done) | (simp; omega)) ?_; clear hst hw0; intro v1 w1 hst; have hw0 := K0.out _ _ _ hst)
     | (at_builtin; refine app_new rfl _ _ rfl hst rfl _ [_, _, _] 3 rfl rfl rfl (by first | (simp; done) | (simp; omega)) ?_; clear hst hw0; intro v1 w1 hst; have hw0 := K0.out _ _ _ hst))
  go_ret
  exact ⟨_, rfl, hst⟩

set_option maxHeartbeats 2000000 in
set_option maxRecDepth 100000 in
theorem fmtE2fb (nd : Nat) (ds : List Int) (dp : Int) (hnd0 : 2 ≤ nd) (hnd1 : nd ≤ 20) (h0 : 10 ≤ -(dp - 1)) (h1 : -(dp - 1) < 100) : FmtG false nd ds dp := by
  obtain ⟨tl, htl⟩ : ∃ tl, tl = ds.tail := ⟨_, rfl⟩
  have KT : Hid (tl = ds.tail) := Lib.hid htl
  clear htl
  by_cases hdl : ds.length = nd
  case neg => exact ⟨[], fun B w0 w sb arr v hD => absurd hD.len hdl⟩
  have htlen : tl.length = nd - 1 := by rw [KT.out, List.length_tail, hdl]
  have KL := Lib.hid htlen
  have hl19 : tl.length ≤ 19 := by rw [htlen]; omega
  clear htlen
  apply Exists.intro
  intro B w0 w sb arr v hD hst
  have harr : ∀ j, j < nd - 1 → arr[1 + j]? = some (.int .u8 (tl.getD j 0)) := fun j hj => by
    rw [hD.at_ _ (by omega), KT.out]; cases ds <;> simp [Nat.add_comm]
  have KA := Lib.hid harr
  clear harr
  have hc0 : ∀ v l w', St B w0 (some (sb, arr)) v l w' → w'.cell? ⟨sb, 0, none⟩ = some (.int .u8 (ds.getD 0 0)) := fun v l w' h => by
    rw [cell_of_row w' sb 0 arr 56 (0, 0) (h.dig _ rfl).1]; exact hD.at_ 0 (by omega)
  have hw0 := hc0 _ _ _ hst
  have K0 := Lib.hid hc0
  clear hc0
  go_enter Tryd.func29, Tryd.ntmps29
  go_wp2_with (first
     | (at_builtin; refine app_new rfl _ _ rfl hst rfl _ [_] 1 rfl rfl rfl (by first | (simp; done) | (simp; omega)) ?_; clear hst hw0; intro v1 w1 hst; have hw0 := K0.out _ _ _ hst)
     | (at_builtin; refine app_new rfl _ _ rfl hst rfl _ [_, _] 2 rfl rfl rfl (by first | (simp; done) | (simp; omega)) ?_; clear hst hw0; intro v1 w1 hst; have hw0 := K0.out _ _ _ hst)
     | (at_builtin; refine app_new rfl _ _ rfl hst rfl _ [_, _, _] 3 rfl rfl rfl (by first | (simp; done) | (simp; omega)) ?_; clear hst hw0; intro v1 w1 hst; have hw0 := K0.out _ _ _ hst)
     | (at_builtin; refine app_dig rfl _ _ rfl rfl hst rfl 1 (nd - 1) _ tl rfl KA.out KL.out (by first | (simp; done) | (simp; omega)) ?_; clear hst hw0; intro v1 w1 hst; have hw0 := K0.out _ _ _ hst))
  refine wp_loop_rounds 1 ?_
  rw [rounds_succ]
  go_wp2_with (first
     | (at_builtin; refine app_new rfl _ _ rfl hst rfl _ [_] 1 rfl rfl rfl (by first | (simp; done) | (simp; omega)) ?_; clear hst hw0; intro v1 w1 hst; have hw0 := K0.out _ _ _ hst)
     | (at_builtin; refine app_new rfl _ _ rfl hst rfl _ [_, _] 2 rfl rfl rfl (by first | (simp; done) | (simp; omega)) ?_; clear hst hw0; intro v1 w1 hst; have hw0 := K0.out _ _ _ hst)
     | (at_builtin; refine app_new rfl _ _ rfl hst rfl _ [_, _, _] 3 rfl rfl rfl (by first | (simp; done) | (simp; omega)) ?_; clear hst hw0; intro v1 w1 hst; have hw0 := K0.out _ _ _ hst)
     | (at_builtin; refine app_dig rfl _ _ rfl rfl hst rfl 1 (nd - 1) _ tl rfl KA.out KL.out (by first | (simp; done) | (simp; omega)) ?_; clear hst hw0; intro v1 w1 hst; have hw0 := K0.out _ _ _ hst))
  go_ret
  exact ⟨_, rfl, hst⟩

set_option maxHeartbeats 2000000 in
set_option maxRecDepth 100000 in
theorem fmtE1fc (ds : List Int) (dp : Int)  (h0 : 100 ≤ -(dp - 1)) (h1 : -500 ≤ dp) : FmtG false 1 ds dp := by
  by_cases hdl : ds.length = 1
  case neg => exact ⟨[], fun B w0 w sb arr v hD => absurd hD.len hdl⟩
  apply Exists.intro
  intro B w0 w sb arr v hD hst
  have hc0 : ∀ v l w', St B w0 (some (sb, arr)) v l w' → w'.cell? ⟨sb, 0, none⟩ = some (.int .u8 (ds.getD 0 0)) := fun v l w' h => by
    rw [cell_of_row w' sb 0 arr 56 (0, 0) (h.dig _ rfl).1]; exact hD.at_ 0 (by omega)
  have hw0 := hc0 _ _ _ hst
  have K0 := Lib.hid hc0
  clear hc0
  go_enter Tryd.func29, Tryd.ntmps29
  go_wp2_with (first
     | (at_builtin; refine app_new rfl _ _ rfl hst rfl _ [_] 1 rfl rfl rfl (by first | (simp; done) | (simp; omega)) ?_; clear hst hw0; intro v1 w1 hst; have hw0 := K0.out _ _ _ hst)
     | (at_builtin; refine app_new rfl _ _ rfl hst rfl _ [_, _] 2 rfl rfl rfl (by first | (simp; done) | (simp; omega)) ?_; clear hst hw0; intro v1 w1 hst; have hw0 := K0.out _ _ _ hst)
     | (at_builtin; refine app_new rfl _ _ rfl hst rfl _ [_, _, _] 3 rfl rfl rfl (by first | (simp; done) | (simp; omega)) ?_; clear hst hw0; intro v1 w1 hst; have hw0 := K0.out _ _ _ hst))
  go_ret
  exact ⟨_, rfl, hst⟩

set_option maxHeartbeats 2000000 in
set_option maxRecDepth 100000 in
theorem fmtE2fc (nd : Nat) (ds : List Int) (dp : Int) (hnd0 : 2 ≤ nd) (hnd1 : nd ≤ 20) (h0 : 100 ≤ -(dp - 1)) (h1 : -500 ≤ dp) : FmtG false nd ds dp := by
  obtain ⟨tl, htl⟩ : ∃ tl, tl = ds.tail := ⟨_, rfl⟩
  have KT : Hid (tl = ds.tail) := Lib.hid htl
  clear htl
  by_cases hdl : ds.length = nd
  case neg => exact ⟨[], fun B w0 w sb arr v hD => absurd hD.len hdl⟩
  have htlen : tl.length = nd - 1 := by rw [KT.out, List.length_tail, hdl]
  have KL := Lib.hid htlen
  have hl19 : tl.length ≤ 19 := by rw [htlen]; omega
  clear htlen
  apply Exists.intro
  intro B w0 w sb arr v hD hst
  have harr : ∀ j, j < nd - 1 → arr[1 + j]? = some (.int .u8 (tl.getD j 0)) := fun j hj => by
    rw [hD.at_ _ (by omega), KT.out]; cases ds <;> simp [Nat.add_comm]
  have KA := Lib.hid harr
  clear harr
  have hc0 : ∀ v l w', St B w0 (some (sb, arr)) v l w' → w'.cell? ⟨sb, 0, none⟩ = some (.int .u8 (ds.getD 0 0)) := fun v l w' h => by
    rw [cell_of_row w' sb 0 arr 56 (0, 0) (h.dig _ rfl).1]; exact hD.at_ 0 (by omega)
  have hw0 := hc0 _ _ _ hst
  have K0 := Lib.hid hc0
  clear hc0
  go_enter Tryd.func29, Tryd.ntmps29
  go_wp2_with (first
     | (at_builtin; refine app_new rfl _ _ rfl hst rfl _ [_] 1 rfl rfl rfl (by first | (simp; done) | (simp; omega)) ?_; clear hst hw0; intro v1 w1 hst; have hw0 := K0.out _ _ _ hst)
     | (at_builtin; refine app_new rfl _ _ rfl hst rfl _ [_, _] 2 rfl rfl rfl (by first | (simp; done) | (simp; omega)) ?_; clear hst hw0; intro v1 w1 hst; have hw0 := K0.out _ _ _ hst)
     | (at_builtin; refine app_new rfl _ _ rfl hst rfl _ [_, _, _] 3 rfl rfl rfl (by first | (simp; done) | (simp; omega)) ?_; clear hst hw0; intro v1 w1 hst; have hw0 := K0.out _ _ _ hst)
     | (at_builtin; refine app_dig rfl _ _ rfl rfl hst rfl 1 (nd - 1) _ tl rfl KA.out KL.out (by first | (simp; done) | (simp; omega)) ?_; clear hst hw0; intro v1 w1 hst; have hw0 := K0.out _ _ _ hst))
  refine wp_loop_rounds 1 ?_
  rw [rounds_succ]
  go_wp2_with (first
     | (at_builtin; refine app_new rfl _ _ rfl hst rfl _ [_] 1 rfl rfl rfl (by first | (simp; done) | (simp; omega)) ?_; clear hst hw0; intro v1 w1 hst; have hw0 := K0.out _ _ _ hst)
     | (at_builtin; refine app_new rfl _ _ rfl hst rfl _ [_, _] 2 rfl rfl rfl (by first | (simp; done) | (simp; omega)) ?_; clear hst hw0; intro v1 w1 hst; have hw0 := K0.out _ _ _ hst)
     | (at_builtin; refine app_new rfl _ _ rfl hst rfl _ [_, _, _] 3 rfl rfl rfl (by first | (simp; done) | (simp; omega)) ?_; clear hst hw0; intro v1 w1 hst; have hw0 := K0.out _ _ _ hst)
     | (at_builtin; refine app_dig rfl _ _ rfl rfl hst rfl 1 (nd - 1) _ tl rfl KA.out KL.out (by first | (simp; done) | (simp; omega)) ?_; clear hst hw0; intro v1 w1 hst; have hw0 := K0.out _ _ _ hst))
  go_ret
  exact ⟨_, rfl, hst⟩

set_option maxHeartbeats 2000000 in
set_option maxRecDepth 100000 in
theorem fmtE1fd (ds : List Int) (dp : Int)  (h0 : 6 ≤ dp - 1) (h1 : dp - 1 < 10) : FmtG false 1 ds dp := by
  by_cases hdl : ds.length = 1
  case neg => exact ⟨[], fun B w0 w sb arr v hD => absurd hD.len hdl⟩
  apply Exists.intro
  intro B w0 w sb arr v hD hst
  have hc0 : ∀ v l w', St B w0 (some (sb, arr)) v l w' → w'.cell? ⟨sb, 0, none⟩ = some (.int .u8 (ds.getD 0 0)) := fun v l w' h => by
    rw [cell_of_row w' sb 0 arr 56 (0, 0) (h.dig _ rfl).1]; exact hD.at_ 0 (by omega)
  have hw0 := hc0 _ _ _ hst
  have K0 := Lib.hid hc0
  clear hc0
  go_enter Tryd.func29, Tryd.ntmps29
  go_wp2_with (first
     | (at_builtin; refine app_new rfl _ _ rfl hst rfl _ [_] 1 rfl rfl rfl (by first | (simp; done) | (simp; omega)) ?_; clear hst hw0; intro v1 w1 hst; have hw0 := K0.out _ _ _ hst)
     | (at_builtin; refine app_new rfl _ _ rfl hst rfl _ [_, _] 2 rfl rfl rfl (by first | (simp; done) | (simp; omega)) ?_; clear hst hw0; intro v1 w1 hst; have hw0 := K0.out _ _ _ hst)
     | (at_builtin; refine app_new rfl _ _ rfl hst rfl _ [_, _, _] 3 rfl rfl rfl (by first | (simp; done) | (simp; omega)) ?_; clear hst hw0; intro v1 w1 hst; have hw0 := K0.out _ _ _ hst))
  go_ret
  exact ⟨_, rfl, hst⟩

set_option maxHeartbeats 2000000 in
set_option maxRecDepth 100000 in
theorem fmtE2fd (nd : Nat) (ds : List Int) (dp : Int) (hnd0 : 2 ≤ nd) (hnd1 : nd ≤ 20) (h0 : 6 ≤ dp - 1) (h1 : dp - 1 < 10) : FmtG false nd ds dp := by
  obtain ⟨tl, htl⟩ : ∃ tl, tl = ds.tail := ⟨_, rfl⟩
  have KT : Hid (tl = ds.tail) := Lib.hid htl
  clear htl
  by_cases hdl : ds.length = nd
  case neg => exact ⟨[], fun B w0 w sb arr v hD => absurd hD.len hdl⟩
  have htlen : tl.length = nd - 1 := by rw [KT.out, List.length_tail, hdl]
  have KL := Lib.hid htlen
  have hl19 : tl.length ≤ 19 := by rw [htlen]; omega
  clear htlen
  apply Exists.intro
  intro B w0 w sb arr v hD hst
  have harr : ∀ j, j < nd - 1 → arr[1 + j]? = some (.int .u8 (tl.getD j 0)) := fun j hj => by
    rw [hD.at_ _ (by omega), KT.out]; cases ds <;> simp [Nat.add_comm]
  have KA := Lib.hid harr
  clear harr
  have hc0 : ∀ v l w', St B w0 (some (sb, arr)) v l w' → w'.cell? ⟨sb, 0, none⟩ = some (.int .u8 (ds.getD 0 0)) := fun v l w' h => by
    rw [cell_of_row w' sb 0 arr 56 (0, 0) (h.dig _ rfl).1]; exact hD.at_ 0 (by omega)
  have hw0 := hc0 _ _ _ hst
  have K0 := Lib.hid hc0
  clear hc0
  go_enter Tryd.func29, Tryd.ntmps29
  go_wp2_with (first
     | (at_builtin; refine app_new rfl _ _ rfl hst rfl _ [_] 1 rfl rfl rfl (by first | (simp; done) | (simp; omega)) ?_; clear hst hw0; intro v1 w1 hst; have hw0 := K0.out _ _ _ hst)
     | (at_builtin; refine app_new rfl _ _ rfl hst rfl _ [_, _] 2 rfl rfl rfl (by first | (simp; done) | (simp; omega)) ?_; clear hst hw0; intro v1 w1 hst; have hw0 := K0.out _ _ _ hst)
     | (at_builtin; refine app_new rfl _ _ rfl hst rfl _ [_, _, _] 3 rfl rfl rfl (by first | (simp; done) | (simp; omega)) ?_; clear hst hw0; intro v1 w1 hst; have hw0 := K0.out _ _ _ hst)
     | (at_builtin; refine app_dig rfl _ _ rfl rfl hst rfl 1 (nd - 1) _ tl rfl KA.out KL.out (by first | (simp; done) | (simp; omega)) ?_; clear hst hw0; intro v1 w1 hst; have hw0 := K0.out _ _ _ hst))
  refine wp_loop_rounds 1 ?_
  rw [rounds_succ]
  go_wp2_with (first
     | (at_builtin; refine app_new rfl _ _ rfl hst rfl _ [_] 1 rfl rfl rfl (by first | (simp; done) | (simp; omega)) ?_; clear hst hw0; intro v1 w1 hst; have hw0 := K0.out _ _ _ hst)
     | (at_builtin; refine app_new rfl _ _ rfl hst rfl _ [_, _] 2 rfl rfl rfl (by first | (simp; done) | (simp; omega)) ?_; clear hst hw0; intro v1 w1 hst; have hw0 := K0.out _ _ _ hst)
     | (at_builtin; refine app_new rfl _ _ rfl hst rfl _ [_, _, _] 3 rfl rfl rfl (by first | (simp; done) | (simp; omega)) ?_; clear hst hw0; intro v1 w1 hst; have hw0 := K0.out _ _ _ hst)
     | (at_builtin; refine app_dig rfl _ _ rfl rfl hst rfl 1 (nd - 1) _ tl rfl KA.out KL.out (by first | (simp; done) | (simp; omega)) ?_; clear hst hw0; intro v1 w1 hst; have hw0 := K0.out _ _ _ hst))
  go_ret
  exact ⟨_, rfl, hst⟩

set_option maxHeartbeats 2000000 in
set_option maxRecDepth 100000 in
theorem fmtE1fe (ds : List Int) (dp : Int)  (h0 : 10 ≤ dp - 1) (h1 : dp - 1 < 100) : FmtG false 1 ds dp := by
  by_cases hdl : ds.length = 1
  case neg => exact ⟨[], fun B w0 w sb arr v hD => absurd hD.len hdl⟩
  apply Exists.intro
  intro B w0 w sb arr v hD hst
  have hc0 : ∀ v l w', St B w0 (some (sb, arr)) v l w' → w'.cell? ⟨sb, 0, none⟩ = some (.int .u8 (ds.getD 0 0)) := fun v l w' h => by
    rw [cell_of_row w' sb 0 arr 56 (0, 0) (h.dig _ rfl).1]; exact hD.at_ 0 (by omega)
  have hw0 := hc0 _ _ _ hst
  have K0 := Lib.hid hc0
  clear hc0
  go_enter Tryd.func29, Tryd.ntmps29
  go_wp2_with (first
     | (at_builtin; refine app_new rfl _ _ rfl hst rfl _ [_] 1 rfl rfl rfl (by first | (simp; done) | (simp; omega)) ?_; clear hst hw0; intro v1 w1 hst; have hw0 := K0.out _ _ _ hst)
     | (at_builtin; refine app_new rfl _ _ rfl hst rfl _ [_, _] 2 rfl rfl rfl (by first | (simp; done) | (simp; omega)) ?_; clear hst hw0; intro v1 w1 hst; have hw0 := K0.out _ _ _ hst)
     | (at_builtin; refine app_new rfl _ _ rfl hst rfl _ [_, _, _] 3 rfl rfl rfl (by first | (simp; done) | (simp; omega)) ?_; clear hst hw0; intro v1 w1 hst; have hw0 := K0.out _ _ _ hst))
  go_ret
  exact ⟨_, rfl, hst⟩

set_option maxHeartbeats 2000000 in
set_option maxRecDepth 100000 in
theorem fmtE2fe (nd : Nat) (ds : List Int) (dp : Int) (hnd0 : 2 ≤ nd) (hnd1 : nd ≤ 20) (h0 : 10 ≤ dp - 1) (h1 : dp - 1 < 100) : FmtG false nd ds dp := by
  obtain ⟨tl, htl⟩ : ∃ tl, tl = ds.tail := ⟨_, rfl⟩
  have KT : Hid (tl = ds.tail) := Lib.hid htl
  clear htl
  by_cases hdl : ds.length = nd
  case neg => exact ⟨[], fun B w0 w sb arr v hD => absurd hD.len hdl⟩
  have htlen : tl.length = nd - 1 := by rw [KT.out, List.length_tail, hdl]
  have KL := Lib.hid htlen
  have hl19 : tl.length ≤ 19 := by rw [htlen]; omega
  clear htlen
  apply Exists.intro
  intro B w0 w sb arr v hD hst
  have harr : ∀ j, j < nd - 1 → arr[1 + j]? = some (.int .u8 (tl.getD j 0)) := fun j hj => by
    rw [hD.at_ _ (by omega), KT.out]; cases ds <;> simp [Nat.add_comm]
  have KA := Lib.hid harr
  clear harr
  have hc0 : ∀ v l w', St B w0 (some (sb, arr)) v l w' → w'.cell? ⟨sb, 0, none⟩ = some (.int .u8 (ds.getD 0 0)) := fun v l w' h => by
    rw [cell_of_row w' sb 0 arr 56 (0, 0) (h.dig _ rfl).1]; exact hD.at_ 0 (by omega)
  have hw0 := hc0 _ _ _ hst
  have K0 := Lib.hid hc0
  clear hc0
  go_enter Tryd.func29, Tryd.ntmps29
  go_wp2_with (first
     | (at_builtin; refine app_new rfl _ _ rfl hst rfl _ [_] 1 rfl rfl rfl (by first | (simp; done) | (simp; omega)) ?_; clear hst hw0; intro v1 w1 hst; have hw0 := K0.out _ _ _ hst)
     | (at_builtin; refine app_new rfl _ _ rfl hst rfl _ [_, _] 2 rfl rfl rfl (by first | (simp; done) | (simp; omega)) ?_; clear hst hw0; intro v1 w1 hst; have hw0 := K0.out _ _ _ hst)
     | (at_builtin; refine app_new rfl _ _ rfl hst rfl _ [_, _, _] 3 rfl rfl rfl (by first | (simp; done) | (simp; omega)) ?_; clear hst hw0; intro v1 w1 hst; have hw0 := K0.out _ _ _ hst)
     | (at_builtin; refine app_dig rfl _ _ rfl rfl hst rfl 1 (nd - 1) _ tl rfl KA.out KL.out (by first | (simp; done) | (simp; omega)) ?_; clear hst hw0; intro v1 w1 hst; have hw0 := K0.out _ _ _ hst))
  refine wp_loop_rounds 1 ?_
  rw [rounds_succ]
  go_wp2_with (first
     | (at_builtin; refine app_new rfl _ _ rfl hst rfl _ [_] 1 rfl rfl rfl (by first | (simp; done) | (simp; omega)) ?_; clear hst hw0; intro v1 w1 hst; have hw0 := K0.out _ _ _ hst)
     | (at_builtin; refine app_new rfl _ _ rfl hst rfl _ [_, _] 2 rfl rfl rfl (by first | (simp; done) | (simp; omega)) ?_; clear hst hw0; intro v1 w1 hst; have hw0 := K0.out _ _ _ hst)
     | (at_builtin; refine app_new rfl _ _ rfl hst rfl _ [_, _, _] 3 rfl rfl rfl (by first | (simp; done) | (simp; omega)) ?_; clear hst hw0; intro v1 w1 hst; have hw0 := K0.out _ _ _ hst)
     | (at_builtin; refine app_dig rfl _ _ rfl rfl hst rfl 1 (nd - 1) _ tl rfl KA.out KL.out (by first | (simp; done) | (simp; omega)) ?_; clear hst hw0; intro v1 w1 hst; have hw0 := K0.out _ _ _ hst))
  go_ret
  exact ⟨_, rfl, hst⟩

set_option maxHeartbeats 2000000 in
set_option maxRecDepth 100000 in
theorem fmtE1ff (ds : List Int) (dp : Int)  (h0 : 100 ≤ dp - 1) (h1 : dp ≤ 500) : FmtG false 1 ds dp := by
  by_cases hdl : ds.length = 1
  case neg => exact ⟨[], fun B w0 w sb arr v hD => absurd hD.len hdl⟩
  apply Exists.intro
  intro B w0 w sb arr v hD hst
  have hc0 : ∀ v l w', St B w0 (some (sb, arr)) v l w' → w'.cell? ⟨sb, 0, none⟩ = some (.int .u8 (ds.getD 0 0)) := fun v l w' h => by
    rw [cell_of_row w' sb 0 arr 56 (0, 0) (h.dig _ rfl).1]; exact hD.at_ 0 (by omega)
  have hw0 := hc0 _ _ _ hst
  have K0 := Lib.hid hc0
  clear hc0
  go_enter Tryd.func29, Tryd.ntmps29
  go_wp2_with (first
     | (at_builtin; refine app_new rfl _ _ rfl hst rfl _ [_] 1 rfl rfl rfl (by first | (simp; done) | (simp; omega)) ?_; clear hst hw0; intro v1 w1 hst; have hw0 := K0.out _ _ _ hst)
     | (at_builtin; refine app_new rfl _ _ rfl hst rfl _ [_, _] 2 rfl rfl rfl (by first | (simp; done) | (simp; omega)) ?_; clear hst hw0; intro v1 w1 hst; have hw0 := K0.out _ _ _ hst)
     | (at_builtin; refine app_new rfl _ _ rfl hst rfl _ [_, _, _] 3 rfl rfl rfl (by first | (simp; done) | (simp; omega)) ?_; clear hst hw0; intro v1 w1 hst; have hw0 := K0.out _ _ _ hst))
  go_ret
  exact ⟨_, rfl, hst⟩

set_option maxHeartbeats 2000000 in
set_option maxRecDepth 100000 in
theorem fmtE2ff (nd : Nat) (ds : List Int) (dp : Int) (hnd0 : 2 ≤ nd) (hnd1 : nd ≤ 20) (h0 : 100 ≤ dp - 1) (h1 : dp ≤ 500) : FmtG false nd ds dp := by
  obtain ⟨tl, htl⟩ : ∃ tl, tl = ds.tail := ⟨_, rfl⟩
  have KT : Hid (tl = ds.tail) := Lib.hid htl
  clear htl
  by_cases hdl : ds.length = nd
  case neg => exact ⟨[], fun B w0 w sb arr v hD => absurd hD.len hdl⟩
  have htlen : tl.length = nd - 1 := by rw [KT.out, List.length_tail, hdl]
  have KL := Lib.hid htlen
  have hl19 : tl.length ≤ 19 := by rw [htlen]; omega
  clear htlen
  apply Exists.intro
  intro B w0 w sb arr v hD hst
  have harr : ∀ j, j < nd - 1 → arr[1 + j]? = some (.int .u8 (tl.getD j 0)) := fun j hj => by
    rw [hD.at_ _ (by omega), KT.out]; cases ds <;> simp [Nat.add_comm]
  have KA := Lib.hid harr
  clear harr
  have hc0 : ∀ v l w', St B w0 (some (sb, arr)) v l w' → w'.cell? ⟨sb, 0, none⟩ = some (.int .u8 (ds.getD 0 0)) := fun v l w' h => by
    rw [cell_of_row w' sb 0 arr 56 (0, 0) (h.dig _ rfl).1]; exact hD.at_ 0 (by omega)
  have hw0 := hc0 _ _ _ hst
  have K0 := Lib.hid hc0
  clear hc0
  go_enter Tryd.func29, Tryd.ntmps29
  go_wp2_with (first
     | (at_builtin; refine app_new rfl _ _ rfl hst rfl _ [_] 1 rfl rfl rfl (by first | (simp; done) | (simp; omega)) ?_; clear hst hw0; intro v1 w1 hst; have hw0 := K0.out _ _ _ hst)
     | (at_builtin; refine app_new rfl _ _ rfl hst rfl _ [_, _] 2 rfl rfl rfl (by first | (simp; done) | (simp; omega)) ?_; clear hst hw0; intro v1 w1 hst; have hw0 := K0.out _ _ _ hst)
     | (at_builtin; refine app_new rfl _ _ rfl hst rfl _ [_, _, _] 3 rfl rfl rfl (by first | (simp; done) | (simp; omega)) ?_; clear hst hw0; intro v1 w1 hst; have hw0 := K0.out _ _ _ hst)
     | (at_builtin; refine app_dig rfl _ _ rfl rfl hst rfl 1 (nd - 1) _ tl rfl KA.out KL.out (by first | (simp; done) | (simp; omega)) ?_; clear hst hw0; intro v1 w1 hst; have hw0 := K0.out _ _ _ hst))
  refine wp_loop_rounds 1 ?_
  rw [rounds_succ]
  go_wp2_with (first
     | (at_builtin; refine app_new rfl _ _ rfl hst rfl _ [_] 1 rfl rfl rfl (by first | (simp; done) | (simp; omega)) ?_; clear hst hw0; intro v1 w1 hst; have hw0 := K0.out _ _ _ hst)
     | (at_builtin; refine app_new rfl _ _ rfl hst rfl _ [_, _] 2 rfl rfl rfl (by first | (simp; done) | (simp; omega)) ?_; clear hst hw0; intro v1 w1 hst; have hw0 := K0.out _ _ _ hst)
     | (at_builtin; refine app_new rfl _ _ rfl hst rfl _ [_, _, _] 3 rfl rfl rfl (by first | (simp; done) | (simp; omega)) ?_; clear hst hw0; intro v1 w1 hst; have hw0 := K0.out _ _ _ hst)
     | (at_builtin; refine app_dig rfl _ _ rfl rfl hst rfl 1 (nd - 1) _ tl rfl KA.out KL.out (by first | (simp; done) | (simp; omega)) ?_; clear hst hw0; intro v1 w1 hst; have hw0 := K0.out _ _ _ hst))
  go_ret
  exact ⟨_, rfl, hst⟩

set_option maxHeartbeats 2000000 in
set_option maxRecDepth 100000 in
theorem fmtE0tn (ds : List Int) (dp : Int) (h0 : dp - 1 < -4) (h1 : -500 ≤ dp) : FmtG true 0 ds dp := by
  apply Exists.intro
  intro B w0 w sb arr v hD hst
  go_enter Tryd.func29, Tryd.ntmps29
  go_wp2_with (first
     | (at_builtin; refine app_new rfl _ _ rfl hst rfl _ [_] 1 rfl rfl rfl (by first | (simp; done) | (simp; omega)) ?_; clear hst; intro v1 w1 hst)
     | (at_builtin; refine app_new rfl _ _ rfl hst rfl _ [_, _] 2 rfl rfl rfl (by first | (simp; done) | (simp; omega)) ?_; clear hst; intro v1 w1 hst)
     | (at_builtin; refine app_new rfl _ _ rfl hst rfl _ [_, _, _] 3 rfl rfl rfl (by first | (simp; done) | (simp; omega)) ?_; clear hst; intro v1 w1 hst))
  go_ret
  exact ⟨_, rfl, hst⟩

set_option maxHeartbeats 2000000 in
set_option maxRecDepth 100000 in
theorem fmtE0tp (ds : List Int) (dp : Int) (h0 : 6 ≤ dp - 1) (h1 : dp ≤ 500) : FmtG true 0 ds dp := by
  apply Exists.intro
  intro B w0 w sb arr v hD hst
  go_enter Tryd.func29, Tryd.ntmps29
  go_wp2_with (first
     | (at_builtin; refine app_new rfl _ _ rfl hst rfl _ [_] 1 rfl rfl rfl (by first | (simp; done) | (simp; omega)) ?_; clear hst; intro v1 w1 hst)
     | (at_builtin; refine app_new rfl _ _ rfl hst rfl _ [_, _] 2 rfl rfl rfl (by first | (simp; done) | (simp; omega)) ?_; clear hst; intro v1 w1 hst)
     | (at_builtin; refine app_new rfl _ _ rfl hst rfl _ [_, _, _] 3 rfl rfl rfl (by first | (simp; done) | (simp; omega)) ?_; clear hst; intro v1 w1 hst))
  go_ret
  exact ⟨_, rfl, hst⟩

set_option maxHeartbeats 2000000 in
set_option maxRecDepth 100000 in
theorem fmtE1ta (ds : List Int) (dp : Int)  (h0 : dp - 1 < -4) (h1 : -(dp - 1) < 10) : FmtG true 1 ds dp := by
  by_cases hdl : ds.length = 1
  case neg => exact ⟨[], fun B w0 w sb arr v hD => absurd hD.len hdl⟩
  apply Exists.intro
  intro B w0 w sb arr v hD hst
  have hc0 : ∀ v l w', St B w0 (some (sb, arr)) v l w' → w'.cell? ⟨sb, 0, none⟩ = some (.int .u8 (ds.getD 0 0)) := fun v l w' h => by
    rw [cell_of_row w' sb 0 arr 56 (0, 0) (h.dig _ rfl).1]; exact hD.at_ 0 (by omega)
  have hw0 := hc0 _ _ _ hst
  have K0 := Lib.hid hc0
  clear hc0
  go_enter Tryd.func29, Tryd.ntmps29
  go_wp2_with (first
     | (at_builtin; refine app_new rfl _ _ rfl hst rfl _ [_] 1 rfl rfl rfl (by first | (simp; done) | (simp; omega)) ?_; clear hst hw0; intro v1 w1 hst; have hw0 := K0.out _ _ _ hst)
     | (at_builtin; refine app_new rfl _ _ rfl hst rfl _ [_, _] 2 rfl rfl rfl (by first | (simp; done) | (simp; omega)) ?_; clear hst hw0; intro v1 w1 hst; have hw0 := K0.out _ _ _ hst)
     | (at_builtin; refine app_new rfl _ _ rfl hst rfl _ [_, _, _] 3 rfl rfl rfl (by first | (simp; done) | (simp; omega)) ?_; clear hst hw0; intro v1 w1 hst; have hw0 := K0.out _ _ _ hst))
  go_ret
  exact ⟨_, rfl, hst⟩

set_option maxHeartbeats 2000000 in
set_option maxRecDepth 100000 in
theorem fmtE2ta (nd : Nat) (ds : List Int) (dp : Int) (hnd0 : 2 ≤ nd) (hnd1 : nd ≤ 20) (h0 : dp - 1 < -4) (h1 : -(dp - 1) < 10) : FmtG true nd ds dp := by
  obtain ⟨tl, htl⟩ : ∃ tl, tl = ds.tail := ⟨_, rfl⟩
  have KT : Hid (tl = ds.tail) := Lib.hid htl
  clear htl
  by_cases hdl : ds.length = nd
  case neg => exact ⟨[], fun B w0 w sb arr v hD => absurd hD.len hdl⟩
  have htlen : tl.length = nd - 1 := by rw [KT.out, List.length_tail, hdl]
  have KL := Lib.hid htlen
  have hl19 : tl.length ≤ 19 := by rw [htlen]; omega
  clear htlen
  apply Exists.intro
  intro B w0 w sb arr v hD hst
  have harr : ∀ j, j < nd - 1 → arr[1 + j]? = some (.int .u8 (tl.getD j 0)) := fun j hj => by
    rw [hD.at_ _ (by omega), KT.out]; cases ds <;> simp [Nat.add_comm]
  have KA := Lib.hid harr
  clear harr
  have hc0 : ∀ v l w', St B w0 (some (sb, arr)) v l w' → w'.cell? ⟨sb, 0, none⟩ = some (.int .u8 (ds.getD 0 0)) := fun v l w' h => by
    rw [cell_of_row w' sb 0 arr 56 (0, 0) (h.dig _ rfl).1]; exact hD.at_ 0 (by omega)
  have hw0 := hc0 _ _ _ hst
  have K0 := Lib.hid hc0
  clear hc0
  go_enter Tryd.func29, Tryd.ntmps29
  go_wp2_with (first
     | (at_builtin; refine app_new rfl _ _ rfl hst rfl _ [_] 1 rfl rfl rfl (by first | (simp; done) | (simp; omega)) ?_; clear hst hw0; intro v1 w1 hst; have hw0 := K0.out _ _ _ hst)
     | (at_builtin; refine app_new rfl _ _ rfl hst rfl _ [_, _] 2 rfl rfl rfl (by first | (simp; done) | (simp; omega)) ?_; clear hst hw0; intro v1 w1 hst; have hw0 := K0.out _ _ _ hst)
     | (at_builtin; refine app_new rfl _ _ rfl hst rfl _ [_, _, _] 3 rfl rfl rfl (by first | (simp; done) | (simp; omega)) ?_; clear hst hw0; intro v1 w1 hst; have hw0 := K0.out _ _ _ hst)
     | (at_builtin; refine app_dig rfl _ _ rfl rfl hst rfl 1 (nd - 1) _ tl rfl KA.out KL.out (by first | (simp; done) | (simp; omega)) ?_; clear hst hw0; intro v1 w1 hst; have hw0 := K0.out _ _ _ hst))
  refine wp_loop_rounds 1 ?_
  rw [rounds_succ]
  go_wp2_with (first
     | (at_builtin; refine app_new rfl _ _ rfl hst rfl _ [_] 1 rfl rfl rfl (by first | (simp; done) | (simp; omega)) ?_; clear hst hw0; intro v1 w1 hst; have hw0 := K0.out _ _ _ hst)
     | (at_builtin; refine app_new rfl _ _ rfl hst rfl _ [_, _] 2 rfl rfl rfl (by first | (simp; done) | (simp; omega)) ?_; clear hst hw0; intro v1 w1 hst; have hw0 := K0.out _ _ _ hst)
     | (at_builtin; refine app_new rfl _ _ rfl hst rfl _ [_, _, _] 3 rfl rfl rfl (by first | (simp; done) | (simp; omega)) ?_; clear hst hw0; intro v1 w1 hst; have hw0 := K0.out _ _ _ hst)
     | (at_builtin; refine app_dig rfl _ _ rfl rfl hst rfl 1 (nd - 1) _ tl rfl KA.out KL.out (by first | (simp; done) | (simp; omega)) ?_; clear hst hw0; intro v1 w1 hst; have hw0 := K0.out _ _ _ hst))
  go_ret
  exact ⟨_, rfl, hst⟩

set_option maxHeartbeats 2000000 in
set_option maxRecDepth 100000 in
theorem fmtE1tb (ds : List Int) (dp : Int)  (h0 : 10 ≤ -(dp - 1)) (h1 : -(dp - 1) < 100) : FmtG true 1 ds dp := by
  by_cases hdl : ds.length = 1
  case neg => exact ⟨[], fun B w0 w sb arr v hD => absurd hD.len hdl⟩
  apply Exists.intro
  intro B w0 w sb arr v hD hst
  have hc0 : ∀ v l w', St B w0 (some (sb, arr)) v l w' → w'.cell? ⟨sb, 0, none⟩ = some (.int .u8 (ds.getD 0 0)) := fun v l w' h => by
    rw [cell_of_row w' sb 0 arr 56 (0, 0) (h.dig _ rfl).1]; exact hD.at_ 0 (by omega)
  have hw0 := hc0 _ _ _ hst
  have K0 := Lib.hid hc0
  clear hc0
  go_enter Tryd.func29, Tryd.ntmps29
  go_wp2_with (first
     | (at_builtin; refine app_new rfl _ _ rfl hst rfl _ [_] 1 rfl rfl rfl (by first | (simp; done) | (simp; omega)) ?_; clear hst hw0; intro v1 w1 hst; have hw0 := K0.out _ _ _ hst)
     | (at_builtin; refine app_new rfl _ _ rfl hst rfl _ [_, _] 2 rfl rfl rfl (by first | (simp; done) | (simp; omega)) ?_; clear hst hw0; intro v1 w1 hst; have hw0 := K0.out _ _ _ hst)
     | (at_builtin; refine app_new rfl _ _ rfl hst rfl _ [_, _, _] 3 rfl rfl rfl (by first | (simp; done) | (simp; omega)) ?_; clear hst hw0; intro v1 w1 hst; have hw0 := K0.out _ _ _ hst))
  go_ret
  exact ⟨_, rfl, hst⟩

set_option maxHeartbeats 2000000 in
set_option maxRecDepth 100000 in
theorem fmtE2tb (nd : Nat) (ds : List Int) (dp : Int) (hnd0 : 2 ≤ nd) (hnd1 : nd ≤ 20) (h0 : 10 ≤ -(dp - 1)) (h1 : -(dp - 1) < 100) : FmtG true nd ds dp := by
  obtain ⟨tl, htl⟩ : ∃ tl, tl = ds.tail := ⟨_, rfl⟩
  have KT : Hid (tl = ds.tail) := Lib.hid htl
  clear htl
  by_cases hdl : ds.length = nd
  case neg => exact ⟨[], fun B w0 w sb arr v hD => absurd hD.len hdl⟩
  have htlen : tl.length = nd - 1 := by rw [KT.out, List.length_tail, hdl]
  have KL := Lib.hid htlen
  have hl19 : tl.length ≤ 19 := by rw [htlen]; omega
  clear htlen
  apply Exists.intro
  intro B w0 w sb arr v hD hst
  have harr : ∀ j, j < nd - 1 → arr[1 + j]? = some (.int .u8 (tl.getD j 0)) := fun j hj => by
    rw [hD.at_ _ (by omega), KT.out]; cases ds <;> simp [Nat.add_comm]
  have KA := Lib.hid harr
  clear harr
  have hc0 : ∀ v l w', St B w0 (some (sb, arr)) v l w' → w'.cell? ⟨sb, 0, none⟩ = some (.int .u8 (ds.getD 0 0)) := fun v l w' h => by
    rw [cell_of_row w' sb 0 arr 56 (0, 0) (h.dig _ rfl).1]; exact hD.at_ 0 (by omega)
  have hw0 := hc0 _ _ _ hst
  have K0 := Lib.hid hc0
  clear hc0
  go_enter Tryd.func29, Tryd.ntmps29
  go_wp2_with (first
     | (at_builtin; refine app_new rfl _ _ rfl hst rfl _ [_] 1 rfl rfl rfl (by first | (simp; done) | (simp; omega)) ?_; clear hst hw0; intro v1 w1 hst; have hw0 := K0.out _ _ _ hst)
     | (at_builtin; refine app_new rfl _ _ rfl hst rfl _ [_, _] 2 rfl rfl rfl (by first | (simp; done) | (simp; omega)) ?_; clear hst hw0; intro v1 w1 hst; have hw0 := K0.out _ _ _ hst)
     | (at_builtin; refine app_new rfl _ _ rfl hst rfl _ [_, _, _] 3 rfl rfl rfl (by first | (simp; done) | (simp; omega)) ?_; clear hst hw0; intro v1 w1 hst; have hw0 := K0.out _ _ _ hst)
     | (at_builtin; refine app_dig rfl _ _ rfl rfl hst rfl 1 (nd - 1) _ tl rfl KA.out KL.out (by first | (simp; done) | (simp; omega)) ?_; clear hst hw0; intro v1 w1 hst; have hw0 := K0.out _ _ _ hst))
  refine wp_loop_rounds 1 ?_
  rw [rounds_succ]
  go_wp2_with (first
     | (at_builtin; refine app_new rfl _ _ rfl hst rfl _ [_] 1 rfl rfl rfl (by first | (simp; done) | (simp; omega)) ?_; clear hst hw0; intro v1 w1 hst; have hw0 := K0.out _ _ _ hst)
     | (at_builtin; refine app_new rfl _ _ rfl hst rfl _ [_, _] 2 rfl rfl rfl (by first | (simp; done) | (simp; omega)) ?_; clear hst hw0; intro v1 w1 hst; have hw0 := K0.out _ _ _ hst)
     | (at_builtin; refine app_new rfl _ _ rfl hst rfl _ [_, _, _] 3 rfl rfl rfl (by first | (simp; done) | (simp; omega)) ?_; clear hst hw0; intro v1 w1 hst; have hw0 := K0.out _ _ _ hst)
     | (at_builtin; refine app_dig rfl _ _ rfl rfl hst rfl 1 (nd - 1) _ tl rfl KA.out KL.out (by first | (simp; done) | (simp; omega)) ?_; clear hst hw0; intro v1 w1 hst; have hw0 := K0.out _ _ _ hst))
  go_ret
  exact ⟨_, rfl, hst⟩

set_option maxHeartbeats 2000000 in
set_option maxRecDepth 100000 in
theorem fmtE1tc (ds : List Int) (dp : Int)  (h0 : 100 ≤ -(dp - 1)) (h1 : -500 ≤ dp) : FmtG true 1 ds dp := by
  by_cases hdl : ds.length = 1
  case neg => exact ⟨[], fun B w0 w sb arr v hD => absurd hD.len hdl⟩
  apply Exists.intro
  intro B w0 w sb arr v hD hst
  have hc0 : ∀ v l w', St B w0 (some (sb, arr)) v l w' → w'.cell? ⟨sb, 0, none⟩ = some (.int .u8 (ds.getD 0 0)) := fun v l w' h => by
    rw [cell_of_row w' sb 0 arr 56 (0, 0) (h.dig _ rfl).1]; exact hD.at_ 0 (by omega)
  have hw0 := hc0 _ _ _ hst
  have K0 := Lib.hid hc0
  clear hc0
  go_enter Tryd.func29, Tryd.ntmps29
  go_wp2_with (first
     | (at_builtin; refine app_new rfl _ _ rfl hst rfl _ [_] 1 rfl rfl rfl (by first | (simp; done) | (simp; omega)) ?_; clear hst hw0; intro v1 w1 hst; have hw0 := K0.out _ _ _ hst)
     | (at_builtin; refine app_new rfl _ _ rfl hst rfl _ [_, _] 2 rfl rfl rfl (by first | (simp; done) | (simp; omega)) ?_; clear hst hw0; intro v1 w1 hst; have hw0 := K0.out _ _ _ hst)
     | (at_builtin; refine app_new rfl _ _ rfl hst rfl _ [_, _, _] 3 rfl rfl rfl (by first | (simp; done) | (simp; omega)) ?_; clear hst hw0; intro v1 w1 hst; have hw0 := K0.out _ _ _ hst))
  go_ret
  exact ⟨_, rfl, hst⟩

set_option maxHeartbeats 2000000 in
set_option maxRecDepth 100000 in
theorem fmtE2tc (nd : Nat) (ds : List Int) (dp : Int) (hnd0 : 2 ≤ nd) (hnd1 : nd ≤ 20) (h0 : 100 ≤ -(dp - 1)) (h1 : -500 ≤ dp) : FmtG true nd ds dp := by
  obtain ⟨tl, htl⟩ : ∃ tl, tl = ds.tail := ⟨_, rfl⟩
  have KT : Hid (tl = ds.tail) := Lib.hid htl
  clear htl
  by_cases hdl : ds.length = nd
  case neg => exact ⟨[], fun B w0 w sb arr v hD => absurd hD.len hdl⟩
  have htlen : tl.length = nd - 1 := by rw [KT.out, List.length_tail, hdl]
  have KL := Lib.hid htlen
  have hl19 : tl.length ≤ 19 := by rw [htlen]; omega
  clear htlen
  apply Exists.intro
  intro B w0 w sb arr v hD hst
  have harr : ∀ j, j < nd - 1 → arr[1 + j]? = some (.int .u8 (tl.getD j 0)) := fun j hj => by
    rw [hD.at_ _ (by omega), KT.out]; cases ds <;> simp [Nat.add_comm]
  have KA := Lib.hid harr
  clear harr
  have hc0 : ∀ v l w', St B w0 (some (sb, arr)) v l w' → w'.cell? ⟨sb, 0, none⟩ = some (.int .u8 (ds.getD 0 0)) := fun v l w' h => by
    rw [cell_of_row w' sb 0 arr 56 (0, 0) (h.dig _ rfl).1]; exact hD.at_ 0 (by omega)
  have hw0 := hc0 _ _ _ hst
  have K0 := Lib.hid hc0
  clear hc0
  go_enter Tryd.func29, Tryd.ntmps29
  go_wp2_with (first
     | (at_builtin; refine app_new rfl _ _ rfl hst rfl _ [_] 1 rfl rfl rfl (by first | (simp; done) | (simp; omega)) ?_; clear hst hw0; intro v1 w1 hst; have hw0 := K0.out _ _ _ hst)
     | (at_builtin; refine app_new rfl _ _ rfl hst rfl _ [_, _] 2 rfl rfl rfl (by first | (simp; done) | (simp; omega)) ?_; clear hst hw0; intro v1 w1 hst; have hw0 := K0.out _ _ _ hst)
     | (at_builtin; refine app_new rfl _ _ rfl hst rfl _ [_, _, _] 3 rfl rfl rfl (by first | (simp; done) | (simp; omega)) ?_; clear hst hw0; intro v1 w1 hst; have hw0 := K0.out _ _ _ hst)
     | (at_builtin; refine app_dig rfl _ _ rfl rfl hst rfl 1 (nd - 1) _ tl rfl KA.out KL.out (by first | (simp; done) | (simp; omega)) ?_; clear hst hw0; intro v1 w1 hst; have hw0 := K0.out _ _ _ hst))
  refine wp_loop_rounds 1 ?_
  rw [rounds_succ]
  go_wp2_with (first
     | (at_builtin; refine app_new rfl _ _ rfl hst rfl _ [_] 1 rfl rfl rfl (by first | (simp; done) | (simp; omega)) ?_; clear hst hw0; intro v1 w1 hst; have hw0 := K0.out _ _ _ hst)
     | (at_builtin; refine app_new rfl _ _ rfl hst rfl _ [_, _] 2 rfl rfl rfl (by first | (simp; done) | (simp; omega)) ?_; clear hst hw0; intro v1 w1 hst; have hw0 := K0.out _ _ _ hst)
     | (at_builtin; refine app_new rfl _ _ rfl hst rfl _ [_, _, _] 3 rfl rfl rfl (by first | (simp; done) | (simp; omega)) ?_; clear hst hw0; intro v1 w1 hst; have hw0 := K0.out _ _ _ hst)
     | (at_builtin; refine app_dig rfl _ _ rfl rfl hst rfl 1 (nd - 1) _ tl rfl KA.out KL.out (by first | (simp; done) | (simp; omega)) ?_; clear hst hw0; intro v1 w1 hst; have hw0 := K0.out _ _ _ hst))
  go_ret
  exact ⟨_, rfl, hst⟩

set_option maxHeartbeats 2000000 in
set_option maxRecDepth 100000 in
theorem fmtE1td (ds : List Int) (dp : Int)  (h0 : 6 ≤ dp - 1) (h1 : dp - 1 < 10) : FmtG true 1 ds dp := by
  by_cases hdl : ds.length = 1
  case neg => exact ⟨[], fun B w0 w sb arr v hD => absurd hD.len hdl⟩
  apply Exists.intro
  intro B w0 w sb arr v hD hst
  have hc0 : ∀ v l w', St B w0 (some (sb, arr)) v l w' → w'.cell? ⟨sb, 0, none⟩ = some (.int .u8 (ds.getD 0 0)) := fun v l w' h => by
    rw [cell_of_row w' sb 0 arr 56 (0, 0) (h.dig _ rfl).1]; exact hD.at_ 0 (by omega)
  have hw0 := hc0 _ _ _ hst
  have K0 := Lib.hid hc0
  clear hc0
  go_enter Tryd.func29, Tryd.ntmps29
  go_wp2_with (first
     | (at_builtin; refine app_new rfl _ _ rfl hst rfl _ [_] 1 rfl rfl rfl (by first | (simp; done) | (simp; omega)) ?_; clear hst hw0; intro v1 w1 hst; have hw0 := K0.out _ _ _ hst)
     | (at_builtin; refine app_new rfl _ _ rfl hst rfl _ [_, _] 2 rfl rfl rfl (by first | (simp; done) | (simp; omega)) ?_; clear hst hw0; intro v1 w1 hst; have hw0 := K0.out _ _ _ hst)
     | (at_builtin; refine app_new rfl _ _ rfl hst rfl _ [_, _, _] 3 rfl rfl rfl (by first | (simp; done) | (simp; omega)) ?_; clear hst hw0; intro v1 w1 hst; have hw0 := K0.out _ _ _ hst))
  go_ret
  exact ⟨_, rfl, hst⟩

set_option maxHeartbeats 2000000 in
set_option maxRecDepth 100000 in
theorem fmtE2td (nd : Nat) (ds : List Int) (dp : Int) (hnd0 : 2 ≤ nd) (hnd1 : nd ≤ 20) (h0 : 6 ≤ dp - 1) (h1 : dp - 1 < 10) : FmtG true nd ds dp := by
  obtain ⟨tl, htl⟩ : ∃ tl, tl = ds.tail := ⟨_, rfl⟩
  have KT : Hid (tl = ds.tail) := Lib.hid htl
  clear htl
  by_cases hdl : ds.length = nd
  case neg => exact ⟨[], fun B w0 w sb arr v hD => absurd hD.len hdl⟩
  have htlen : tl.length = nd - 1 := by rw [KT.out, List.length_tail, hdl]
  have KL := Lib.hid htlen
  have hl19 : tl.length ≤ 19 := by rw [htlen]; omega
  clear htlen
  apply Exists.intro
  intro B w0 w sb arr v hD hst
  have harr : ∀ j, j < nd - 1 → arr[1 + j]? = some (.int .u8 (tl.getD j 0)) := fun j hj => by
    rw [hD.at_ _ (by omega), KT.out]; cases ds <;> simp [Nat.add_comm]
  have KA := Lib.hid harr
  clear harr
  have hc0 : ∀ v l w', St B w0 (some (sb, arr)) v l w' → w'.cell? ⟨sb, 0, none⟩ = some (.int .u8 (ds.getD 0 0)) := fun v l w' h => by
    rw [cell_of_row w' sb 0 arr 56 (0, 0) (h.dig _ rfl).1]; exact hD.at_ 0 (by omega)
  have hw0 := hc0 _ _ _ hst
  have K0 := Lib.hid hc0
  clear hc0
  go_enter Tryd.func29, Tryd.ntmps29
  go_wp2_with (first
     | (at_builtin; refine app_new rfl _ _ rfl hst rfl _ [_] 1 rfl rfl rfl (by first | (simp; done) | (simp; omega)) ?_; clear hst hw0; intro v1 w1 hst; have hw0 := K0.out _ _ _ hst)
     | (at_builtin; refine app_new rfl _ _ rfl hst rfl _ [_, _] 2 rfl rfl rfl (by first | (simp; done) | (simp; omega)) ?_; clear hst hw0; intro v1 w1 hst; have hw0 := K0.out _ _ _ hst)
     | (at_builtin; refine app_new rfl _ _ rfl hst rfl _ [_, _, _] 3 rfl rfl rfl (by first | (simp; done) | (simp; omega)) ?_; clear hst hw0; intro v1 w1 hst; have hw0 := K0.out _ _ _ hst)
     | (at_builtin; refine app_dig rfl _ _ rfl rfl hst rfl 1 (nd - 1) _ tl rfl KA.out KL.out (by first | (simp; done) | (simp; omega)) ?_; clear hst hw0; intro v1 w1 hst; have hw0 := K0.out _ _ _ hst))
  refine wp_loop_rounds 1 ?_
  rw [rounds_succ]
  go_wp2_with (first
     | (at_builtin; refine app_new rfl _ _ rfl hst rfl _ [_] 1 rfl rfl rfl (by first | (simp; done) | (simp; omega)) ?_; clear hst hw0; intro v1 w1 hst; have hw0 := K0.out _ _ _ hst)
     | (at_builtin; refine app_new rfl _ _ rfl hst rfl _ [_, _] 2 rfl rfl rfl (by first | (simp; done) | (simp; omega)) ?_; clear hst hw0; intro v1 w1 hst; have hw0 := K0.out _ _ _ hst)
     | (at_builtin; refine app_new rfl _ _ rfl hst rfl _ [_, _, _] 3 rfl rfl rfl (by first | (simp; done) | (simp; omega)) ?_; clear hst hw0; intro v1 w1 hst; have hw0 := K0.out _ _ _ hst)
     | (at_builtin; refine app_dig rfl _ _ rfl rfl hst rfl 1 (nd - 1) _ tl rfl KA.out KL.out (by first | (simp; done) | (simp; omega)) ?_; clear hst hw0; intro v1 w1 hst; have hw0 := K0.out _ _ _ hst))
  go_ret
  exact ⟨_, rfl, hst⟩

set_option maxHeartbeats 2000000 in
set_option maxRecDepth 100000 in
theorem fmtE1te (ds : List Int) (dp : Int)  (h0 : 10 ≤ dp - 1) (h1 : dp - 1 < 100) : FmtG true 1 ds dp := by
  by_cases hdl : ds.length = 1
  case neg => exact ⟨[], fun B w0 w sb arr v hD => absurd hD.len hdl⟩
  apply Exists.intro
  intro B w0 w sb arr v hD hst
  have hc0 : ∀ v l w', St B w0 (some (sb, arr)) v l w' → w'.cell? ⟨sb, 0, none⟩ = some (.int .u8 (ds.getD 0 0)) := fun v l w' h => by
    rw [cell_of_row w' sb 0 arr 56 (0, 0) (h.dig _ rfl).1]; exact hD.at_ 0 (by omega)
  have hw0 := hc0 _ _ _ hst
  have K0 := Lib.hid hc0
  clear hc0
  go_enter Tryd.func29, Tryd.ntmps29
  go_wp2_with (first
     | (at_builtin; refine app_new rfl _ _ rfl hst rfl _ [_] 1 rfl rfl rfl (by first | (simp; done) | (simp; omega)) ?_; clear hst hw0; intro v1 w1 hst; have hw0 := K0.out _ _ _ hst)
     | (at_builtin; refine app_new rfl _ _ rfl hst rfl _ [_, _] 2 rfl rfl rfl (by first | (simp; done) | (simp; omega)) ?_; clear hst hw0; intro v1 w1 hst; have hw0 := K0.out _ _ _ hst)
     | (at_builtin; refine app_new rfl _ _ rfl hst rfl _ [_, _, _] 3 rfl rfl rfl (by first | (simp; done) | (simp; omega)) ?_; clear hst hw0; intro v1 w1 hst; have hw0 := K0.out _ _ _ hst))
  go_ret
  exact ⟨_, rfl, hst⟩

set_option maxHeartbeats 2000000 in
set_option maxRecDepth 100000 in
theorem fmtE2te (nd : Nat) (ds : List Int) (dp : Int) (hnd0 : 2 ≤ nd) (hnd1 : nd ≤ 20) (h0 : 10 ≤ dp - 1) (h1 : dp - 1 < 100) : FmtG true nd ds dp := by
  obtain ⟨tl, htl⟩ : ∃ tl, tl = ds.tail := ⟨_, rfl⟩
  have KT : Hid (tl = ds.tail) := Lib.hid htl
  clear htl
  by_cases hdl : ds.length = nd
  case neg => exact ⟨[], fun B w0 w sb arr v hD => absurd hD.len hdl⟩
  have htlen : tl.length = nd - 1 := by rw [KT.out, List.length_tail, hdl]
  have KL := Lib.hid htlen
  have hl19 : tl.length ≤ 19 := by rw [htlen]; omega
  clear htlen
  apply Exists.intro
  intro B w0 w sb arr v hD hst
  have harr : ∀ j, j < nd - 1 → arr[1 + j]? = some (.int .u8 (tl.getD j 0)) := fun j hj => by
    rw [hD.at_ _ (by omega), KT.out]; cases ds <;> simp [Nat.add_comm]
  have KA := Lib.hid harr
  clear harr
  have hc0 : ∀ v l w', St B w0 (some (sb, arr)) v l w' → w'.cell? ⟨sb, 0, none⟩ = some (.int .u8 (ds.getD 0 0)) := fun v l w' h => by
    rw [cell_of_row w' sb 0 arr 56 (0, 0) (h.dig _ rfl).1]; exact hD.at_ 0 (by omega)
  have hw0 := hc0 _ _ _ hst
  have K0 := Lib.hid hc0
  clear hc0
  go_enter Tryd.func29, Tryd.ntmps29
  go_wp2_with (first
     | (at_builtin; refine app_new rfl _ _ rfl hst rfl _ [_] 1 rfl rfl rfl (by first | (simp; done) | (simp; omega)) ?_; clear hst hw0; intro v1 w1 hst; have hw0 := K0.out _ _ _ hst)
     | (at_builtin; refine app_new rfl _ _ rfl hst rfl _ [_, _] 2 rfl rfl rfl (by first | (simp; done) | (simp; omega)) ?_; clear hst hw0; intro v1 w1 hst; have hw0 := K0.out _ _ _ hst)
     | (at_builtin; refine app_new rfl _ _ rfl hst rfl _ [_, _, _] 3 rfl rfl rfl (by first | (simp; done) | (simp; omega)) ?_; clear hst hw0; intro v1 w1 hst; have hw0 := K0.out _ _ _ hst)
     | (at_builtin; refine app_dig rfl _ _ rfl rfl hst rfl 1 (nd - 1) _ tl rfl KA.out KL.out (by first | (simp; done) | (simp; omega)) ?_; clear hst hw0; intro v1 w1 hst; have hw0 := K0.out _ _ _ hst))
  refine wp_loop_rounds 1 ?_
  rw [rounds_succ]
  go_wp2_with (first
     | (at_builtin; refine app_new rfl _ _ rfl hst rfl _ [_] 1 rfl rfl rfl (by first | (simp; done) | (simp; omega)) ?_; clear hst hw0; intro v1 w1 hst; have hw0 := K0.out _ _ _ hst)
     | (at_builtin; refine app_new rfl _ _ rfl hst rfl _ [_, _] 2 rfl rfl rfl (by first | (simp; done) | (simp; omega)) ?_; clear hst hw0; intro v1 w1 hst; have hw0 := K0.out _ _ _ hst)
     | (at_builtin; refine app_new rfl _ _ rfl hst rfl _ [_, _, _] 3 rfl rfl rfl (by first | (simp; done) | (simp; omega)) ?_; clear hst hw0; intro v1 w1 hst; have hw0 := K0.out _ _ _ hst)
     | (at_builtin; refine app_dig rfl _ _ rfl rfl hst rfl 1 (nd - 1) _ tl rfl KA.out KL.out (by first | (simp; done) | (simp; omega)) ?_; clear hst hw0; intro v1 w1 hst; have hw0 := K0.out _ _ _ hst))
  go_ret
  exact ⟨_, rfl, hst⟩

set_option maxHeartbeats 2000000 in
set_option maxRecDepth 100000 in
theorem fmtE1tf (ds : List Int) (dp : Int)  (h0 : 100 ≤ dp - 1) (h1 : dp ≤ 500) : FmtG true 1 ds dp := by
  by_cases hdl : ds.length = 1
  case neg => exact ⟨[], fun B w0 w sb arr v hD => absurd hD.len hdl⟩
  apply Exists.intro
  intro B w0 w sb arr v hD hst
  have hc0 : ∀ v l w', St B w0 (some (sb, arr)) v l w' → w'.cell? ⟨sb, 0, none⟩ = some (.int .u8 (ds.getD 0 0)) := fun v l w' h => by
    rw [cell_of_row w' sb 0 arr 56 (0, 0) (h.dig _ rfl).1]; exact hD.at_ 0 (by omega)
  have hw0 := hc0 _ _ _ hst
  have K0 := Lib.hid hc0
  clear hc0
  go_enter Tryd.func29, Tryd.ntmps29
  go_wp2_with (first
     | (at_builtin; refine app_new rfl _ _ rfl hst rfl _ [_] 1 rfl rfl rfl (by first | (simp; done) | (simp; omega)) ?_; clear hst hw0; intro v1 w1 hst; have hw0 := K0.out _ _ _ hst)
     | (at_builtin; refine app_new rfl _ _ rfl hst rfl _ [_, _] 2 rfl rfl rfl (by first | (simp; done) | (simp; omega)) ?_; clear hst hw0; intro v1 w1 hst; have hw0 := K0.out _ _ _ hst)
     | (at_builtin; refine app_new rfl _ _ rfl hst rfl _ [_, _, _] 3 rfl rfl rfl (by first | (simp; done) | (simp; omega)) ?_; clear hst hw0; intro v1 w1 hst; have hw0 := K0.out _ _ _ hst))
  go_ret
  exact ⟨_, rfl, hst⟩

set_option maxHeartbeats 2000000 in
set_option maxRecDepth 100000 in
theorem fmtE2tf (nd : Nat) (ds : List Int) (dp : Int) (hnd0 : 2 ≤ nd) (hnd1 : nd ≤ 20) (h0 : 100 ≤ dp - 1) (h1 : dp ≤ 500) : FmtG true nd ds dp := by
  obtain ⟨tl, htl⟩ : ∃ tl, tl = ds.tail := ⟨_, rfl⟩
  have KT : Hid (tl = ds.tail) := Lib.hid htl
  clear htl
  by_cases hdl : ds.length = nd
  case neg => exact ⟨[], fun B w0 w sb arr v hD => absurd hD.len hdl⟩
  have htlen : tl.length = nd - 1 := by rw [KT.out, List.length_tail, hdl]
  have KL := Lib.hid htlen
  have hl19 : tl.length ≤ 19 := by rw [htlen]; omega
  clear htlen
  apply Exists.intro
  intro B w0 w sb arr v hD hst
  have harr : ∀ j, j < nd - 1 → arr[1 + j]? = some (.int .u8 (tl.getD j 0)) := fun j hj => by
    rw [hD.at_ _ (by omega), KT.out]; cases ds <;> simp [Nat.add_comm]
  have KA := Lib.hid harr
  clear harr
  have hc0 : ∀ v l w', St B w0 (some (sb, arr)) v l w' → w'.cell? ⟨sb, 0, none⟩ = some (.int .u8 (ds.getD 0 0)) := fun v l w' h => by
    rw [cell_of_row w' sb 0 arr 56 (0, 0) (h.dig _ rfl).1]; exact hD.at_ 0 (by omega)
  have hw0 := hc0 _ _ _ hst
  have K0 := Lib.hid hc0
  clear hc0
  go_enter Tryd.func29, Tryd.ntmps29
  go_wp2_with (first
     | (at_builtin; refine app_new rfl _ _ rfl hst rfl _ [_] 1 rfl rfl rfl (by first | (simp; done) | (simp; omega)) ?_; clear hst hw0; intro v1 w1 hst; have hw0 := K0.out _ _ _ hst)
     | (at_builtin; refine app_new rfl _ _ rfl hst rfl _ [_, _] 2 rfl rfl rfl (by first | (simp; done) | (simp; omega)) ?_; clear hst hw0; intro v1 w1 hst; have hw0 := K0.out _ _ _ hst)
     | (at_builtin; refine app_new rfl _ _ rfl hst rfl _ [_, _, _] 3 rfl rfl rfl (by first | (simp; done) | (simp; omega)) ?_; clear hst hw0; intro v1 w1 hst; have hw0 := K0.out _ _ _ hst)
     | (at_builtin; refine app_dig rfl _ _ rfl rfl hst rfl 1 (nd - 1) _ tl rfl KA.out KL.out (by first | (simp; done) | (simp; omega)) ?_; clear hst hw0; intro v1 w1 hst; have hw0 := K0.out _ _ _ hst))
  refine wp_loop_rounds 1 ?_
  rw [rounds_succ]
  go_wp2_with (first
     | (at_builtin; refine app_new rfl _ _ rfl hst rfl _ [_] 1 rfl rfl rfl (by first | (simp; done) | (simp; omega)) ?_; clear hst hw0; intro v1 w1 hst; have hw0 := K0.out _ _ _ hst)
     | (at_builtin; refine app_new rfl _ _ rfl hst rfl _ [_, _] 2 rfl rfl rfl (by first | (simp; done) | (simp; omega)) ?_; clear hst hw0; intro v1 w1 hst; have hw0 := K0.out _ _ _ hst)
     | (at_builtin; refine app_new rfl _ _ rfl hst rfl _ [_, _, _] 3 rfl rfl rfl (by first | (simp; done) | (simp; omega)) ?_; clear hst hw0; intro v1 w1 hst; have hw0 := K0.out _ _ _ hst)
     | (at_builtin; refine app_dig rfl _ _ rfl rfl hst rfl 1 (nd - 1) _ tl rfl KA.out KL.out (by first | (simp; done) | (simp; omega)) ?_; clear hst hw0; intro v1 w1 hst; have hw0 := K0.out _ _ _ hst))
  go_ret
  exact ⟨_, rfl, hst⟩

theorem fmtE_any (neg : Bool) (nd : Nat) (ds : List Int) (dp : Int) (hnd : nd ≤ 20) (h0 : -500 ≤ dp) (h1 : dp ≤ 500) (he : dp - 1 < -4 ∨ 6 ≤ dp - 1) : FmtG neg nd ds dp := by
  by_cases n0 : nd = 0
  · subst n0
    rcases he with he | he
    · cases neg
      · exact fmtE0fn ds dp he h0
      · exact fmtE0tn ds dp he h0
    · cases neg
      · exact fmtE0fp ds dp he h1
      · exact fmtE0tp ds dp he h1
  by_cases n1 : nd = 1
  · subst n1
    rcases he with he | he
    · by_cases a : -(dp - 1) < 10
      · cases neg
        · exact fmtE1fa ds dp he a
        · exact fmtE1ta ds dp he a
      · by_cases b : -(dp - 1) < 100
        · cases neg
          · exact fmtE1fb ds dp (by omega) b
          · exact fmtE1tb ds dp (by omega) b
        · cases neg
          · exact fmtE1fc ds dp (by omega) h0
          · exact fmtE1tc ds dp (by omega) h0
    · by_cases a : dp - 1 < 10
      · cases neg
        · exact fmtE1fd ds dp he a
        · exact fmtE1td ds dp he a
      · by_cases b : dp - 1 < 100
        · cases neg
          · exact fmtE1fe ds dp (by omega) b
          · exact fmtE1te ds dp (by omega) b
        · cases neg
          · exact fmtE1ff ds dp (by omega) h1
          · exact fmtE1tf ds dp (by omega) h1
  · rcases he with he | he
    · by_cases a : -(dp - 1) < 10
      · cases neg
        · exact fmtE2fa nd ds dp (by omega) hnd he a
        · exact fmtE2ta nd ds dp (by omega) hnd he a
      · by_cases b : -(dp - 1) < 100
        · cases neg
          · exact fmtE2fb nd ds dp (by omega) hnd (by omega) b
          · exact fmtE2tb nd ds dp (by omega) hnd (by omega) b
        · cases neg
          · exact fmtE2fc nd ds dp (by omega) hnd (by omega) h0
          · exact fmtE2tc nd ds dp (by omega) hnd (by omega) h0
    · by_cases a : dp - 1 < 10
      · cases neg
        · exact fmtE2fd nd ds dp (by omega) hnd he a
        · exact fmtE2td nd ds dp (by omega) hnd he a
      · by_cases b : dp - 1 < 100
        · cases neg
          · exact fmtE2fe nd ds dp (by omega) hnd (by omega) b
          · exact fmtE2te nd ds dp (by omega) hnd (by omega) b
        · cases neg
          · exact fmtE2ff nd ds dp (by omega) hnd (by omega) h1
          · exact fmtE2tf nd ds dp (by omega) hnd (by omega) h1
end Go.Proofs.YtniiphdbajjldaaDoor
