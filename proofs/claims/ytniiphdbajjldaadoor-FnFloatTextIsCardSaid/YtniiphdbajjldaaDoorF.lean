/-
  A part of the proof of FnFloatTextIs: fmtEFG at the form without an exponent.
-/
import Derived.Test.YtniiphdbajjldaaDoorE
namespace Go.Proofs.YtniiphdbajjldaaDoor
open Go.RowKit


theorem take_next (ds : List Int) (j : Nat) (h : j < ds.length) : ds.take (j + 1) = ds.take j ++ [ds.getD j 0] := by
  rw [List.take_succ_eq_append_getElem h]
  simp [List.getD, h]
theorem rep_next (x : Int) (j : Nat) : List.replicate (j + 1) x = List.replicate j x ++ [x] := by
  rw [List.replicate_succ']

set_option maxHeartbeats 8000000 in
set_option maxRecDepth 100000 in
theorem fmtF1f (p k : Nat) (ds : List Int) (hk0 : 1 ≤ k) (hk1 : k ≤ 6) (hp : 1 ≤ p) (hp1 : p ≤ 19) : FmtG false (k + p) ds k := by
  apply Exists.intro
  case h =>
    intro B w0 w sb arr v hD hst
    have hlen := hD.len
    have hc : ∀ v l w', St B w0 (some (sb, arr)) v l w' → ∀ j : Nat, j < k + p → w'.cell? ⟨sb, j, none⟩ = some (.int .u8 (ds.getD j 0)) := fun v l w' h j hj => by
      rw [cell_of_row w' sb j arr 56 (0, 0) (h.dig _ rfl).1]; exact hD.at_ j (by omega)
    have K0 := Lib.hid hc
    have KLen := Lib.hid hlen
    clear hc hlen hD
    rw [show ((k + p : Nat) : Int) = (k : Int) + p from by omega]
    have e1 : max ((k : Int) + p - k) 0 = p := by omega
    have e2 : min ((k : Int) + p) k = k := by omega
    have e3 : max (k : Int) 0 = k := by omega
    have e4 : max 0 (-(k : Int)) = 0 := by omega
    have e5 : min (p : Int) 0 = 0 := by omega
    have e6 : max 0 ((k : Int) + p - k) = p := by omega
    have b1 : decide ((k : Int) - 1 < -4) = false := by simp; omega
    have b2 : decide (6 ≤ (k : Int) - 1) = false := by simp; omega
    have b3 : decide ((k : Int) < k + p) = true := by simp; omega
    have b4 : decide (0 < k) = true := by simp; omega
    have b5 : decide (0 < p) = true := by simp; omega
    go_enter Tryd.func29, Tryd.ntmps29
    go_wp2_with (first
     | (at_builtin; refine app_new rfl _ _ rfl hst rfl _ [_] 1 rfl rfl rfl (by first | (simp; done) | (simp; omega)) ?_; clear hst; intro v1 w1 hst))
    go_loopw [0, 191] (fun v0 i wr => ∃ j : Nat, j ≤ k ∧ i = .int .i64 j ∧ St B w0 (some (sb, arr)) v0 ([] ++ ds.take j) wr) (fun _ i _ => k - (intOf i).toNat)
    case atStart => exact ⟨0, Nat.zero_le _, rfl, by simpa using hst⟩
    case round =>
      clear hst
      obtain ⟨j, hj, rfl, hst⟩ := hrel
      have htl : (ds.take j).length ≤ 20 := by rw [List.length_take]; omega
      by_cases hlt : j < k
      · have hcell := K0.out _ _ _ hst j (by omega)
        have KN : Hid (ds.take (j + 1) = ds.take j ++ [ds.getD j 0]) := Lib.hid (take_next ds j (by rw [KLen.out]; omega))
        go_wp2_with (first
     | (at_builtin; refine app_new rfl _ _ rfl hst rfl _ [_] 1 rfl rfl rfl (by first | (simp; done) | (simp; omega)) ?_; clear hst; intro v1 w1 hst))
        go_roundw
        case rel => exact ⟨j + 1, by omega, by go_num, by rw [KN.out, ← List.append_assoc]; simpa using hst⟩
        case measure => simp [intOf]; omega
      · obtain rfl : k = j := by omega
        go_wp2_with (first
     | (at_builtin; refine app_new rfl _ _ rfl hst rfl _ [_] 1 rfl rfl rfl (by first | (simp; done) | (simp; omega)) ?_; clear hst; intro v1 w1 hst))
        refine wp_loop_rounds 1 ?_
        rw [rounds_succ]
        go_wp2_with (first
     | (at_builtin; refine app_new rfl _ _ rfl hst rfl _ [_] 1 rfl rfl rfl (by first | (simp; done) | (simp; omega)) ?_; clear hst; intro v1 w1 hst))
        refine wp_loop_rounds 1 ?_
        rw [rounds_succ]
        go_wp2_with (first
     | (at_builtin; refine app_new rfl _ _ rfl hst rfl _ [_] 1 rfl rfl rfl (by first | (simp; done) | (simp; omega)) ?_; clear hst; intro v1 w1 hst))
        go_loopw [0, 247] (fun v0 i wr => ∃ j : Nat, j ≤ p ∧ i = .int .i64 j ∧ St B w0 (some (sb, arr)) v0 (([] ++ ds.take k ++ [46]) ++ (ds.drop k).take j) wr) (fun _ i _ => p - (intOf i).toNat)
        case atStart => exact ⟨0, Nat.zero_le _, rfl, by simpa using hst⟩
        case round =>
          clear hst
          obtain ⟨j, hj, rfl, hst⟩ := hrel
          have htl : ((ds.drop k).take j).length ≤ 20 := by rw [List.length_take]; omega
          by_cases hlt : j < p
          · have hcell := K0.out _ _ _ hst (k + j) (by omega)
            have KN : Hid ((ds.drop k).take (j + 1) = (ds.drop k).take j ++ [ds.getD (k + j) 0]) := Lib.hid (by have := take_next (ds.drop k) j (by rw [List.length_drop, KLen.out]; omega); rw [this]; simp [List.getD])
            go_wp2_with (first
     | (at_builtin; refine app_new rfl _ _ rfl hst rfl _ [_] 1 rfl rfl rfl (by first | (simp; done) | (simp; omega)) ?_; clear hst; intro v1 w1 hst))
            go_roundw
            case rel => exact ⟨j + 1, by omega, by go_num, by rw [KN.out, ← List.append_assoc]; simpa using hst⟩
            case measure => simp [intOf]; omega
          · obtain rfl : p = j := by omega
            go_wp2_with (first
     | (at_builtin; refine app_new rfl _ _ rfl hst rfl _ [_] 1 rfl rfl rfl (by first | (simp; done) | (simp; omega)) ?_; clear hst; intro v1 w1 hst))
            refine wp_loop_rounds 1 ?_
            rw [rounds_succ]
            go_wp2_with (first
     | (at_builtin; refine app_new rfl _ _ rfl hst rfl _ [_] 1 rfl rfl rfl (by first | (simp; done) | (simp; omega)) ?_; clear hst; intro v1 w1 hst))
            go_ret
            exact ⟨_, rfl, hst⟩

set_option maxHeartbeats 8000000 in
set_option maxRecDepth 100000 in
theorem fmtF1t (p k : Nat) (ds : List Int) (hk0 : 1 ≤ k) (hk1 : k ≤ 6) (hp : 1 ≤ p) (hp1 : p ≤ 19) : FmtG true (k + p) ds k := by
  apply Exists.intro
  case h =>
    intro B w0 w sb arr v hD hst
    have hlen := hD.len
    have hc : ∀ v l w', St B w0 (some (sb, arr)) v l w' → ∀ j : Nat, j < k + p → w'.cell? ⟨sb, j, none⟩ = some (.int .u8 (ds.getD j 0)) := fun v l w' h j hj => by
      rw [cell_of_row w' sb j arr 56 (0, 0) (h.dig _ rfl).1]; exact hD.at_ j (by omega)
    have K0 := Lib.hid hc
    have KLen := Lib.hid hlen
    clear hc hlen hD
    rw [show ((k + p : Nat) : Int) = (k : Int) + p from by omega]
    have e1 : max ((k : Int) + p - k) 0 = p := by omega
    have e2 : min ((k : Int) + p) k = k := by omega
    have e3 : max (k : Int) 0 = k := by omega
    have e4 : max 0 (-(k : Int)) = 0 := by omega
    have e5 : min (p : Int) 0 = 0 := by omega
    have e6 : max 0 ((k : Int) + p - k) = p := by omega
    have b1 : decide ((k : Int) - 1 < -4) = false := by simp; omega
    have b2 : decide (6 ≤ (k : Int) - 1) = false := by simp; omega
    have b3 : decide ((k : Int) < k + p) = true := by simp; omega
    have b4 : decide (0 < k) = true := by simp; omega
    have b5 : decide (0 < p) = true := by simp; omega
    go_enter Tryd.func29, Tryd.ntmps29
    go_wp2_with (first
     | (at_builtin; refine app_new rfl _ _ rfl hst rfl _ [_] 1 rfl rfl rfl (by first | (simp; done) | (simp; omega)) ?_; clear hst; intro v1 w1 hst))
    go_loopw [0, 191] (fun v0 i wr => ∃ j : Nat, j ≤ k ∧ i = .int .i64 j ∧ St B w0 (some (sb, arr)) v0 (([] ++ [45]) ++ ds.take j) wr) (fun _ i _ => k - (intOf i).toNat)
    case atStart => exact ⟨0, Nat.zero_le _, rfl, by simpa using hst⟩
    case round =>
      clear hst
      obtain ⟨j, hj, rfl, hst⟩ := hrel
      have htl : (ds.take j).length ≤ 20 := by rw [List.length_take]; omega
      by_cases hlt : j < k
      · have hcell := K0.out _ _ _ hst j (by omega)
        have KN : Hid (ds.take (j + 1) = ds.take j ++ [ds.getD j 0]) := Lib.hid (take_next ds j (by rw [KLen.out]; omega))
        go_wp2_with (first
     | (at_builtin; refine app_new rfl _ _ rfl hst rfl _ [_] 1 rfl rfl rfl (by first | (simp; done) | (simp; omega)) ?_; clear hst; intro v1 w1 hst))
        go_roundw
        case rel => exact ⟨j + 1, by omega, by go_num, by rw [KN.out, ← List.append_assoc]; simpa using hst⟩
        case measure => simp [intOf]; omega
      · obtain rfl : k = j := by omega
        go_wp2_with (first
     | (at_builtin; refine app_new rfl _ _ rfl hst rfl _ [_] 1 rfl rfl rfl (by first | (simp; done) | (simp; omega)) ?_; clear hst; intro v1 w1 hst))
        refine wp_loop_rounds 1 ?_
        rw [rounds_succ]
        go_wp2_with (first
     | (at_builtin; refine app_new rfl _ _ rfl hst rfl _ [_] 1 rfl rfl rfl (by first | (simp; done) | (simp; omega)) ?_; clear hst; intro v1 w1 hst))
        refine wp_loop_rounds 1 ?_
        rw [rounds_succ]
        go_wp2_with (first
     | (at_builtin; refine app_new rfl _ _ rfl hst rfl _ [_] 1 rfl rfl rfl (by first | (simp; done) | (simp; omega)) ?_; clear hst; intro v1 w1 hst))
        go_loopw [0, 247] (fun v0 i wr => ∃ j : Nat, j ≤ p ∧ i = .int .i64 j ∧ St B w0 (some (sb, arr)) v0 ((([] ++ [45]) ++ ds.take k ++ [46]) ++ (ds.drop k).take j) wr) (fun _ i _ => p - (intOf i).toNat)
        case atStart => exact ⟨0, Nat.zero_le _, rfl, by simpa using hst⟩
        case round =>
          clear hst
          obtain ⟨j, hj, rfl, hst⟩ := hrel
          have htl : ((ds.drop k).take j).length ≤ 20 := by rw [List.length_take]; omega
          by_cases hlt : j < p
          · have hcell := K0.out _ _ _ hst (k + j) (by omega)
            have KN : Hid ((ds.drop k).take (j + 1) = (ds.drop k).take j ++ [ds.getD (k + j) 0]) := Lib.hid (by have := take_next (ds.drop k) j (by rw [List.length_drop, KLen.out]; omega); rw [this]; simp [List.getD])
            go_wp2_with (first
     | (at_builtin; refine app_new rfl _ _ rfl hst rfl _ [_] 1 rfl rfl rfl (by first | (simp; done) | (simp; omega)) ?_; clear hst; intro v1 w1 hst))
            go_roundw
            case rel => exact ⟨j + 1, by omega, by go_num, by rw [KN.out, ← List.append_assoc]; simpa using hst⟩
            case measure => simp [intOf]; omega
          · obtain rfl : p = j := by omega
            go_wp2_with (first
     | (at_builtin; refine app_new rfl _ _ rfl hst rfl _ [_] 1 rfl rfl rfl (by first | (simp; done) | (simp; omega)) ?_; clear hst; intro v1 w1 hst))
            refine wp_loop_rounds 1 ?_
            rw [rounds_succ]
            go_wp2_with (first
     | (at_builtin; refine app_new rfl _ _ rfl hst rfl _ [_] 1 rfl rfl rfl (by first | (simp; done) | (simp; omega)) ?_; clear hst; intro v1 w1 hst))
            go_ret
            exact ⟨_, rfl, hst⟩

set_option maxHeartbeats 8000000 in
set_option maxRecDepth 100000 in
theorem fmtF2f (k : Nat) (ds : List Int) (hk0 : 1 ≤ k) (hk1 : k ≤ 6) : FmtG false k ds k := by
  apply Exists.intro
  case h =>
    intro B w0 w sb arr v hD hst
    have hlen := hD.len
    have hc : ∀ v l w', St B w0 (some (sb, arr)) v l w' → ∀ j : Nat, j < k → w'.cell? ⟨sb, j, none⟩ = some (.int .u8 (ds.getD j 0)) := fun v l w' h j hj => by
      rw [cell_of_row w' sb j arr 56 (0, 0) (h.dig _ rfl).1]; exact hD.at_ j (by omega)
    have K0 := Lib.hid hc
    have KLen := Lib.hid hlen
    clear hc hlen hD
    have e2 : min (k : Int) k = k := by omega
    have e3 : max (k : Int) 0 = k := by omega
    have b1 : decide ((k : Int) - 1 < -4) = false := by simp; omega
    have b2 : decide (6 ≤ (k : Int) - 1) = false := by simp; omega
    have b4 : decide (0 < k) = true := by simp; omega
    go_enter Tryd.func29, Tryd.ntmps29
    go_wp2_with (first
     | (at_builtin; refine app_new rfl _ _ rfl hst rfl _ [_] 1 rfl rfl rfl (by first | (simp; done) | (simp; omega)) ?_; clear hst; intro v1 w1 hst))
    go_loopw [0, 191] (fun v0 i wr => ∃ j : Nat, j ≤ k ∧ i = .int .i64 j ∧ St B w0 (some (sb, arr)) v0 ([] ++ ds.take j) wr) (fun _ i _ => k - (intOf i).toNat)
    case atStart => exact ⟨0, Nat.zero_le _, rfl, by simpa using hst⟩
    case round =>
      clear hst
      obtain ⟨j, hj, rfl, hst⟩ := hrel
      have htl : (ds.take j).length ≤ 20 := by rw [List.length_take]; omega
      by_cases hlt : j < k
      · have hcell := K0.out _ _ _ hst j (by omega)
        have KN : Hid (ds.take (j + 1) = ds.take j ++ [ds.getD j 0]) := Lib.hid (take_next ds j (by rw [KLen.out]; omega))
        go_wp2_with (first
     | (at_builtin; refine app_new rfl _ _ rfl hst rfl _ [_] 1 rfl rfl rfl (by first | (simp; done) | (simp; omega)) ?_; clear hst; intro v1 w1 hst))
        go_roundw
        case rel => exact ⟨j + 1, by omega, by go_num, by rw [KN.out, ← List.append_assoc]; simpa using hst⟩
        case measure => simp [intOf]; omega
      · obtain rfl : k = j := by omega
        go_wp2_with (first
     | (at_builtin; refine app_new rfl _ _ rfl hst rfl _ [_] 1 rfl rfl rfl (by first | (simp; done) | (simp; omega)) ?_; clear hst; intro v1 w1 hst))
        refine wp_loop_rounds 1 ?_
        rw [rounds_succ]
        go_wp2_with (first
     | (at_builtin; refine app_new rfl _ _ rfl hst rfl _ [_] 1 rfl rfl rfl (by first | (simp; done) | (simp; omega)) ?_; clear hst; intro v1 w1 hst))
        go_ret
        exact ⟨_, rfl, hst⟩

set_option maxHeartbeats 8000000 in
set_option maxRecDepth 100000 in
theorem fmtF2t (k : Nat) (ds : List Int) (hk0 : 1 ≤ k) (hk1 : k ≤ 6) : FmtG true k ds k := by
  apply Exists.intro
  case h =>
    intro B w0 w sb arr v hD hst
    have hlen := hD.len
    have hc : ∀ v l w', St B w0 (some (sb, arr)) v l w' → ∀ j : Nat, j < k → w'.cell? ⟨sb, j, none⟩ = some (.int .u8 (ds.getD j 0)) := fun v l w' h j hj => by
      rw [cell_of_row w' sb j arr 56 (0, 0) (h.dig _ rfl).1]; exact hD.at_ j (by omega)
    have K0 := Lib.hid hc
    have KLen := Lib.hid hlen
    clear hc hlen hD
    have e2 : min (k : Int) k = k := by omega
    have e3 : max (k : Int) 0 = k := by omega
    have b1 : decide ((k : Int) - 1 < -4) = false := by simp; omega
    have b2 : decide (6 ≤ (k : Int) - 1) = false := by simp; omega
    have b4 : decide (0 < k) = true := by simp; omega
    go_enter Tryd.func29, Tryd.ntmps29
    go_wp2_with (first
     | (at_builtin; refine app_new rfl _ _ rfl hst rfl _ [_] 1 rfl rfl rfl (by first | (simp; done) | (simp; omega)) ?_; clear hst; intro v1 w1 hst))
    go_loopw [0, 191] (fun v0 i wr => ∃ j : Nat, j ≤ k ∧ i = .int .i64 j ∧ St B w0 (some (sb, arr)) v0 (([] ++ [45]) ++ ds.take j) wr) (fun _ i _ => k - (intOf i).toNat)
    case atStart => exact ⟨0, Nat.zero_le _, rfl, by simpa using hst⟩
    case round =>
      clear hst
      obtain ⟨j, hj, rfl, hst⟩ := hrel
      have htl : (ds.take j).length ≤ 20 := by rw [List.length_take]; omega
      by_cases hlt : j < k
      · have hcell := K0.out _ _ _ hst j (by omega)
        have KN : Hid (ds.take (j + 1) = ds.take j ++ [ds.getD j 0]) := Lib.hid (take_next ds j (by rw [KLen.out]; omega))
        go_wp2_with (first
     | (at_builtin; refine app_new rfl _ _ rfl hst rfl _ [_] 1 rfl rfl rfl (by first | (simp; done) | (simp; omega)) ?_; clear hst; intro v1 w1 hst))
        go_roundw
        case rel => exact ⟨j + 1, by omega, by go_num, by rw [KN.out, ← List.append_assoc]; simpa using hst⟩
        case measure => simp [intOf]; omega
      · obtain rfl : k = j := by omega
        go_wp2_with (first
     | (at_builtin; refine app_new rfl _ _ rfl hst rfl _ [_] 1 rfl rfl rfl (by first | (simp; done) | (simp; omega)) ?_; clear hst; intro v1 w1 hst))
        refine wp_loop_rounds 1 ?_
        rw [rounds_succ]
        go_wp2_with (first
     | (at_builtin; refine app_new rfl _ _ rfl hst rfl _ [_] 1 rfl rfl rfl (by first | (simp; done) | (simp; omega)) ?_; clear hst; intro v1 w1 hst))
        go_ret
        exact ⟨_, rfl, hst⟩

set_option maxHeartbeats 8000000 in
set_option maxRecDepth 100000 in
theorem fmtF3f (n q : Nat) (ds : List Int) (hq : 1 ≤ q) (hk1 : n + q ≤ 6) : FmtG false n ds ((n + q : Nat) : Int) := by
  apply Exists.intro
  case h =>
    intro B w0 w sb arr v hD hst
    have hlen := hD.len
    have hc : ∀ v l w', St B w0 (some (sb, arr)) v l w' → ∀ j : Nat, j < n → w'.cell? ⟨sb, j, none⟩ = some (.int .u8 (ds.getD j 0)) := fun v l w' h j hj => by
      rw [cell_of_row w' sb j arr 56 (0, 0) (h.dig _ rfl).1]; exact hD.at_ j (by omega)
    have K0 := Lib.hid hc
    have KLen := Lib.hid hlen
    clear hc hlen hD
    rw [show ((n + q : Nat) : Int) = (n : Int) + q from by omega]
    have e1 : max ((n : Int) - (n + q)) 0 = 0 := by omega
    have e2 : min (n : Int) (n + q) = n := by omega
    have e3 : max (n : Int) 0 = n := by omega
    have e4 : (n : Int) + q - n = q := by omega
    have b1 : decide ((n : Int) + q - 1 < -4) = false := by simp; omega
    have b2 : decide (6 ≤ (n : Int) + q - 1) = false := by simp; omega
    have b3 : decide ((n : Int) + q < n) = false := by simp; omega
    have b4 : decide (0 < (n : Int) + q) = true := by simp; omega
    go_enter Tryd.func29, Tryd.ntmps29
    go_wp2_with (first
     | (at_builtin; refine app_new rfl _ _ rfl hst rfl _ [_] 1 rfl rfl rfl (by first | (simp; done) | (simp; omega)) ?_; clear hst; intro v1 w1 hst))
    go_loopw [0, 191] (fun v0 i wr => ∃ j : Nat, j ≤ n ∧ i = .int .i64 j ∧ St B w0 (some (sb, arr)) v0 ([] ++ ds.take j) wr) (fun _ i _ => n - (intOf i).toNat)
    case atStart => exact ⟨0, Nat.zero_le _, rfl, by simpa using hst⟩
    case round =>
      clear hst
      obtain ⟨j, hj, rfl, hst⟩ := hrel
      have htl : (ds.take j).length ≤ 20 := by rw [List.length_take]; omega
      by_cases hlt : j < n
      · have hcell := K0.out _ _ _ hst j (by omega)
        have KN : Hid (ds.take (j + 1) = ds.take j ++ [ds.getD j 0]) := Lib.hid (take_next ds j (by rw [KLen.out]; omega))
        go_wp2_with (first
     | (at_builtin; refine app_new rfl _ _ rfl hst rfl _ [_] 1 rfl rfl rfl (by first | (simp; done) | (simp; omega)) ?_; clear hst; intro v1 w1 hst))
        go_roundw
        case rel => exact ⟨j + 1, by omega, by go_num, by rw [KN.out, ← List.append_assoc]; simpa using hst⟩
        case measure => simp [intOf]; omega
      · obtain rfl : n = j := by omega
        go_wp2_with (first
     | (at_builtin; refine app_new rfl _ _ rfl hst rfl _ [_] 1 rfl rfl rfl (by first | (simp; done) | (simp; omega)) ?_; clear hst; intro v1 w1 hst))
        go_loopw [0, 203] (fun v0 i wr => ∃ j : Nat, j ≤ q ∧ i = .int .i64 j ∧ St B w0 (some (sb, arr)) v0 (([] ++ ds.take n) ++ List.replicate j 48) wr) (fun _ i _ => q - (intOf i).toNat)
        case atStart => exact ⟨0, Nat.zero_le _, rfl, by simpa using hst⟩
        case round =>
          clear hst
          obtain ⟨j, hj, rfl, hst⟩ := hrel
          by_cases hlt : j < q
          · have KN : Hid (List.replicate (j + 1) (48 : Int) = List.replicate j 48 ++ [48]) := Lib.hid (rep_next 48 j)
            go_wp2_with (first
     | (at_builtin; refine app_new rfl _ _ rfl hst rfl _ [_] 1 rfl rfl rfl (by first | (simp; done) | (simp; omega)) ?_; clear hst; intro v1 w1 hst))
            go_roundw
            case rel => exact ⟨j + 1, by omega, by go_num, by rw [KN.out, ← List.append_assoc]; exact hst⟩
            case measure => simp [intOf]; omega
          · obtain rfl : q = j := by omega
            go_wp2_with (first
     | (at_builtin; refine app_new rfl _ _ rfl hst rfl _ [_] 1 rfl rfl rfl (by first | (simp; done) | (simp; omega)) ?_; clear hst; intro v1 w1 hst))
            go_ret
            exact ⟨_, rfl, hst⟩

set_option maxHeartbeats 8000000 in
set_option maxRecDepth 100000 in
theorem fmtF3t (n q : Nat) (ds : List Int) (hq : 1 ≤ q) (hk1 : n + q ≤ 6) : FmtG true n ds ((n + q : Nat) : Int) := by
  apply Exists.intro
  case h =>
    intro B w0 w sb arr v hD hst
    have hlen := hD.len
    have hc : ∀ v l w', St B w0 (some (sb, arr)) v l w' → ∀ j : Nat, j < n → w'.cell? ⟨sb, j, none⟩ = some (.int .u8 (ds.getD j 0)) := fun v l w' h j hj => by
      rw [cell_of_row w' sb j arr 56 (0, 0) (h.dig _ rfl).1]; exact hD.at_ j (by omega)
    have K0 := Lib.hid hc
    have KLen := Lib.hid hlen
    clear hc hlen hD
    rw [show ((n + q : Nat) : Int) = (n : Int) + q from by omega]
    have e1 : max ((n : Int) - (n + q)) 0 = 0 := by omega
    have e2 : min (n : Int) (n + q) = n := by omega
    have e3 : max (n : Int) 0 = n := by omega
    have e4 : (n : Int) + q - n = q := by omega
    have b1 : decide ((n : Int) + q - 1 < -4) = false := by simp; omega
    have b2 : decide (6 ≤ (n : Int) + q - 1) = false := by simp; omega
    have b3 : decide ((n : Int) + q < n) = false := by simp; omega
    have b4 : decide (0 < (n : Int) + q) = true := by simp; omega
    go_enter Tryd.func29, Tryd.ntmps29
    go_wp2_with (first
     | (at_builtin; refine app_new rfl _ _ rfl hst rfl _ [_] 1 rfl rfl rfl (by first | (simp; done) | (simp; omega)) ?_; clear hst; intro v1 w1 hst))
    go_loopw [0, 191] (fun v0 i wr => ∃ j : Nat, j ≤ n ∧ i = .int .i64 j ∧ St B w0 (some (sb, arr)) v0 (([] ++ [45]) ++ ds.take j) wr) (fun _ i _ => n - (intOf i).toNat)
    case atStart => exact ⟨0, Nat.zero_le _, rfl, by simpa using hst⟩
    case round =>
      clear hst
      obtain ⟨j, hj, rfl, hst⟩ := hrel
      have htl : (ds.take j).length ≤ 20 := by rw [List.length_take]; omega
      by_cases hlt : j < n
      · have hcell := K0.out _ _ _ hst j (by omega)
        have KN : Hid (ds.take (j + 1) = ds.take j ++ [ds.getD j 0]) := Lib.hid (take_next ds j (by rw [KLen.out]; omega))
        go_wp2_with (first
     | (at_builtin; refine app_new rfl _ _ rfl hst rfl _ [_] 1 rfl rfl rfl (by first | (simp; done) | (simp; omega)) ?_; clear hst; intro v1 w1 hst))
        go_roundw
        case rel => exact ⟨j + 1, by omega, by go_num, by rw [KN.out, ← List.append_assoc]; simpa using hst⟩
        case measure => simp [intOf]; omega
      · obtain rfl : n = j := by omega
        go_wp2_with (first
     | (at_builtin; refine app_new rfl _ _ rfl hst rfl _ [_] 1 rfl rfl rfl (by first | (simp; done) | (simp; omega)) ?_; clear hst; intro v1 w1 hst))
        go_loopw [0, 203] (fun v0 i wr => ∃ j : Nat, j ≤ q ∧ i = .int .i64 j ∧ St B w0 (some (sb, arr)) v0 ((([] ++ [45]) ++ ds.take n) ++ List.replicate j 48) wr) (fun _ i _ => q - (intOf i).toNat)
        case atStart => exact ⟨0, Nat.zero_le _, rfl, by simpa using hst⟩
        case round =>
          clear hst
          obtain ⟨j, hj, rfl, hst⟩ := hrel
          by_cases hlt : j < q
          · have KN : Hid (List.replicate (j + 1) (48 : Int) = List.replicate j 48 ++ [48]) := Lib.hid (rep_next 48 j)
            go_wp2_with (first
     | (at_builtin; refine app_new rfl _ _ rfl hst rfl _ [_] 1 rfl rfl rfl (by first | (simp; done) | (simp; omega)) ?_; clear hst; intro v1 w1 hst))
            go_roundw
            case rel => exact ⟨j + 1, by omega, by go_num, by rw [KN.out, ← List.append_assoc]; exact hst⟩
            case measure => simp [intOf]; omega
          · obtain rfl : q = j := by omega
            go_wp2_with (first
     | (at_builtin; refine app_new rfl _ _ rfl hst rfl _ [_] 1 rfl rfl rfl (by first | (simp; done) | (simp; omega)) ?_; clear hst; intro v1 w1 hst))
            go_ret
            exact ⟨_, rfl, hst⟩

set_option maxHeartbeats 8000000 in
set_option maxRecDepth 100000 in
theorem fmtF4f (n q : Nat) (ds : List Int) (hn : 1 ≤ n) (hn1 : n ≤ 20) (hq : q ≤ 3) : FmtG false n ds (-(q : Int)) := by
  apply Exists.intro
  case h =>
    intro B w0 w sb arr v hD hst
    have hlen := hD.len
    have hc : ∀ v l w', St B w0 (some (sb, arr)) v l w' → ∀ j : Nat, j < n → w'.cell? ⟨sb, j, none⟩ = some (.int .u8 (ds.getD j 0)) := fun v l w' h j hj => by
      rw [cell_of_row w' sb j arr 56 (0, 0) (h.dig _ rfl).1]; exact hD.at_ j (by omega)
    have K0 := Lib.hid hc
    have KLen := Lib.hid hlen
    clear hc hlen hD
    have e1 : max ((n : Int) + q) 0 = n + q := by omega
    have e2 : max 0 (q : Int) = q := by omega
    have e3 : min ((n : Int) + q) q = q := by omega
    have e4 : -(q : Int) + q = 0 := by omega
    have e5 : max 0 (n : Int) = n := by omega
    have e6 : (n : Int) + q - q = n := by omega
    have e7 : (n : Int) - -(q : Int) = n + q := by omega
    have b1 : decide (-(q : Int) - 1 < -4) = false := by simp; omega
    have b2 : decide (6 ≤ -(q : Int) - 1) = false := by simp; omega
    have b3 : decide (-(q : Int) < n) = true := by simp; omega
    have b4 : decide (0 < -(q : Int)) = false := by simp
    have b5 : decide (0 < (n : Int) + q) = true := by simp; omega
    go_enter Tryd.func29, Tryd.ntmps29
    go_wp2_with (first
     | (at_builtin; refine app_new rfl _ _ rfl hst rfl _ [_] 1 rfl rfl rfl (by first | (simp; done) | (simp; omega)) ?_; clear hst; intro v1 w1 hst))
    go_loopw [0, 240] (fun v0 i wr => ∃ j : Nat, j ≤ q ∧ i = .int .i64 j ∧ St B w0 (some (sb, arr)) v0 (([] ++ [48] ++ [46]) ++ List.replicate j 48) wr) (fun _ i _ => q - (intOf i).toNat)
    case atStart => exact ⟨0, Nat.zero_le _, rfl, by simpa using hst⟩
    case round =>
      clear hst
      obtain ⟨j, hj, rfl, hst⟩ := hrel
      by_cases hlt : j < q
      · have KN : Hid (List.replicate (j + 1) (48 : Int) = List.replicate j 48 ++ [48]) := Lib.hid (rep_next 48 j)
        go_wp2_with (first
     | (at_builtin; refine app_new rfl _ _ rfl hst rfl _ [_] 1 rfl rfl rfl (by first | (simp; done) | (simp; omega)) ?_; clear hst; intro v1 w1 hst))
        go_roundw
        case rel => exact ⟨j + 1, by omega, by go_num, by rw [KN.out, ← List.append_assoc]; exact hst⟩
        case measure => simp [intOf]; omega
      · obtain rfl : q = j := by omega
        go_wp2_with (first
     | (at_builtin; refine app_new rfl _ _ rfl hst rfl _ [_] 1 rfl rfl rfl (by first | (simp; done) | (simp; omega)) ?_; clear hst; intro v1 w1 hst))
        go_loopw [0, 247] (fun v0 i wr => ∃ j : Nat, j ≤ n ∧ i = .int .i64 j ∧ St B w0 (some (sb, arr)) v0 (([] ++ [48] ++ [46] ++ List.replicate q 48) ++ ds.take j) wr) (fun _ i _ => n - (intOf i).toNat)
        case atStart => exact ⟨0, Nat.zero_le _, rfl, by simpa using hst⟩
        case round =>
          clear hst
          obtain ⟨j, hj, rfl, hst⟩ := hrel
          have htl : (ds.take j).length ≤ 20 := by rw [List.length_take]; omega
          by_cases hlt : j < n
          · have hcell := K0.out _ _ _ hst j (by omega)
            have KN : Hid (ds.take (j + 1) = ds.take j ++ [ds.getD j 0]) := Lib.hid (take_next ds j (by rw [KLen.out]; omega))
            go_wp2_with (first
     | (at_builtin; refine app_new rfl _ _ rfl hst rfl _ [_] 1 rfl rfl rfl (by first | (simp; done) | (simp; omega)) ?_; clear hst; intro v1 w1 hst))
            go_roundw
            case rel => exact ⟨j + 1, by omega, by go_num, by rw [KN.out, ← List.append_assoc]; simpa using hst⟩
            case measure => simp [intOf]; omega
          · obtain rfl : n = j := by omega
            go_wp2_with (first
     | (at_builtin; refine app_new rfl _ _ rfl hst rfl _ [_] 1 rfl rfl rfl (by first | (simp; done) | (simp; omega)) ?_; clear hst; intro v1 w1 hst))
            refine wp_loop_rounds 1 ?_
            rw [rounds_succ]
            go_wp2_with (first
     | (at_builtin; refine app_new rfl _ _ rfl hst rfl _ [_] 1 rfl rfl rfl (by first | (simp; done) | (simp; omega)) ?_; clear hst; intro v1 w1 hst))
            go_ret
            exact ⟨_, rfl, hst⟩

set_option maxHeartbeats 8000000 in
set_option maxRecDepth 100000 in
theorem fmtF4t (n q : Nat) (ds : List Int) (hn : 1 ≤ n) (hn1 : n ≤ 20) (hq : q ≤ 3) : FmtG true n ds (-(q : Int)) := by
  apply Exists.intro
  case h =>
    intro B w0 w sb arr v hD hst
    have hlen := hD.len
    have hc : ∀ v l w', St B w0 (some (sb, arr)) v l w' → ∀ j : Nat, j < n → w'.cell? ⟨sb, j, none⟩ = some (.int .u8 (ds.getD j 0)) := fun v l w' h j hj => by
      rw [cell_of_row w' sb j arr 56 (0, 0) (h.dig _ rfl).1]; exact hD.at_ j (by omega)
    have K0 := Lib.hid hc
    have KLen := Lib.hid hlen
    clear hc hlen hD
    have e1 : max ((n : Int) + q) 0 = n + q := by omega
    have e2 : max 0 (q : Int) = q := by omega
    have e3 : min ((n : Int) + q) q = q := by omega
    have e4 : -(q : Int) + q = 0 := by omega
    have e5 : max 0 (n : Int) = n := by omega
    have e6 : (n : Int) + q - q = n := by omega
    have e7 : (n : Int) - -(q : Int) = n + q := by omega
    have b1 : decide (-(q : Int) - 1 < -4) = false := by simp; omega
    have b2 : decide (6 ≤ -(q : Int) - 1) = false := by simp; omega
    have b3 : decide (-(q : Int) < n) = true := by simp; omega
    have b4 : decide (0 < -(q : Int)) = false := by simp
    have b5 : decide (0 < (n : Int) + q) = true := by simp; omega
    go_enter Tryd.func29, Tryd.ntmps29
    go_wp2_with (first
     | (at_builtin; refine app_new rfl _ _ rfl hst rfl _ [_] 1 rfl rfl rfl (by first | (simp; done) | (simp; omega)) ?_; clear hst; intro v1 w1 hst))
    go_loopw [0, 240] (fun v0 i wr => ∃ j : Nat, j ≤ q ∧ i = .int .i64 j ∧ St B w0 (some (sb, arr)) v0 ((([] ++ [45]) ++ [48] ++ [46]) ++ List.replicate j 48) wr) (fun _ i _ => q - (intOf i).toNat)
    case atStart => exact ⟨0, Nat.zero_le _, rfl, by simpa using hst⟩
    case round =>
      clear hst
      obtain ⟨j, hj, rfl, hst⟩ := hrel
      by_cases hlt : j < q
      · have KN : Hid (List.replicate (j + 1) (48 : Int) = List.replicate j 48 ++ [48]) := Lib.hid (rep_next 48 j)
        go_wp2_with (first
     | (at_builtin; refine app_new rfl _ _ rfl hst rfl _ [_] 1 rfl rfl rfl (by first | (simp; done) | (simp; omega)) ?_; clear hst; intro v1 w1 hst))
        go_roundw
        case rel => exact ⟨j + 1, by omega, by go_num, by rw [KN.out, ← List.append_assoc]; exact hst⟩
        case measure => simp [intOf]; omega
      · obtain rfl : q = j := by omega
        go_wp2_with (first
     | (at_builtin; refine app_new rfl _ _ rfl hst rfl _ [_] 1 rfl rfl rfl (by first | (simp; done) | (simp; omega)) ?_; clear hst; intro v1 w1 hst))
        go_loopw [0, 247] (fun v0 i wr => ∃ j : Nat, j ≤ n ∧ i = .int .i64 j ∧ St B w0 (some (sb, arr)) v0 ((([] ++ [45]) ++ [48] ++ [46] ++ List.replicate q 48) ++ ds.take j) wr) (fun _ i _ => n - (intOf i).toNat)
        case atStart => exact ⟨0, Nat.zero_le _, rfl, by simpa using hst⟩
        case round =>
          clear hst
          obtain ⟨j, hj, rfl, hst⟩ := hrel
          have htl : (ds.take j).length ≤ 20 := by rw [List.length_take]; omega
          by_cases hlt : j < n
          · have hcell := K0.out _ _ _ hst j (by omega)
            have KN : Hid (ds.take (j + 1) = ds.take j ++ [ds.getD j 0]) := Lib.hid (take_next ds j (by rw [KLen.out]; omega))
            go_wp2_with (first
     | (at_builtin; refine app_new rfl _ _ rfl hst rfl _ [_] 1 rfl rfl rfl (by first | (simp; done) | (simp; omega)) ?_; clear hst; intro v1 w1 hst))
            go_roundw
            case rel => exact ⟨j + 1, by omega, by go_num, by rw [KN.out, ← List.append_assoc]; simpa using hst⟩
            case measure => simp [intOf]; omega
          · obtain rfl : n = j := by omega
            go_wp2_with (first
     | (at_builtin; refine app_new rfl _ _ rfl hst rfl _ [_] 1 rfl rfl rfl (by first | (simp; done) | (simp; omega)) ?_; clear hst; intro v1 w1 hst))
            refine wp_loop_rounds 1 ?_
            rw [rounds_succ]
            go_wp2_with (first
     | (at_builtin; refine app_new rfl _ _ rfl hst rfl _ [_] 1 rfl rfl rfl (by first | (simp; done) | (simp; omega)) ?_; clear hst; intro v1 w1 hst))
            go_ret
            exact ⟨_, rfl, hst⟩

set_option maxHeartbeats 8000000 in
set_option maxRecDepth 100000 in
theorem fmtF5f (q : Nat) (ds : List Int) (hq0 : 1 ≤ q) (hq : q ≤ 3) : FmtG false 0 ds (-(q : Int)) := by
  apply Exists.intro
  case h =>
    intro B w0 w sb arr v hD hst
    have hlen := hD.len
    have hc : ∀ v l w', St B w0 (some (sb, arr)) v l w' → ∀ j : Nat, j < 0 → w'.cell? ⟨sb, j, none⟩ = some (.int .u8 (ds.getD j 0)) := fun v l w' h j hj => by
      rw [cell_of_row w' sb j arr 56 (0, 0) (h.dig _ rfl).1]; exact hD.at_ j (by omega)
    have K0 := Lib.hid hc
    have KLen := Lib.hid hlen
    clear hc hlen hD
    have e1 : max (q : Int) 0 = q := by omega
    have e2 : max 0 (q : Int) = q := by omega
    have e4 : -(q : Int) + q = 0 := by omega
    have b1 : decide (-(q : Int) - 1 < -4) = false := by simp; omega
    have b2 : decide (6 ≤ -(q : Int) - 1) = false := by simp; omega
    have b3 : decide (-(q : Int) < 0) = true := by simp; omega
    have b4 : decide (0 < -(q : Int)) = false := by simp
    have b5 : decide (0 < q) = true := by simp; omega
    go_enter Tryd.func29, Tryd.ntmps29
    go_wp2_with (first
     | (at_builtin; refine app_new rfl _ _ rfl hst rfl _ [_] 1 rfl rfl rfl (by first | (simp; done) | (simp; omega)) ?_; clear hst; intro v1 w1 hst))
    go_loopw [0, 240] (fun v0 i wr => ∃ j : Nat, j ≤ q ∧ i = .int .i64 j ∧ St B w0 (some (sb, arr)) v0 (([] ++ [48] ++ [46]) ++ List.replicate j 48) wr) (fun _ i _ => q - (intOf i).toNat)
    case atStart => exact ⟨0, Nat.zero_le _, rfl, by simpa using hst⟩
    case round =>
      clear hst
      obtain ⟨j, hj, rfl, hst⟩ := hrel
      by_cases hlt : j < q
      · have KN : Hid (List.replicate (j + 1) (48 : Int) = List.replicate j 48 ++ [48]) := Lib.hid (rep_next 48 j)
        go_wp2_with (first
     | (at_builtin; refine app_new rfl _ _ rfl hst rfl _ [_] 1 rfl rfl rfl (by first | (simp; done) | (simp; omega)) ?_; clear hst; intro v1 w1 hst))
        go_roundw
        case rel => exact ⟨j + 1, by omega, by go_num, by rw [KN.out, ← List.append_assoc]; exact hst⟩
        case measure => simp [intOf]; omega
      · obtain rfl : q = j := by omega
        go_wp2_with (first
     | (at_builtin; refine app_new rfl _ _ rfl hst rfl _ [_] 1 rfl rfl rfl (by first | (simp; done) | (simp; omega)) ?_; clear hst; intro v1 w1 hst))
        refine wp_loop_rounds 1 ?_
        rw [rounds_succ]
        go_wp2_with (first
     | (at_builtin; refine app_new rfl _ _ rfl hst rfl _ [_] 1 rfl rfl rfl (by first | (simp; done) | (simp; omega)) ?_; clear hst; intro v1 w1 hst))
        refine wp_loop_rounds 1 ?_
        rw [rounds_succ]
        go_wp2_with (first
     | (at_builtin; refine app_new rfl _ _ rfl hst rfl _ [_] 1 rfl rfl rfl (by first | (simp; done) | (simp; omega)) ?_; clear hst; intro v1 w1 hst))
        go_ret
        exact ⟨_, rfl, hst⟩

set_option maxHeartbeats 8000000 in
set_option maxRecDepth 100000 in
theorem fmtF5t (q : Nat) (ds : List Int) (hq0 : 1 ≤ q) (hq : q ≤ 3) : FmtG true 0 ds (-(q : Int)) := by
  apply Exists.intro
  case h =>
    intro B w0 w sb arr v hD hst
    have hlen := hD.len
    have hc : ∀ v l w', St B w0 (some (sb, arr)) v l w' → ∀ j : Nat, j < 0 → w'.cell? ⟨sb, j, none⟩ = some (.int .u8 (ds.getD j 0)) := fun v l w' h j hj => by
      rw [cell_of_row w' sb j arr 56 (0, 0) (h.dig _ rfl).1]; exact hD.at_ j (by omega)
    have K0 := Lib.hid hc
    have KLen := Lib.hid hlen
    clear hc hlen hD
    have e1 : max (q : Int) 0 = q := by omega
    have e2 : max 0 (q : Int) = q := by omega
    have e4 : -(q : Int) + q = 0 := by omega
    have b1 : decide (-(q : Int) - 1 < -4) = false := by simp; omega
    have b2 : decide (6 ≤ -(q : Int) - 1) = false := by simp; omega
    have b3 : decide (-(q : Int) < 0) = true := by simp; omega
    have b4 : decide (0 < -(q : Int)) = false := by simp
    have b5 : decide (0 < q) = true := by simp; omega
    go_enter Tryd.func29, Tryd.ntmps29
    go_wp2_with (first
     | (at_builtin; refine app_new rfl _ _ rfl hst rfl _ [_] 1 rfl rfl rfl (by first | (simp; done) | (simp; omega)) ?_; clear hst; intro v1 w1 hst))
    go_loopw [0, 240] (fun v0 i wr => ∃ j : Nat, j ≤ q ∧ i = .int .i64 j ∧ St B w0 (some (sb, arr)) v0 ((([] ++ [45]) ++ [48] ++ [46]) ++ List.replicate j 48) wr) (fun _ i _ => q - (intOf i).toNat)
    case atStart => exact ⟨0, Nat.zero_le _, rfl, by simpa using hst⟩
    case round =>
      clear hst
      obtain ⟨j, hj, rfl, hst⟩ := hrel
      by_cases hlt : j < q
      · have KN : Hid (List.replicate (j + 1) (48 : Int) = List.replicate j 48 ++ [48]) := Lib.hid (rep_next 48 j)
        go_wp2_with (first
     | (at_builtin; refine app_new rfl _ _ rfl hst rfl _ [_] 1 rfl rfl rfl (by first | (simp; done) | (simp; omega)) ?_; clear hst; intro v1 w1 hst))
        go_roundw
        case rel => exact ⟨j + 1, by omega, by go_num, by rw [KN.out, ← List.append_assoc]; exact hst⟩
        case measure => simp [intOf]; omega
      · obtain rfl : q = j := by omega
        go_wp2_with (first
     | (at_builtin; refine app_new rfl _ _ rfl hst rfl _ [_] 1 rfl rfl rfl (by first | (simp; done) | (simp; omega)) ?_; clear hst; intro v1 w1 hst))
        refine wp_loop_rounds 1 ?_
        rw [rounds_succ]
        go_wp2_with (first
     | (at_builtin; refine app_new rfl _ _ rfl hst rfl _ [_] 1 rfl rfl rfl (by first | (simp; done) | (simp; omega)) ?_; clear hst; intro v1 w1 hst))
        refine wp_loop_rounds 1 ?_
        rw [rounds_succ]
        go_wp2_with (first
     | (at_builtin; refine app_new rfl _ _ rfl hst rfl _ [_] 1 rfl rfl rfl (by first | (simp; done) | (simp; omega)) ?_; clear hst; intro v1 w1 hst))
        go_ret
        exact ⟨_, rfl, hst⟩

set_option maxHeartbeats 8000000 in
set_option maxRecDepth 100000 in
theorem fmtF6f (ds : List Int) : FmtG false 0 ds 0 := by
  apply Exists.intro
  case h =>
    intro B w0 w sb arr v hD hst
    have hlen := hD.len
    have hc : ∀ v l w', St B w0 (some (sb, arr)) v l w' → ∀ j : Nat, j < 0 → w'.cell? ⟨sb, j, none⟩ = some (.int .u8 (ds.getD j 0)) := fun v l w' h j hj => by
      rw [cell_of_row w' sb j arr 56 (0, 0) (h.dig _ rfl).1]; exact hD.at_ j (by omega)
    have K0 := Lib.hid hc
    have KLen := Lib.hid hlen
    clear hc hlen hD
    go_enter Tryd.func29, Tryd.ntmps29
    go_wp2_with (first
     | (at_builtin; refine app_new rfl _ _ rfl hst rfl _ [_] 1 rfl rfl rfl (by first | (simp; done) | (simp; omega)) ?_; clear hst; intro v1 w1 hst))
    go_ret
    exact ⟨_, rfl, hst⟩

set_option maxHeartbeats 8000000 in
set_option maxRecDepth 100000 in
theorem fmtF6t (ds : List Int) : FmtG true 0 ds 0 := by
  apply Exists.intro
  case h =>
    intro B w0 w sb arr v hD hst
    have hlen := hD.len
    have hc : ∀ v l w', St B w0 (some (sb, arr)) v l w' → ∀ j : Nat, j < 0 → w'.cell? ⟨sb, j, none⟩ = some (.int .u8 (ds.getD j 0)) := fun v l w' h j hj => by
      rw [cell_of_row w' sb j arr 56 (0, 0) (h.dig _ rfl).1]; exact hD.at_ j (by omega)
    have K0 := Lib.hid hc
    have KLen := Lib.hid hlen
    clear hc hlen hD
    go_enter Tryd.func29, Tryd.ntmps29
    go_wp2_with (first
     | (at_builtin; refine app_new rfl _ _ rfl hst rfl _ [_] 1 rfl rfl rfl (by first | (simp; done) | (simp; omega)) ?_; clear hst; intro v1 w1 hst))
    go_ret
    exact ⟨_, rfl, hst⟩

theorem fmtG_any (neg : Bool) (nd : Nat) (ds : List Int) (dp : Int) (hnd : nd ≤ 20) (h0 : -500 ≤ dp) (h1 : dp ≤ 500) : FmtG neg nd ds dp := by
  by_cases he : dp - 1 < -4 ∨ 6 ≤ dp - 1
  · exact fmtE_any neg nd ds dp hnd h0 h1 he
  by_cases hd : 1 ≤ dp
  · obtain ⟨k, rfl⟩ : ∃ k : Nat, dp = k := ⟨dp.toNat, by omega⟩
    rcases Nat.lt_trichotomy k nd with h | h | h
    · obtain ⟨p, rfl⟩ : ∃ p, nd = k + p := ⟨nd - k, by omega⟩
      cases neg
      · exact fmtF1f p k ds (by omega) (by omega) (by omega) (by omega)
      · exact fmtF1t p k ds (by omega) (by omega) (by omega) (by omega)
    · subst h
      cases neg
      · exact fmtF2f k ds (by omega) (by omega)
      · exact fmtF2t k ds (by omega) (by omega)
    · obtain ⟨q, rfl⟩ : ∃ q, k = nd + q := ⟨k - nd, by omega⟩
      cases neg
      · exact fmtF3f nd q ds (by omega) (by omega)
      · exact fmtF3t nd q ds (by omega) (by omega)
  · obtain ⟨q, rfl⟩ : ∃ q : Nat, dp = -(q : Int) := ⟨(-dp).toNat, by omega⟩
    by_cases hn : 1 ≤ nd
    · cases neg
      · exact fmtF4f nd q ds hn hnd (by omega)
      · exact fmtF4t nd q ds hn hnd (by omega)
    · obtain rfl : nd = 0 := by omega
      by_cases hq : 1 ≤ q
      · cases neg
        · exact fmtF5f q ds hq (by omega)
        · exact fmtF5t q ds hq (by omega)
      · obtain rfl : q = 0 := by omega
        cases neg
        · exact fmtF6f ds
        · exact fmtF6t ds

set_option maxHeartbeats 2000000 in
set_option maxRecDepth 100000 in
theorem fmt_nil (neg : Bool) : ∃ out : List Int, ∀ (B : Nat) (w0 w : World) (v : Value), St B w0 none v [] w →
    Calls Tryd.prog 29 #[v, .bool neg, .slice none 0 0, .int .i64 0, .int .i64 0, .int .i64 (-1), .int .u8 103, .bool true] w fun en w' =>
      ∃ v', en = .returned v' ∧ St B w0 none v' out w' := by
  cases neg
  all_goals apply Exists.intro
  case false.h =>
    intro B w0 w v hst
    go_enter Tryd.func29, Tryd.ntmps29
    go_wp2_with (first
     | (at_builtin; refine app_new rfl _ _ rfl hst rfl _ [_] 1 rfl rfl rfl (by first | (simp; done) | (simp; omega)) ?_; clear hst; intro v1 w1 hst))
    go_ret
    exact ⟨_, rfl, hst⟩
  case true.h =>
    intro B w0 w v hst
    go_enter Tryd.func29, Tryd.ntmps29
    go_wp2_with (first
     | (at_builtin; refine app_new rfl _ _ rfl hst rfl _ [_] 1 rfl rfl rfl (by first | (simp; done) | (simp; omega)) ?_; clear hst; intro v1 w1 hst))
    go_ret
    exact ⟨_, rfl, hst⟩
end Go.Proofs.YtniiphdbajjldaaDoor
