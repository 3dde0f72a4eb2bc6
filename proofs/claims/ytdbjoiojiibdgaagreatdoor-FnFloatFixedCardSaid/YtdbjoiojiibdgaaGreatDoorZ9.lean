/-
  A part of the proof of FnFloatFixed (packed out of smaller texts by a program of this session; what the proof does not reach is left out).
-/
import Derived.Test.YtdbjoiojiibdgaaGreatDoorZ7
import Derived.Deep.CutBlock
import Derived.Deep.DeepCutAuto
namespace Go.Proofs.YtdbjoiojiibdgaaGreatDoor
open Go.RowKit
def sgn (neg : Bool) : List Int := if neg then [45] else []
theorem sgn_len (neg : Bool) : (sgn neg).length ≤ 1 := by cases neg <;> simp [sgn]
theorem take_next (ds : List Int) (j : Nat) (h : j < ds.length) : ds.take (j + 1) = ds.take j ++ [ds.getD j 0] := by
  rw [List.take_add_one, List.getElem?_eq_getElem h]
  simp [List.getD, h]
theorem rep_next (c : Int) (j : Nat) : List.replicate (j + 1) c = List.replicate j c ++ [c] := List.replicate_succ'
theorem drop_at (ds : List Int) (k j : Nat) : (ds.drop k).getD j 0 = ds.getD (k + j) 0 := by simp [List.getD]
set_option maxHeartbeats 8000000 in
set_option maxRecDepth 100000 in
theorem fmtIa (neg : Bool) (nd dp q : Nat) (hq : dp = nd + q) (hdp : 1 ≤ dp) (hdp1 : dp ≤ 1000) (hnd : nd ≤ 400) (ds : List Int)
    (B : Nat) (w0 w : World) (sb : Nat) (T : TypeId) (arr : Array Value) (c : Nat) (hc : nd ≤ c) (v : Value) (hat : ∀ j, j < nd → arr[j]? = some (.int .u8 (ds.getD j 0))) (hlen : ds.length = nd) (hst : St B w0 (some (sb, T, arr)) v [] w) :
    Calls Tryz.prog 57 #[v, .bool neg, .slice (some ⟨sb, 0, none⟩) c c, .int .i64 dp, .int .i64 nd, .int .i64 6, .int .u8 102, .bool false] w fun en w' =>
      ∃ v', en = .returned v' ∧ St B w0 (some (sb, T, arr)) v' (sgn neg ++ ds ++ List.replicate q 48 ++ [46] ++ List.replicate 6 48) w' := by
  have hcell : ∀ v l w', St B w0 (some (sb, T, arr)) v l w' → ∀ j : Nat, j < nd → w'.cell? ⟨sb, j, none⟩ = some (.int .u8 (ds.getD j 0)) := fun v l w' h j hj => by
    rw [cell_of_row w' sb j arr T (0, 0) (h.dig _ rfl).1]; exact hat j hj
  have K0 := Lib.hid hcell
  have KLen := Lib.hid hlen
  have KS := Lib.hid (sgn_len neg)
  have hdl : ds.length ≤ 400 := by omega
  clear hcell hat hlen
  have e2 : (dp : Int) - (nd : Int) = (q : Int) := by omega
  have hle : ¬ dp < nd := by omega
  have hdp0 : (0 < dp) = True := eq_true (by omega)
  have e1 : max 0 (-(dp : Int)) = 0 := by omega
  have e4 : max 0 ((nd : Int) - (dp : Int)) = 0 := by omega
  have KH : Hid (dp = nd + q) := Lib.hid hq
  have hq1 : q ≤ 1000 := by omega
  clear hq
  go_enter Tryz.func57, Tryz.ntmps57
  go_upto_if 178 with fail
  go_cut [0] (fun s0 wx => St B w0 (some (sb, T, arr)) s0 (sgn neg) wx)
  case first =>
    cases neg
    · go_wp2_with fail
      go_meet
      case rel => exact hst
    · go_wp2_with (first | (at_builtin; refine app_new rfl _ _ rfl hst rfl _ [_] 1 rfl rfl rfl (by first | (simp; done) | (simp; omega)) ?_; clear hst; intro v1 w1 hst))
      go_meet
      case rel => exact hst
  case rest =>
    clear hst
    have hst := hcut
    clear hcut
    have hsl := KS.out
    go_wp2_with (first | (at_builtin; refine app_new rfl _ _ rfl hst rfl _ [_] 1 rfl rfl rfl (by first | (simp; done) | (simp; omega)) ?_; clear hst; intro v1 w1 hst))
    go_loopw [0, 191] (fun v0 i wr => ∃ j : Nat, j ≤ nd ∧ i = .int .i64 j ∧ St B w0 (some (sb, T, arr)) v0 (sgn neg ++ (ds).take j) wr) (fun _ i _ => nd - (intOf i).toNat)
    case atStart => exact ⟨0, Nat.zero_le _, rfl, by simpa using hst⟩
    case round =>
      clear hst
      obtain ⟨j, hj, rfl, hst⟩ := hrel
      have htl : ((ds).take j).length ≤ 1000 := by simp; omega
      by_cases hlt : j < nd
      · have hcell := K0.out _ _ _ hst (j) (by have := KH.out; omega)
        have KN : Hid ((ds).take (j + 1) = (ds).take j ++ [ds.getD j 0]) := Lib.hid (by have := take_next ds j (by rw [KLen.out]; have := KH.out; omega); rw [this])
        go_wp2_with (first | (at_builtin; refine app_new rfl _ _ rfl hst rfl _ [_] 1 rfl rfl rfl (by first | (simp; done) | (simp; omega)) ?_; clear hst; intro v1 w1 hst))
        go_roundw
        case rel => exact ⟨j + 1, by omega, by go_num, by rw [KN.out, ← List.append_assoc]; simpa using hst⟩
        case measure => simp [intOf]; omega
      · obtain rfl : nd = j := by omega
        go_wp2_with (first | (at_builtin; refine app_new rfl _ _ rfl hst rfl _ [_] 1 rfl rfl rfl (by first | (simp; done) | (simp; omega)) ?_; clear hst; intro v1 w1 hst))
        rw [show ds.take nd = ds from by rw [← KLen.out]; exact List.take_length] at hst
        go_loopw [0, 203] (fun v0 i wr => ∃ j : Nat, j ≤ q ∧ i = .int .i64 j ∧ St B w0 (some (sb, T, arr)) v0 (sgn neg ++ ds ++ List.replicate j (48 : Int)) wr) (fun _ i _ => q - (intOf i).toNat)
        case atStart => exact ⟨0, Nat.zero_le _, rfl, by simpa using hst⟩
        case round =>
          clear hst
          obtain ⟨j, hj, rfl, hst⟩ := hrel
          have htl : (List.replicate j (48 : Int)).length ≤ 1000 := by simp; omega
          by_cases hlt : j < q
          · have KN : Hid (List.replicate (j + 1) (48 : Int) = List.replicate j (48 : Int) ++ [48]) := Lib.hid (rep_next 48 j)
            go_wp2_with (first | (at_builtin; refine app_new rfl _ _ rfl hst rfl _ [_] 1 rfl rfl rfl (by first | (simp; done) | (simp; omega)) ?_; clear hst; intro v1 w1 hst))
            go_roundw
            case rel => exact ⟨j + 1, by omega, by go_num, by rw [KN.out, ← List.append_assoc]; simpa using hst⟩
            case measure => simp [intOf]; omega
          · obtain rfl : q = j := by omega
            go_wp2_with (first | (at_builtin; refine app_new rfl _ _ rfl hst rfl _ [_] 1 rfl rfl rfl (by first | (simp; done) | (simp; omega)) ?_; clear hst; intro v1 w1 hst))
            refine wp_loop_rounds 1 ?_
            rw [rounds_succ]
            go_wp2_with (first | (at_builtin; refine app_new rfl _ _ rfl hst rfl _ [_] 1 rfl rfl rfl (by first | (simp; done) | (simp; omega)) ?_; clear hst; intro v1 w1 hst))
            refine wp_loop_rounds 1 ?_
            rw [rounds_succ]
            go_wp2_with (first | (at_builtin; refine app_new rfl _ _ rfl hst rfl _ [_] 1 rfl rfl rfl (by first | (simp; done) | (simp; omega)) ?_; clear hst; intro v1 w1 hst))
            go_loopw [0, 261] (fun v0 i wr => ∃ j : Nat, j ≤ 6 ∧ i = .int .i64 j ∧ St B w0 (some (sb, T, arr)) v0 (sgn neg ++ ds ++ List.replicate q 48 ++ [46] ++ List.replicate j (48 : Int)) wr) (fun _ i _ => 6 - (intOf i).toNat)
            case atStart => exact ⟨0, Nat.zero_le _, rfl, by simpa using hst⟩
            case round =>
              clear hst
              obtain ⟨j, hj, rfl, hst⟩ := hrel
              have htl : (List.replicate j (48 : Int)).length ≤ 1000 := by simp; omega
              by_cases hlt : j < 6
              · have KN : Hid (List.replicate (j + 1) (48 : Int) = List.replicate j (48 : Int) ++ [48]) := Lib.hid (rep_next 48 j)
                go_wp2_with (first | (at_builtin; refine app_new rfl _ _ rfl hst rfl _ [_] 1 rfl rfl rfl (by first | (simp; done) | (simp; omega)) ?_; clear hst; intro v1 w1 hst))
                go_roundw
                case rel => exact ⟨j + 1, by omega, by go_num, by rw [KN.out, ← List.append_assoc]; simpa using hst⟩
                case measure => simp [intOf]; omega
              · obtain rfl : j = 6 := by omega
                go_wp2_with (first | (at_builtin; refine app_new rfl _ _ rfl hst rfl _ [_] 1 rfl rfl rfl (by first | (simp; done) | (simp; omega)) ?_; clear hst; intro v1 w1 hst))
                go_ret
                exact ⟨_, rfl, hst⟩
set_option maxHeartbeats 8000000 in
set_option maxRecDepth 100000 in
theorem fmtIb (neg : Bool) (nd dp n2 z2 : Nat) (hn2 : nd = dp + n2) (hn1 : 1 ≤ n2) (hz2 : n2 + z2 = 6) (hdp : 1 ≤ dp) (hdp1 : dp ≤ 1000) (hnd : nd ≤ 400) (ds : List Int)
    (B : Nat) (w0 w : World) (sb : Nat) (T : TypeId) (arr : Array Value) (c : Nat) (hc : nd ≤ c) (v : Value) (hat : ∀ j, j < nd → arr[j]? = some (.int .u8 (ds.getD j 0))) (hlen : ds.length = nd) (hst : St B w0 (some (sb, T, arr)) v [] w) :
    Calls Tryz.prog 57 #[v, .bool neg, .slice (some ⟨sb, 0, none⟩) c c, .int .i64 dp, .int .i64 nd, .int .i64 6, .int .u8 102, .bool false] w fun en w' =>
      ∃ v', en = .returned v' ∧ St B w0 (some (sb, T, arr)) v' (sgn neg ++ ds.take dp ++ [46] ++ ds.drop dp ++ List.replicate z2 48) w' := by
  have hcell : ∀ v l w', St B w0 (some (sb, T, arr)) v l w' → ∀ j : Nat, j < nd → w'.cell? ⟨sb, j, none⟩ = some (.int .u8 (ds.getD j 0)) := fun v l w' h j hj => by
    rw [cell_of_row w' sb j arr T (0, 0) (h.dig _ rfl).1]; exact hat j hj
  have K0 := Lib.hid hcell
  have KLen := Lib.hid hlen
  have KS := Lib.hid (sgn_len neg)
  have hdl : ds.length ≤ 400 := by omega
  clear hcell hat hlen
  have hle : dp < nd := by omega
  have hdp0 : (0 < dp) = True := eq_true (by omega)
  have e4 : (nd : Int) - (dp : Int) = (n2 : Int) := by omega
  have e5 : 6 - (n2 : Int) = (z2 : Int) := by omega
  have hn6 : n2 ≤ 6 := by omega
  have hz6 : z2 ≤ 6 := by omega
  have KH : Hid (nd = dp + n2 ∧ n2 + z2 = 6) := Lib.hid ⟨hn2, hz2⟩
  have f1 : (if 0 < n2 then (n2 : Int) else 0) = n2 := by split <;> omega
  have f2 : (if n2 < 6 then (n2 : Int) else 6) = n2 := by split <;> omega
  have f3 : (if 0 < z2 then (z2 : Int) else 0) = z2 := by split <;> omega
  clear hn2 hz2
  go_enter Tryz.func57, Tryz.ntmps57
  go_upto_if 178 with fail
  go_cut [0] (fun s0 wx => St B w0 (some (sb, T, arr)) s0 (sgn neg) wx)
  case first =>
    cases neg
    · go_wp2_with fail
      go_meet
      case rel => exact hst
    · go_wp2_with (first | (at_builtin; refine app_new rfl _ _ rfl hst rfl _ [_] 1 rfl rfl rfl (by first | (simp; done) | (simp; omega)) ?_; clear hst; intro v1 w1 hst))
      go_meet
      case rel => exact hst
  case rest =>
    clear hst
    have hst := hcut
    clear hcut
    have hsl := KS.out
    go_wp2_with (first | (at_builtin; refine app_new rfl _ _ rfl hst rfl _ [_] 1 rfl rfl rfl (by first | (simp; done) | (simp; omega)) ?_; clear hst; intro v1 w1 hst))
    go_loopw [0, 191] (fun v0 i wr => ∃ j : Nat, j ≤ dp ∧ i = .int .i64 j ∧ St B w0 (some (sb, T, arr)) v0 (sgn neg ++ (ds).take j) wr) (fun _ i _ => dp - (intOf i).toNat)
    case atStart => exact ⟨0, Nat.zero_le _, rfl, by simpa using hst⟩
    case round =>
      clear hst
      obtain ⟨j, hj, rfl, hst⟩ := hrel
      have htl : ((ds).take j).length ≤ 1000 := by simp; omega
      by_cases hlt : j < dp
      · have hcell := K0.out _ _ _ hst (j) (by have := KH.out; omega)
        have KN : Hid ((ds).take (j + 1) = (ds).take j ++ [ds.getD j 0]) := Lib.hid (by have := take_next ds j (by rw [KLen.out]; have := KH.out; omega); rw [this])
        go_wp2_with (first | (at_builtin; refine app_new rfl _ _ rfl hst rfl _ [_] 1 rfl rfl rfl (by first | (simp; done) | (simp; omega)) ?_; clear hst; intro v1 w1 hst))
        go_roundw
        case rel => exact ⟨j + 1, by omega, by go_num, by rw [KN.out, ← List.append_assoc]; simpa using hst⟩
        case measure => simp [intOf]; omega
      · obtain rfl : dp = j := by omega
        go_wp2_with (first | (at_builtin; refine app_new rfl _ _ rfl hst rfl _ [_] 1 rfl rfl rfl (by first | (simp; done) | (simp; omega)) ?_; clear hst; intro v1 w1 hst))
        refine wp_loop_rounds 1 ?_
        rw [rounds_succ]
        go_upto_region 71 with (first | (at_builtin; refine app_new rfl _ _ rfl hst rfl _ [_] 1 rfl rfl rfl (by first | (simp; done) | (simp; omega)) ?_; clear hst; intro v1 w1 hst))
        obtain ⟨wy, hwy⟩ : ∃ wy, wy = w1 := ⟨_, rfl⟩
        go_cut [28] (fun s28 wx => s28 = .int .i64 n2 ∧ wx = wy)
        case first =>
          go_wp2_with fail
          all_goals (go_meet; exact ⟨congrArg (Value.int .i64) (by omega), hwy.symm⟩)
        case rest =>
          obtain ⟨rfl, hwc⟩ := hcut
          rw [hwy] at hwc
          subst hwc
          go_upto_region 72 with fail
          obtain ⟨wy, hwy⟩ : ∃ wy, wy = wc := ⟨_, rfl⟩
          go_cut [29] (fun s29 wx => s29 = .int .i64 z2 ∧ wx = wy)
          case first =>
            go_wp2_with fail
            all_goals (go_meet; exact ⟨congrArg (Value.int .i64) (by omega), hwy.symm⟩)
          case rest =>
            obtain ⟨rfl, hwc⟩ := hcut
            rw [hwy] at hwc
            subst hwc
            go_wp2_with (first | (at_builtin; refine app_new rfl _ _ rfl hst rfl _ [_] 1 rfl rfl rfl (by first | (simp; done) | (simp; omega)) ?_; clear hst; intro v1 w1 hst))
            refine wp_loop_rounds 1 ?_
            rw [rounds_succ]
            go_wp2_with (first | (at_builtin; refine app_new rfl _ _ rfl hst rfl _ [_] 1 rfl rfl rfl (by first | (simp; done) | (simp; omega)) ?_; clear hst; intro v1 w1 hst))
            go_loopw [0, 247] (fun v0 i wr => ∃ j : Nat, j ≤ n2 ∧ i = .int .i64 j ∧ St B w0 (some (sb, T, arr)) v0 (sgn neg ++ ds.take dp ++ [46] ++ (ds.drop dp).take j) wr) (fun _ i _ => n2 - (intOf i).toNat)
            case atStart => exact ⟨0, Nat.zero_le _, rfl, by simpa using hst⟩
            case round =>
              clear hst
              obtain ⟨j, hj, rfl, hst⟩ := hrel
              have htl : ((ds.drop dp).take j).length ≤ 1000 := by simp; omega
              by_cases hlt : j < n2
              · have hcell := K0.out _ _ _ hst (dp + j) (by have := KH.out; omega)
                have KN : Hid ((ds.drop dp).take (j + 1) = (ds.drop dp).take j ++ [ds.getD (dp + j) 0]) := Lib.hid (by have := take_next (ds.drop dp) j (by rw [List.length_drop, KLen.out]; have := KH.out; omega); rw [this, drop_at])
                go_wp2_with (first | (at_builtin; refine app_new rfl _ _ rfl hst rfl _ [_] 1 rfl rfl rfl (by first | (simp; done) | (simp; omega)) ?_; clear hst; intro v1 w1 hst))
                go_roundw
                case rel => exact ⟨j + 1, by omega, by go_num, by rw [KN.out, ← List.append_assoc]; simpa using hst⟩
                case measure => simp [intOf]; omega
              · obtain rfl : n2 = j := by omega
                go_wp2_with (first | (at_builtin; refine app_new rfl _ _ rfl hst rfl _ [_] 1 rfl rfl rfl (by first | (simp; done) | (simp; omega)) ?_; clear hst; intro v1 w1 hst))
                rw [show (ds.drop dp).take n2 = ds.drop dp from List.take_of_length_le (by rw [List.length_drop, KLen.out]; have := KH.out; omega)] at hst
                go_loopw [0, 261] (fun v0 i wr => ∃ j : Nat, j ≤ z2 ∧ i = .int .i64 j ∧ St B w0 (some (sb, T, arr)) v0 (sgn neg ++ ds.take dp ++ [46] ++ ds.drop dp ++ List.replicate j (48 : Int)) wr) (fun _ i _ => z2 - (intOf i).toNat)
                case atStart => exact ⟨0, Nat.zero_le _, rfl, by simpa using hst⟩
                case round =>
                  clear hst
                  obtain ⟨j, hj, rfl, hst⟩ := hrel
                  have htl : (List.replicate j (48 : Int)).length ≤ 1000 := by simp; omega
                  by_cases hlt : j < z2
                  · have KN : Hid (List.replicate (j + 1) (48 : Int) = List.replicate j (48 : Int) ++ [48]) := Lib.hid (rep_next 48 j)
                    go_wp2_with (first | (at_builtin; refine app_new rfl _ _ rfl hst rfl _ [_] 1 rfl rfl rfl (by first | (simp; done) | (simp; omega)) ?_; clear hst; intro v1 w1 hst))
                    go_roundw
                    case rel => exact ⟨j + 1, by omega, by go_num, by rw [KN.out, ← List.append_assoc]; simpa using hst⟩
                    case measure => simp [intOf]; omega
                  · obtain rfl : z2 = j := by omega
                    go_wp2_with (first | (at_builtin; refine app_new rfl _ _ rfl hst rfl _ [_] 1 rfl rfl rfl (by first | (simp; done) | (simp; omega)) ?_; clear hst; intro v1 w1 hst))
                    go_ret
                    exact ⟨_, rfl, hst⟩
set_option maxHeartbeats 8000000 in
set_option maxRecDepth 100000 in
theorem fmtII (neg : Bool) (nd z z2 : Nat) (hz : z < 6) (hz2 : z + nd + z2 = 6) (ds : List Int)
    (B : Nat) (w0 w : World) (sb : Nat) (T : TypeId) (arr : Array Value) (c : Nat) (hc : nd ≤ c) (v : Value) (hat : ∀ j, j < nd → arr[j]? = some (.int .u8 (ds.getD j 0))) (hlen : ds.length = nd) (hst : St B w0 (some (sb, T, arr)) v [] w) :
    Calls Tryz.prog 57 #[v, .bool neg, .slice (some ⟨sb, 0, none⟩) c c, .int .i64 (-(z : Int)), .int .i64 nd, .int .i64 6, .int .u8 102, .bool false] w fun en w' =>
      ∃ v', en = .returned v' ∧ St B w0 (some (sb, T, arr)) v' (sgn neg ++ [48] ++ [46] ++ List.replicate z 48 ++ ds ++ List.replicate z2 48) w' := by
  have hcell : ∀ v l w', St B w0 (some (sb, T, arr)) v l w' → ∀ j : Nat, j < nd → w'.cell? ⟨sb, j, none⟩ = some (.int .u8 (ds.getD j 0)) := fun v l w' h j hj => by
    rw [cell_of_row w' sb j arr T (0, 0) (h.dig _ rfl).1]; exact hat j hj
  have K0 := Lib.hid hcell
  have KLen := Lib.hid hlen
  have KS := Lib.hid (sgn_len neg)
  have hdl : ds.length ≤ 400 := by omega
  clear hcell hat hlen
  have e2 : max 0 (- -(z : Int)) = (z : Int) := by omega
  have e3 : -(z : Int) + (z : Int) = 0 := by omega
  have hz6 : z ≤ 6 := by omega
  have hn6 : nd ≤ 6 := by omega
  have hzz : z2 ≤ 6 := by omega
  have KH : Hid (z + nd + z2 = 6) := Lib.hid hz2
  have hdp0 : decide ((0 : Int) < -(z : Int)) = false := decide_eq_false (by omega)
  have f1 : (if 0 < z then (z : Int) else 0) = z := by split <;> omega
  have f3 : (if 0 < nd then (nd : Int) else 0) = nd := by split <;> omega
  have f4 : (if (nd : Int) < 6 - (z : Int) then (nd : Int) else 6 - (z : Int)) = nd := by split <;> omega
  have f5 : (if 0 < 6 - (z : Int) - (nd : Int) then 6 - (z : Int) - (nd : Int) else 0) = z2 := by split <;> omega
  go_enter Tryz.func57, Tryz.ntmps57
  go_upto_if 178 with fail
  go_cut [0] (fun s0 wx => St B w0 (some (sb, T, arr)) s0 (sgn neg) wx)
  case first =>
    cases neg
    · go_wp2_with fail
      go_meet
      case rel => exact hst
    · go_wp2_with (first | (at_builtin; refine app_new rfl _ _ rfl hst rfl _ [_] 1 rfl rfl rfl (by first | (simp; done) | (simp; omega)) ?_; clear hst; intro v1 w1 hst))
      go_meet
      case rel => exact hst
  case rest =>
    clear hst
    have hst := hcut
    clear hcut
    have hsl := KS.out
    go_upto_region 71 with (first | (at_builtin; refine app_new rfl _ _ rfl hst rfl _ [_] 1 rfl rfl rfl (by first | (simp; done) | (simp; omega)) ?_; clear hst; intro v1 w1 hst))
    obtain ⟨wy, hwy⟩ : ∃ wy, wy = w1 := ⟨_, rfl⟩
    go_cut [28] (fun s28 wx => s28 = .int .i64 nd ∧ wx = wy)
    case first =>
      go_wp2_with fail
      all_goals (go_meet; exact ⟨congrArg (Value.int .i64) (by omega), hwy.symm⟩)
    case rest =>
      obtain ⟨rfl, hwc⟩ := hcut
      rw [hwy] at hwc
      subst hwc
      go_upto_region 72 with fail
      obtain ⟨wy, hwy⟩ : ∃ wy, wy = wc := ⟨_, rfl⟩
      go_cut [29] (fun s29 wx => s29 = .int .i64 z2 ∧ wx = wy)
      case first =>
        go_wp2_with fail
        all_goals (go_meet; exact ⟨congrArg (Value.int .i64) (by omega), hwy.symm⟩)
      case rest =>
        obtain ⟨rfl, hwc⟩ := hcut
        rw [hwy] at hwc
        subst hwc
        go_wp2_with (first | (at_builtin; refine app_new rfl _ _ rfl hst rfl _ [_] 1 rfl rfl rfl (by first | (simp; done) | (simp; omega)) ?_; clear hst; intro v1 w1 hst))
        go_loopw [0, 240] (fun v0 i wr => ∃ j : Nat, j ≤ z ∧ i = .int .i64 j ∧ St B w0 (some (sb, T, arr)) v0 (sgn neg ++ [48] ++ [46] ++ List.replicate j (48 : Int)) wr) (fun _ i _ => z - (intOf i).toNat)
        case atStart => exact ⟨0, Nat.zero_le _, rfl, by simpa using hst⟩
        case round =>
          clear hst
          obtain ⟨j, hj, rfl, hst⟩ := hrel
          have htl : (List.replicate j (48 : Int)).length ≤ 1000 := by simp; omega
          by_cases hlt : j < z
          · have KN : Hid (List.replicate (j + 1) (48 : Int) = List.replicate j (48 : Int) ++ [48]) := Lib.hid (rep_next 48 j)
            go_wp2_with (first | (at_builtin; refine app_new rfl _ _ rfl hst rfl _ [_] 1 rfl rfl rfl (by first | (simp; done) | (simp; omega)) ?_; clear hst; intro v1 w1 hst))
            go_roundw
            case rel => exact ⟨j + 1, by omega, by go_num, by rw [KN.out, ← List.append_assoc]; simpa using hst⟩
            case measure => simp [intOf]; omega
          · obtain rfl : z = j := by omega
            go_wp2_with (first | (at_builtin; refine app_new rfl _ _ rfl hst rfl _ [_] 1 rfl rfl rfl (by first | (simp; done) | (simp; omega)) ?_; clear hst; intro v1 w1 hst))
            go_loopw [0, 247] (fun v0 i wr => ∃ j : Nat, j ≤ nd ∧ i = .int .i64 j ∧ St B w0 (some (sb, T, arr)) v0 (sgn neg ++ [48] ++ [46] ++ List.replicate z 48 ++ (ds).take j) wr) (fun _ i _ => nd - (intOf i).toNat)
            case atStart => exact ⟨0, Nat.zero_le _, rfl, by simpa using hst⟩
            case round =>
              clear hst
              obtain ⟨j, hj, rfl, hst⟩ := hrel
              have htl : ((ds).take j).length ≤ 1000 := by simp; omega
              by_cases hlt : j < nd
              · have hcell := K0.out _ _ _ hst (j) (by have := KH.out; omega)
                have KN : Hid ((ds).take (j + 1) = (ds).take j ++ [ds.getD j 0]) := Lib.hid (by have := take_next ds j (by rw [KLen.out]; have := KH.out; omega); rw [this])
                go_wp2_with (first | (at_builtin; refine app_new rfl _ _ rfl hst rfl _ [_] 1 rfl rfl rfl (by first | (simp; done) | (simp; omega)) ?_; clear hst; intro v1 w1 hst))
                go_roundw
                case rel => exact ⟨j + 1, by omega, by go_num, by rw [KN.out, ← List.append_assoc]; simpa using hst⟩
                case measure => simp [intOf]; omega
              · obtain rfl : nd = j := by omega
                go_wp2_with (first | (at_builtin; refine app_new rfl _ _ rfl hst rfl _ [_] 1 rfl rfl rfl (by first | (simp; done) | (simp; omega)) ?_; clear hst; intro v1 w1 hst))
                rw [show ds.take nd = ds from by rw [← KLen.out]; exact List.take_length] at hst
                go_loopw [0, 261] (fun v0 i wr => ∃ j : Nat, j ≤ z2 ∧ i = .int .i64 j ∧ St B w0 (some (sb, T, arr)) v0 (sgn neg ++ [48] ++ [46] ++ List.replicate z 48 ++ ds ++ List.replicate j (48 : Int)) wr) (fun _ i _ => z2 - (intOf i).toNat)
                case atStart => exact ⟨0, Nat.zero_le _, rfl, by simpa using hst⟩
                case round =>
                  clear hst
                  obtain ⟨j, hj, rfl, hst⟩ := hrel
                  have htl : (List.replicate j (48 : Int)).length ≤ 1000 := by simp; omega
                  by_cases hlt : j < z2
                  · have KN : Hid (List.replicate (j + 1) (48 : Int) = List.replicate j (48 : Int) ++ [48]) := Lib.hid (rep_next 48 j)
                    go_wp2_with (first | (at_builtin; refine app_new rfl _ _ rfl hst rfl _ [_] 1 rfl rfl rfl (by first | (simp; done) | (simp; omega)) ?_; clear hst; intro v1 w1 hst))
                    go_roundw
                    case rel => exact ⟨j + 1, by omega, by go_num, by rw [KN.out, ← List.append_assoc]; simpa using hst⟩
                    case measure => simp [intOf]; omega
                  · obtain rfl : z2 = j := by omega
                    go_wp2_with (first | (at_builtin; refine app_new rfl _ _ rfl hst rfl _ [_] 1 rfl rfl rfl (by first | (simp; done) | (simp; omega)) ?_; clear hst; intro v1 w1 hst))
                    go_ret
                    exact ⟨_, rfl, hst⟩
end Go.Proofs.YtdbjoiojiibdgaaGreatDoor
namespace Go.Proofs.YtdbjoiojiibdgaaGreatDoor
open Go.RowKit
set_option maxHeartbeats 8000000 in
set_option maxRecDepth 100000 in
theorem fmt00 (neg : Bool) (sv : Value) (B : Nat) (w0 w : World) (D : Option (Nat × TypeId × Array Value)) (v : Value) (hst : St B w0 D v [] w) :
    Calls Tryz.prog 57 #[v, .bool neg, sv, .int .i64 0, .int .i64 0, .int .i64 6, .int .u8 102, .bool false] w fun en w' =>
      ∃ v', en = .returned v' ∧ St B w0 D v' (sgn neg ++ [48] ++ [46] ++ List.replicate 6 48) w' := by
  have KS := Lib.hid (sgn_len neg)
  go_enter Tryz.func57, Tryz.ntmps57
  go_upto_if 178 with fail
  go_cut [0] (fun s0 wx => St B w0 D s0 (sgn neg) wx)
  case first =>
    cases neg
    · go_wp2_with fail
      go_meet
      case rel => exact hst
    · go_wp2_with (first | (at_builtin; refine app_new rfl _ _ rfl hst rfl _ [_] 1 rfl rfl rfl (by first | (simp; done) | (simp; omega)) ?_; clear hst; intro v1 w1 hst))
      go_meet
      case rel => exact hst
  case rest =>
  clear hst
  have hst := hcut
  clear hcut
  have hsl := KS.out
  go_wp2_with (first | (at_builtin; refine app_new rfl _ _ rfl hst rfl _ [_] 1 rfl rfl rfl (by first | (simp; done) | (simp; omega)) ?_; clear hst; intro v1 w1 hst))
  refine wp_loop_rounds 1 ?_
  rw [rounds_succ]
  go_wp2_with (first | (at_builtin; refine app_new rfl _ _ rfl hst rfl _ [_] 1 rfl rfl rfl (by first | (simp; done) | (simp; omega)) ?_; clear hst; intro v1 w1 hst))
  refine wp_loop_rounds 1 ?_
  rw [rounds_succ]
  go_wp2_with (first | (at_builtin; refine app_new rfl _ _ rfl hst rfl _ [_] 1 rfl rfl rfl (by first | (simp; done) | (simp; omega)) ?_; clear hst; intro v1 w1 hst))
  go_loopw [0, 261] (fun v0 i wr => ∃ j : Nat, j ≤ 6 ∧ i = .int .i64 j ∧ St B w0 (D) v0 (sgn neg ++ [48] ++ [46] ++ List.replicate j (48 : Int)) wr) (fun _ i _ => 6 - (intOf i).toNat)
  case atStart => exact ⟨0, Nat.zero_le _, rfl, by simpa using hst⟩
  case round =>
    clear hst
    obtain ⟨j, hj, rfl, hst⟩ := hrel
    have htl : (List.replicate j (48 : Int)).length ≤ 1000 := by simp; omega
    by_cases hlt : j < 6
    · have KN : Hid (List.replicate (j + 1) (48 : Int) = List.replicate j (48 : Int) ++ [48]) := Lib.hid (rep_next 48 j)
      go_wp2_with (first | (at_builtin; refine app_new rfl _ _ rfl hst rfl _ [_] 1 rfl rfl rfl (by first | (simp; done) | (simp; omega)) ?_; clear hst; intro v1 w1 hst))
      go_roundw
      case rel => exact ⟨j + 1, by omega, by go_num, by rw [KN.out, ← List.append_assoc]; simpa using hst⟩
      case measure => simp [intOf]; omega
    · obtain rfl : j = 6 := by omega
      go_wp2_with (first | (at_builtin; refine app_new rfl _ _ rfl hst rfl _ [_] 1 rfl rfl rfl (by first | (simp; done) | (simp; omega)) ?_; clear hst; intro v1 w1 hst))
      go_ret
      exact ⟨_, rfl, hst⟩
end Go.Proofs.YtdbjoiojiibdgaaGreatDoor
