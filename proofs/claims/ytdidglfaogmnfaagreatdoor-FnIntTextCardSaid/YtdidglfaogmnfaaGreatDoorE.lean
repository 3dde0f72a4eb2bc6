/-
  A part of the proof of FnIntText: two words by one: the reciprocals at three closed numbers, divWW.
-/
import Derived.Test.YtdidglfaogmnfaaGreatDoorB
namespace Go.Proofs.YtdidglfaogmnfaaGreatDoor
open Go.RowKit

theorem bitLen_top (x : Nat) (h : 9223372036854775808 ≤ x) (h1 : x < 18446744073709551616) : Lib.bitLen x = 64 := by
  have hb := Lib.bitLenAux_bounds 64 x (by omega) (by omega)
  show Lib.bitLenAux 64 x = 64
  generalize Lib.bitLenAux 64 x = L at *
  rcases Nat.lt_trichotomy L 64 with a | a | a
  · have : 2 ^ L ≤ 2 ^ 63 := Nat.pow_le_pow_right (by decide) (by omega)
    omega
  · exact a
  · have : 2 ^ 64 ≤ 2 ^ (L - 1) := Nat.pow_le_pow_right (by decide) (by omega)
    omega
theorem nlz_c (x : Nat) (h : 9223372036854775808 ≤ x) (h1 : x < 18446744073709551616) (w : World) : Calls Tryz.prog 86 #[.int .u64 x] w fun e w' => e = .returned (.int .u64 0) ∧ w' = w := by
  have K := Tryz.bits_LeadingZeros (x : Int) w (by omega) (by omega)
  rw [Int.toNat_natCast, bitLen_top x h h1] at K
  clear h h1
  go_enter Tryz.func86, Tryz.ntmps86
  go_wp2_with (go_at_call 122; refine K.mono ?_; rintro e w' ⟨rfl, rfl⟩)
  go_returns
  exact ⟨rfl, rfl⟩
theorem lz64_c (x : Nat) (h : 9223372036854775808 ≤ x) (h1 : x < 18446744073709551616) (w : World) : Calls Tryz.prog 151 #[.int .u64 x] w fun e w' => e = .returned (.int .i64 0) ∧ w' = w := by
  have K := Tryz.bits_LeadingZeros64 (x : Int) w (by omega) (by omega)
  rwa [Int.toNat_natCast, bitLen_top x h h1] at K
/-- bitsDiv64 with nothing above -/
theorem div64_low (x y : Nat) (hy : 0 < y) (hx : x < 18446744073709551616) (hy1 : y < 18446744073709551616) (w : World) : Calls Tryz.prog 140 #[.int .u64 0, .int .u64 x, .int .u64 y] w fun e w' => e = .returned (.tuple #[.int .u64 (x / y : Nat), .int .u64 (x % y : Nat)]) ∧ ∃ m, w' = w.drewN m := by
  have e1 : ¬ y = 0 := by omega
  have e3 : Int.tdiv (x : Int) (y : Int) = ((x / y : Nat) : Int) := by rw [Int.tdiv_eq_ediv_of_nonneg (by omega)]; rfl
  have e4 : Int.tmod (x : Int) (y : Int) = ((x % y : Nat) : Int) := by rw [Int.tmod_eq_emod_of_nonneg (by omega)]; rfl
  have b5 := Nat.div_le_self x y
  have b6 := Nat.mod_le x y
  generalize x / y = q at *
  generalize x % y = r at *
  have e5 : IntKind.u64.wrap (q : Int) = (q : Int) := by rw [IntKind.wrap_u64]; omega
  have e6 : IntKind.u64.wrap (r : Int) = (r : Int) := by rw [IntKind.wrap_u64]; omega
  clear b5 b6 hx hy1 hy
  go_enter Tryz.func140, Tryz.ntmps140
  go_wp2_with fail
  go_quiet (fail)
  go_wp2_with fail
  go_returns
  exact ⟨rfl, _, rfl⟩
set_option maxRecDepth 100000 in
theorem rec_a (w : World) : Calls Tryz.prog 140 #[.int .u64 8446744073709551615, .int .u64 18446744073709551615, .int .u64 10000000000000000000] w fun e w' => ∃ r : Int, e = .returned (.tuple #[.int .u64 15581492618384294730, .int .u64 r]) ∧ ∃ m, w' = w.drewN m := by
  have hw : ∀ n : Int, IntKind.u64.wrap n = n % 18446744073709551616 := IntKind.wrap_u64
  have b1 : bits .or .u64 8446744073709551615 0 = 8446744073709551615 := by decide +kernel
  have b2 : bits .and .u64 10000000000000000000 4294967295 = 2313682944 := by decide +kernel
  have b3 : bits .and .u64 18446744073709551615 4294967295 = 4294967295 := by decide +kernel
  go_enter Tryz.func140, Tryz.ntmps140
  go_wp2_with (go_at_call 151; refine (lz64_c 10000000000000000000 (by decide) (by decide) _).mono ?_; rintro e w' ⟨rfl, rfl⟩)
  iterate 8 (first | (rw [rounds_succ]; go_wp2_with fail) | (refine wp_loop_rounds 4 ?_) | (go_quiet (fail); go_wp2_with fail) | skip)
  go_returns
  exact ⟨_, rfl, 0, rfl⟩
set_option maxRecDepth 100000 in
theorem rec_b (w : World) : Calls Tryz.prog 140 #[.int .u64 4688533805412153852, .int .u64 18446744073709551615, .int .u64 13758210268297397763] w fun e w' => ∃ r : Int, e = .returned (.tuple #[.int .u64 6286296073600901791, .int .u64 r]) ∧ ∃ m, w' = w.drewN m := by
  have hw : ∀ n : Int, IntKind.u64.wrap n = n % 18446744073709551616 := IntKind.wrap_u64
  have b1 : bits .or .u64 4688533805412153852 0 = 4688533805412153852 := by decide +kernel
  have b2 : bits .and .u64 13758210268297397763 4294967295 = 1258259971 := by decide +kernel
  have b3 : bits .and .u64 18446744073709551615 4294967295 = 4294967295 := by decide +kernel
  go_enter Tryz.func140, Tryz.ntmps140
  go_wp2_with (go_at_call 151; refine (lz64_c 13758210268297397763 (by decide) (by decide) _).mono ?_; rintro e w' ⟨rfl, rfl⟩)
  iterate 8 (first | (rw [rounds_succ]; go_wp2_with fail) | (refine wp_loop_rounds 4 ?_) | (go_quiet (fail); go_wp2_with fail) | skip)
  go_returns
  exact ⟨_, rfl, 0, rfl⟩
set_option maxRecDepth 100000 in
theorem rec_c (w : World) : Calls Tryz.prog 140 #[.int .u64 8185402070463610992, .int .u64 18446744073709551615, .int .u64 10261342003245940623] w fun e w' => ∃ r : Int, e = .returned (.tuple #[.int .u64 14714841108160220095, .int .u64 r]) ∧ ∃ m, w' = w.drewN m := by
  have hw : ∀ n : Int, IntKind.u64.wrap n = n % 18446744073709551616 := IntKind.wrap_u64
  have b1 : bits .or .u64 8185402070463610992 0 = 8185402070463610992 := by decide +kernel
  have b2 : bits .and .u64 10261342003245940623 4294967295 = 1581580175 := by decide +kernel
  have b3 : bits .and .u64 18446744073709551615 4294967295 = 4294967295 := by decide +kernel
  go_enter Tryz.func140, Tryz.ntmps140
  go_wp2_with (go_at_call 151; refine (lz64_c 10261342003245940623 (by decide) (by decide) _).mono ?_; rintro e w' ⟨rfl, rfl⟩)
  iterate 8 (first | (rw [rounds_succ]; go_wp2_with fail) | (refine wp_loop_rounds 4 ?_) | (go_quiet (fail); go_wp2_with fail) | skip)
  go_returns
  exact ⟨_, rfl, 0, rfl⟩
theorem div_low (x y : Nat) (hy : 0 < y) (hx : x < 18446744073709551616) (hy1 : y < 18446744073709551616) (w : World) : Calls Tryz.prog 102 #[.int .u64 0, .int .u64 x, .int .u64 y] w fun e w' => e = .returned (.tuple #[.int .u64 (x / y : Nat), .int .u64 (x % y : Nat)]) ∧ ∃ m, w' = w.drewN m := by
  have K := div64_low x y hy hx hy1 w
  generalize x / y = q at *
  generalize x % y = r at *
  clear hy hx hy1
  go_enter Tryz.func102, Tryz.ntmps102
  go_wp2_with (go_at_call 140; refine K.mono ?_; rintro e w' ⟨rfl, m, rfl⟩)
  go_returns
  exact ⟨rfl, m, rfl⟩
theorem bdiv (hi lo y q : Int) (h : ∀ w : World, Calls Tryz.prog 140 #[.int .u64 hi, .int .u64 lo, .int .u64 y] w fun e w' => ∃ r : Int, e = .returned (.tuple #[.int .u64 q, .int .u64 r]) ∧ ∃ m, w' = w.drewN m) (w : World) :
    Calls Tryz.prog 102 #[.int .u64 hi, .int .u64 lo, .int .u64 y] w fun e w' => ∃ r : Int, e = .returned (.tuple #[.int .u64 q, .int .u64 r]) ∧ ∃ m, w' = w.drewN m := by
  go_enter Tryz.func102, Tryz.ntmps102
  go_wp2_with (go_at_call 140; refine (h _).mono ?_; rintro e w' ⟨r, rfl, m, rfl⟩)
  go_returns
  exact ⟨r, rfl, m, rfl⟩
/-- d is one of the three divisors' top words, m its reciprocal -/
def Dv (d m : Nat) : Prop := 9223372036854775808 ≤ d ∧ d < 18446744073709551616 ∧ m < 18446744073709551616 ∧ m + 18446744073709551616 = 340282366920938463463374607431768211455 / d ∧
  ∀ w : World, Calls Tryz.prog 103 #[.int .u64 d] w fun e w' => e = .returned (.int .u64 m) ∧ ∃ q, w' = w.drewN q
set_option maxRecDepth 100000 in
theorem dv_a : Dv 10000000000000000000 15581492618384294730 := by
  refine ⟨by decide, by decide, by decide, by decide, fun w => ?_⟩
  have b1 : IntKind.u64.wrap (-10000000000000000000 - 1) = 8446744073709551615 := by decide +kernel
  have b2 : IntKind.u64.wrap 10000000000000000000 = 10000000000000000000 := by decide +kernel
  go_enter Tryz.func103, Tryz.ntmps103
  go_wp2_with (first
    | (go_at_call 86; refine (nlz_c 10000000000000000000 (by decide) (by decide) _).mono ?_; rintro e w' ⟨rfl, rfl⟩)
    | (go_at_call 102; refine (bdiv _ _ _ _ rec_a _).mono ?_; rintro e w' ⟨r, rfl, m, rfl⟩))
  go_returns
  exact ⟨rfl, m, rfl⟩
set_option maxRecDepth 100000 in
theorem dv_b : Dv 13758210268297397763 6286296073600901791 := by
  refine ⟨by decide, by decide, by decide, by decide, fun w => ?_⟩
  have b1 : IntKind.u64.wrap (-13758210268297397763 - 1) = 4688533805412153852 := by decide +kernel
  have b2 : IntKind.u64.wrap 13758210268297397763 = 13758210268297397763 := by decide +kernel
  go_enter Tryz.func103, Tryz.ntmps103
  go_wp2_with (first
    | (go_at_call 86; refine (nlz_c 13758210268297397763 (by decide) (by decide) _).mono ?_; rintro e w' ⟨rfl, rfl⟩)
    | (go_at_call 102; refine (bdiv _ _ _ _ rec_b _).mono ?_; rintro e w' ⟨r, rfl, m, rfl⟩))
  go_returns
  exact ⟨rfl, m, rfl⟩
set_option maxRecDepth 100000 in
theorem dv_c : Dv 10261342003245940623 14714841108160220095 := by
  refine ⟨by decide, by decide, by decide, by decide, fun w => ?_⟩
  have b1 : IntKind.u64.wrap (-10261342003245940623 - 1) = 8185402070463610992 := by decide +kernel
  have b2 : IntKind.u64.wrap 10261342003245940623 = 10261342003245940623 := by decide +kernel
  go_enter Tryz.func103, Tryz.ntmps103
  go_wp2_with (first
    | (go_at_call 86; refine (nlz_c 10261342003245940623 (by decide) (by decide) _).mono ?_; rintro e w' ⟨rfl, rfl⟩)
    | (go_at_call 102; refine (bdiv _ _ _ _ rec_c _).mono ?_; rintro e w' ⟨r, rfl, m, rfl⟩))
  go_returns
  exact ⟨rfl, m, rfl⟩
end Go.Proofs.YtdidglfaogmnfaaGreatDoor
