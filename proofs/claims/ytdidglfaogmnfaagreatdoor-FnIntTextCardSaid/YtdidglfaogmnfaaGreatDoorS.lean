/-
  A part of the proof of FnIntText: long division: cmp, div; a number by a word; the length in bits.
-/
import Derived.Test.YtdidglfaogmnfaaGreatDoorR
import Derived.Test.YtdidglfaogmnfaaGreatDoorG
import Derived.Laws.BitsAllLaws
namespace Go.Proofs.YtdidglfaogmnfaaGreatDoor
open Go.RowKit

theorem cmp_gt (x y : Option Addr) (n m cx cy : Nat) (w : World) (h : m < n) : Calls Tryz.prog 57 #[.slice x n cx, .slice y m cy] w fun e w' => e = .returned (.int .i64 1) ∧ w' = w := by
  have h1 : ((n : Int) != (m : Int)) = true := by simp; omega
  have h2 : ¬ ((n : Int) < (m : Int)) := by omega
  have h3 : (m : Int) < (n : Int) := by omega
  go_enter Tryz.func57, Tryz.ntmps57
  go_wp2_with fail
  go_returns
  exact ⟨rfl, rfl⟩
set_option maxRecDepth 100000 in
theorem div_c (z z2 : Value) (p a b l bz bz2 bx ox lu cx bv ov n cv X v rc : Nat) (w : World) (hz : Sto w z bz) (hz2 : Sto w z2 bz2) (hX : Ws w bx ox lu X) (hV : Ws w bv ov n v) (hG : Gl w) (hS : Stk w p a b l) (hl : l ≤ 40)
    (hA : Apart z z2 p a b bz bz2 bx bv) (hlo : 8 ≤ p ∧ 8 ≤ a ∧ 8 ≤ b ∧ (z ≠ .slice none 0 0 → 8 ≤ bz) ∧ (z2 ≠ .slice none 0 0 → 8 ≤ bz2)) (hn : 5 ≤ n) (hn1 : n ≤ 36) (hnl : n < lu) (hlu : lu ≤ 49)
    (hXl : X < 18446744073709551616 ^ lu) (hv : 9223372036854775808 * 18446744073709551616 ^ (n - 1) ≤ v) (hv1 : v < 18446744073709551616 ^ n) (hD : Dv (wd v (n - 1)) rc) :
    Calls Tryz.prog 58 #[z, .pointer (some ⟨p, 0, none⟩), z2, .slice (some ⟨bx, ox, none⟩) lu cx, .slice (some ⟨bv, ov, none⟩) n cv] w fun e w' => ∃ bq kq cq br kr cr a' b',
      e = .returned (.tuple #[.slice (some ⟨bq, 0, none⟩) kq cq, .slice (some ⟨br, 0, none⟩) kr cr]) ∧ DivPost w w' z z2 p a b l bz bz2 (X / v) (X % v) bq kq cq br kr cr a' b' := by
  have K := Lib.hid (divLarge_c z z2 p a b l bz bz2 bx ox lu cx bv ov n cv X v rc w hz hz2 hX hV hG hS hl hA hlo hn hn1 (by omega) hlu hXl hv hv1 hD)
  have KC := Lib.hid (cmp_gt (some ⟨bx, ox, none⟩) (some ⟨bv, ov, none⟩) lu n cx cv w hnl)
  clear hz hz2 hX hV hG hS hA hlo hXl hv hv1 hD
  have h0 : ((n : Int) == 0) = false := by simp; omega
  have h1 : ((n : Int) == 1) = false := by simp; omega
  go_enter_defers Tryz.func58, Tryz.ntmps58
  go_wp2_with fail
  refine KC.out.mono ?_
  rintro e w0 ⟨rfl, rfl⟩
  go_wp2_with fail
  refine K.out.mono ?_
  rintro e w1 ⟨bq, kq, cq, br, kr, cr, a', b', rfl, hP⟩
  have KP := Lib.hid hP
  clear hP
  go_wp2_with fail
  exact ⟨_, results_tmp2 (t := 10) (u := 11) (by kernel_rfl) _ _ _, bq, kq, cq, br, kr, cr, a', b', rfl, KP.out⟩
theorem make_same (b n c : Nat) (w : World) (hn : n ≤ c) : Calls Tryz.prog 28 #[.slice (some ⟨b, 0, none⟩) n c, .int .i64 n] w fun e w' => e = .returned (.slice (some ⟨b, 0, none⟩) n c) ∧ w' = w := by
  go_enter Tryz.func28, Tryz.ntmps28
  go_wp2_with fail
  go_returns
  exact ⟨rfl, rfl⟩
/-- a number by a word, in place -/
theorem divW_c (b n c X : Nat) (w : World) (hB : Blk w b c) (hn : n ≤ c) (hn1 : n ≤ 1000) (hX : Ws w b 0 n X) (hXl : X < 18446744073709551616 ^ n) :
    Calls Tryz.prog 59 #[.slice (some ⟨b, 0, none⟩) n c, .slice (some ⟨b, 0, none⟩) n c, .int .u64 10000000000000000000] w fun e w' => ∃ k, e = .returned (.tuple #[.slice (some ⟨b, 0, none⟩) k c, .int .u64 ((X % 10000000000000000000 : Nat) : Int)]) ∧ k ≤ n ∧
      Nrm (X / 10000000000000000000) k ∧ Ws w' b 0 k (X / 10000000000000000000) ∧ Fr w w' (Rg b 0 n) := by
  rcases Nat.eq_zero_or_pos n with h0 | h0
  · subst h0
    have hx : X = 0 := by simpa using hXl
    subst hx
    clear hB hX hXl
    go_enter Tryz.func59, Tryz.ntmps59
    go_wp2_with fail
    go_returns
    exact ⟨0, rfl, by omega, ⟨by decide, fun h => absurd h (by omega)⟩, fun i hi => absurd hi (by omega), Fr.refl _ _⟩
  · have KM := Lib.hid (make_same b n c w hn)
    have KD := Lib.hid (divV_c b 0 n c X 10000000000000000000 15581492618384294730 c c w hB (by omega) hn1 h0 hX hXl dv_a)
    have hQ : X / 10000000000000000000 < 18446744073709551616 ^ n := Nat.lt_of_le_of_lt (Nat.div_le_self _ _) hXl
    have KQ := Lib.hid hQ
    have h1 : ((n : Int) == 0) = false := by simp; omega
    clear hB hX hXl hQ
    generalize X / 10000000000000000000 = Q at *
    generalize X % 10000000000000000000 = R at *
    go_enter Tryz.func59, Tryz.ntmps59
    go_wp2_with fail
    refine KM.out.mono ?_
    rintro e w0 ⟨rfl, rfl⟩
    go_wp2_with fail
    refine KD.out.mono ?_
    rintro e w1 ⟨rfl, hW, hF⟩
    have KN := Lib.hid (norm_c b 0 n c Q w1 hn1 hn hW KQ.out)
    have KW := Lib.hid (And.intro hW hF)
    clear hW hF
    go_wp2_with fail
    refine KN.out.mono ?_
    rintro e w1' ⟨k, rfl, hk, hN, rfl⟩
    have KNn := Lib.hid hN
    clear hN
    go_wp2_with fail
    go_returns
    exact ⟨k, rfl, hk, KNn.out, KW.out.1.less hk, KW.out.2⟩
theorem smear (t y d : Nat) (D : Int) (hD : D = (d : Int)) (h1 : 2 ^ (t - 1) ≤ y) (h2 : y < 2 ^ t) (ht : t ≤ 64) : ∃ z : Nat, bits .or .u64 (y : Int) ((y : Int) / D) = (z : Int) ∧ 2 ^ (t - 1) ≤ z ∧ z < 2 ^ t := by
  have hy : y < 18446744073709551616 := Nat.lt_of_lt_of_le h2 (show 2 ^ t ≤ 2 ^ 64 from Nat.pow_le_pow_right (by decide) ht)
  have hdl := Nat.div_le_self y d
  subst hD
  refine ⟨y ||| y / d, ?_, Nat.le_trans h1 Nat.left_le_or, Nat.or_lt_two_pow h2 (by omega)⟩
  rw [← u64_or_nat y (y / d) hy (by omega)]
  rfl
theorem bitLen_of (z t : Nat) (h1 : 2 ^ (t - 1) ≤ z) (h2 : z < 2 ^ t) (ht : t ≤ 64) : Lib.bitLen z = t := by
  have hz : z < 2 ^ 64 := Nat.lt_of_lt_of_le h2 (Nat.pow_le_pow_right (by decide) ht)
  have hp : 0 < 2 ^ (t - 1) := Nat.pow_pos (by decide)
  have hb := Lib.bitLenAux_bounds 64 z hz (by omega)
  show Lib.bitLenAux 64 z = t
  generalize Lib.bitLenAux 64 z = L at *
  rcases Nat.lt_trichotomy L t with a | a | a
  · have : 2 ^ L ≤ 2 ^ (t - 1) := Nat.pow_le_pow_right (by decide) (by omega)
    omega
  · exact a
  · have : 2 ^ t ≤ 2 ^ (L - 1) := Nat.pow_le_pow_right (by decide) (by omega)
    omega
theorem pow64 (n : Nat) : 18446744073709551616 ^ n = 2 ^ (64 * n) := by
  rw [show (18446744073709551616 : Nat) = 2 ^ 64 from by decide, ← Nat.pow_mul]
theorem bitLen_c (b n c X : Nat) (w : World) (hX : Ws w b 0 n X) (hn : 1 ≤ n) (hn1 : n ≤ 1000) (hN : Nrm X n) :
    Calls Tryz.prog 34 #[.slice (some ⟨b, 0, none⟩) n c] w fun e w' => ∃ L : Nat, e = .returned (.int .i64 L) ∧ 1 ≤ L ∧ 2 ^ (L - 1) ≤ X ∧ X < 2 ^ L ∧ L ≤ 64 * n ∧ w' = w := by
  have ct := hX (n - 1) (by omega)
  rw [Nat.zero_add] at ct
  have hx : wd X (n - 1) = X / 18446744073709551616 ^ (n - 1) := wd_top (by rw [show n - 1 + 1 = n from by omega]; exact hN.1)
  have hx1 : 1 ≤ wd X (n - 1) := by
    rw [hx]; exact (Nat.div_pos_iff.2 ⟨bp_pos _, hN.2 (by omega)⟩)
  have hlt := wd_lt X (n - 1)
  have hxl : ∃ t, 1 ≤ t ∧ t ≤ 64 ∧ 2 ^ (t - 1) ≤ wd X (n - 1) ∧ wd X (n - 1) < 2 ^ t := by
    have hb := Lib.bitLenAux_bounds 64 (wd X (n - 1)) hlt (by omega)
    refine ⟨_, hb.1, ?_, hb.2⟩
    refine Nat.le_of_not_lt (fun h => ?_)
    have : 2 ^ 64 ≤ 2 ^ (Lib.bitLenAux 64 (wd X (n - 1)) - 1) := Nat.pow_le_pow_right (by decide) (by omega)
    omega
  obtain ⟨t, t0, t1, t2, t3⟩ := hxl
  have hL : 2 ^ (64 * (n - 1) + t - 1) ≤ X ∧ X < 2 ^ (64 * (n - 1) + t) := by
    have hdm := Nat.div_add_mod X (18446744073709551616 ^ (n - 1))
    have hml := Nat.mod_lt X (bp_pos (n - 1))
    rw [hx] at t2 t3
    rw [pow64] at t2 t3
    rw [show 64 * (n - 1) + t - 1 = (t - 1) + 64 * (n - 1) from by omega, show 64 * (n - 1) + t = t + 64 * (n - 1) from by omega, Nat.pow_add, Nat.pow_add]
    have hp : 0 < 2 ^ (64 * (n - 1)) := Nat.pow_pos (by decide)
    exact ⟨(Nat.le_div_iff_mul_le hp).1 t2, (Nat.div_lt_iff_lt_mul hp).1 t3⟩
  obtain ⟨z1, a1, a2, a3⟩ := smear t (wd X (n - 1)) 2 2 rfl t2 t3 t1
  obtain ⟨z2, b1, b2, b3⟩ := smear t z1 4 4 rfl a2 a3 t1
  obtain ⟨z3, c1, c2, c3⟩ := smear t z2 16 16 rfl b2 b3 t1
  obtain ⟨z4, d1, d2, d3⟩ := smear t z3 256 256 rfl c2 c3 t1
  obtain ⟨z5, e1, e2, e3⟩ := smear t z4 65536 65536 rfl d2 d3 t1
  obtain ⟨z6, f1, f2, f3⟩ := smear t z5 4294967296 4294967296 rfl e2 e3 t1
  have h64 : ∀ z : Nat, z < 2 ^ t → z < 18446744073709551616 := fun z h => Nat.lt_of_lt_of_le h (show 2 ^ t ≤ 2 ^ 64 from Nat.pow_le_pow_right (by decide) t1)
  have g1 := h64 z1 a3
  have g2 := h64 z2 b3
  have g3 := h64 z3 c3
  have g4 := h64 z4 d3
  have g5 := h64 z5 e3
  have g6 := h64 z6 f3
  have KL := Tryz.bits_Len (z6 : Int) w (by omega) (by omega)
  rw [Int.toNat_natCast, bitLen_of z6 t f2 f3 t1] at KL
  have K := Lib.hid hL
  have KL2 := Lib.hid KL
  clear KL hL hX hN hx hx1 a2 a3 b2 b3 c2 c3 d2 d3 e2 e3 f2 f3 t2 t3 h64
  generalize wd X (n - 1) = x at *
  have s1 : (n : Int) - 1 = ((n - 1 : Nat) : Int) := by omega
  have hp : 0 ≤ (n : Int) - 1 := by omega
  have f5 : bits .or .u64 (z5 : Int) ((z5 : Int) / 65536 / 65536) = (z6 : Int) := by
    rw [show (z5 : Int) / 65536 / 65536 = (z5 : Int) / 4294967296 from by omega]; exact f1
  clear f1
  go_enter Tryz.func34, Tryz.ntmps34
  go_wp2_with fail
  refine KL2.out.mono ?_
  rintro e w' ⟨rfl, rfl⟩
  go_wp2_with fail
  go_returns
  refine ⟨64 * (n - 1) + t, ?_, by omega, K.out.1, K.out.2, by omega, rfl⟩
  exact congrArg (fun x : Int => Ending.returned (.int .i64 x)) (by omega)
end Go.Proofs.YtdidglfaogmnfaaGreatDoor
