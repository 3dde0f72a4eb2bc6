/-
  A part of the proof of FnMathWhole (packed out of smaller texts by a program of this session; what the proof does not reach is left out).
-/
import Derived.Test.YtldejfallphhbaaGreatDoorZi
import Derived.Test.YtldejfallphhbaaGreatDoorZh
namespace Go.Proofs.YtldejfallphhbaaGreatDoor
set_option linter.unusedVariables false
set_option exponentiation.threshold 3000
open Go.RowKit
theorem fl_int (ng : Bool) (X r : Nat) (h0 : ng = true → 1 ≤ X) (hr : r < 9218868437227405312) (hU : Fl.U r = X * Fl.B) : floatOfInt .f64 (if ng then -(X : Int) else (X : Int)) = Fl.wordOf ng r := by
  have hU' : X * 2 ^ ((0 : Int) + 1074).toNat = Fl.U r := hU.symm
  cases ng
  · have h := Fl.write_exact false X 0 r hr (by decide) hU'
    rw [← h]
    show Ieee.double.write (.number (decide ((X : Int) < 0)) (X : Int).natAbs 0) = _
    rw [Int.natAbs_natCast]
    have e : decide ((X : Int) < 0) = false := by simp
    rw [e]
  · have h := Fl.write_exact true X 0 r hr (by decide) hU'
    rw [← h]
    show Ieee.double.write (.number (decide (-(X : Int) < 0)) (-(X : Int)).natAbs 0) = _
    rw [Int.natAbs_neg, Int.natAbs_natCast]
    have := h0 rfl
    have e : decide (-(X : Int) < 0) = true := by simp; omega
    rw [e]
set_option maxRecDepth 100000 in
theorem float_small (x : Int) (b : Nat) (hb : floatOfInt .f64 x = b) (w : World) :
    Calls Tryz.prog 281 #[.agg #[.int .i64 x, .pointer none]] w fun e w' => e = .returned (.float .f64 b) ∧ Fr w w' No := by
  have KA := Lib.hid (new40 w #[.int .i64 x, .pointer none] 74)
  have KG := Lib.hid (get_c x none (w.alloc (.cells #[.int .i64 x, .pointer none] 74)))
  have KB := Lib.hid hb
  clear hb
  go_enter Tryz.func281, Tryz.ntmps281
  go_wp2_with fail
  with_reducible refine KG.out.mono ?_
  rintro e w2 ⟨rfl, hF⟩
  have KF := Lib.hid (KA.out.trans hF (fun _ _ _ c => c))
  clear hF
  go_wp2_with fail
  go_returns
  exact ⟨by rw [KB.out]; rfl, KF.out⟩
set_option maxRecDepth 100000 in
theorem isU_c (q X : Nat) (ng : Bool) (v : Value) (w : World) (h : Bi w q ng v) (hv : Abs w v X) :
    Calls Tryz.prog 282 #[.pointer (some ⟨q, 0, none⟩)] w fun e w' => e = .returned (.bool (!ng && decide (X < 18446744073709551616))) ∧ w' = w := by
  have c0 := h.c0
  have c1 := h.c1
  clear h
  cases ng
  · rcases hv with ⟨rfl, rfl⟩ | ⟨b, k, cc, rfl, h1, h2, h3, h4, h5, h6, h7, h8⟩
    · go_enter Tryz.func282, Tryz.ntmps282
      go_wp2_with fail
      go_returns
      exact ⟨rfl, rfl⟩
    · have e : decide (X < 18446744073709551616) = decide (k ≤ 1) := by
        by_cases hk : k ≤ 1
        · have : k = 1 := by omega
          subst this
          have := h6.1
          simp at this
          simp [this]
        · have hle := h6.2 h1
          have : 18446744073709551616 ^ 1 ≤ 18446744073709551616 ^ (k - 1) := Nat.pow_le_pow_right (by decide) (by omega)
          simp; omega
      rw [e]
      have d : decide ((k : Int) ≤ 1) = decide (k ≤ 1) := by simp; omega
      clear h1 h2 h3 h4 h5 h6 h7 h8 e
      generalize decide (k ≤ 1) = dd at *
      go_enter Tryz.func282, Tryz.ntmps282
      go_wp2_with fail
      go_returns
      exact ⟨by simp, rfl⟩
  · go_enter Tryz.func282, Tryz.ntmps282
    go_wp2_with fail
    go_returns
    exact ⟨rfl, rfl⟩
theorem wd_self (X : Nat) (h : X < 18446744073709551616) : wd X 0 = X := by unfold wd; rw [Nat.pow_zero, Nat.div_one]; omega
set_option maxRecDepth 100000 in
theorem uint64_c (q X : Nat) (ng : Bool) (v : Value) (w : World) (h : Bi w q ng v) (hv : Abs w v X) (hX : X < 18446744073709551616) :
    Calls Tryz.prog 161 #[.pointer (some ⟨q, 0, none⟩)] w fun e w' => e = .returned (.int .u64 (X : Int)) ∧ w' = w := by
  have c1 := h.c1
  have K := Lib.hid (low64_c X v w hv)
  rw [wd_self X hX] at K
  clear h hv hX
  go_enter Tryz.func161, Tryz.ntmps161
  go_wp2_with fail
  with_reducible refine K.out.mono ?_
  rintro e w' ⟨rfl, rfl⟩
  go_wp2_with fail
  go_returns
  exact ⟨rfl, rfl⟩
set_option maxRecDepth 100000 in
set_option maxHeartbeats 1000000 in
theorem isI_c (q X : Nat) (ng : Bool) (v : Value) (w : World) (h : Bi w q ng v) (hv : Abs w v X) :
    Calls Tryz.prog 283 #[.pointer (some ⟨q, 0, none⟩)] w fun e w' => e = .returned (.bool (decide (X < 9223372036854775808 ∨ (ng = true ∧ X = 9223372036854775808)))) ∧ w' = w := by
  obtain ⟨R, hR⟩ : ∃ R, R = decide (X < 9223372036854775808 ∨ (ng = true ∧ X = 9223372036854775808)) := ⟨_, rfl⟩
  rw [← hR]
  have KQ := Lib.hid hR
  clear hR
  have c0 := h.c0
  have c1 := h.c1
  have K := Lib.hid (low64_c X v w hv)
  clear h
  rcases hv with ⟨rfl, rfl⟩ | ⟨b, k, cc, rfl, h1, h2, h3, h4, h5, h6, h7, h8⟩
  · rw [wd_zero] at K
    go_enter Tryz.func283, Tryz.ntmps283
    go_wp2_with fail
    with_reducible refine K.out.mono ?_
    rintro e w' ⟨rfl, rfl⟩
    go_wp2_with fail
    go_returns
    exact ⟨by rw [KQ.out]; rfl, rfl⟩
  · by_cases hk : k ≤ 1
    · have : k = 1 := by omega
      subst this
      have hX := h6.1
      rw [Nat.pow_one] at hX
      rw [wd_self X hX] at K
      have f0 : ((1 : Nat) : Int) ≤ 1 := by decide
      clear h1 h2 h3 h4 h5 h6 h7 h8 hk
      obtain ⟨z, hz⟩ : ∃ z, z = IntKind.i64.wrap (X : Int) := ⟨_, rfl⟩
      have hz2 : (0 ≤ z ↔ X < 9223372036854775808) ∧ (z = IntKind.i64.wrap (-z) ↔ X = 0 ∨ X = 9223372036854775808) := by
        rw [IntKind.wrap_i64] at hz ⊢
        omega
      by_cases c : 0 ≤ z
      · have KR : Hid (R = true) := Lib.hid (by rw [KQ.out]; simp; exact Or.inl (hz2.1.1 c))
        have hz' := hz.symm
        clear hz hz2
        go_enter Tryz.func283, Tryz.ntmps283
        go_wp2_with fail
        with_reducible refine K.out.mono ?_
        rintro e w' ⟨rfl, rfl⟩
        go_wp2_with fail
        go_returns
        exact ⟨by rw [KR.out]; rfl, rfl⟩
      · have cd : decide (0 ≤ z) = false := by simpa using c
        have ce : z < 0 := by omega
        clear c
        cases ng
        · have KR : Hid (R = false) := Lib.hid (by rw [KQ.out]; simp; have := hz2.1; omega)
          have hz' := hz.symm
          clear hz hz2
          go_enter Tryz.func283, Tryz.ntmps283
          go_wp2_with fail
          with_reducible refine K.out.mono ?_
          rintro e w' ⟨rfl, rfl⟩
          go_wp2_with fail
          go_returns
          exact ⟨by rw [KR.out]; rfl, rfl⟩
        · have KR : Hid (decide (z = IntKind.i64.wrap (-z)) = R) := Lib.hid (by
            rw [KQ.out]
            have := hz2.1
            rw [decide_eq_decide, hz2.2]
            simp; omega)
          have hz' := hz.symm
          clear hz hz2
          obtain ⟨dd, hd⟩ : ∃ dd, dd = decide (z = IntKind.i64.wrap (-z)) := ⟨_, rfl⟩
          have hd' : (z == wrap64 (-z)) = dd := by rw [hd, IntKind.wrap_i64]; unfold wrap64; exact (Bool.eq_iff_iff.2 (by simp))
          rw [← hd] at KR
          clear hd
          go_enter Tryz.func283, Tryz.ntmps283
          go_wp2_with fail
          with_reducible refine K.out.mono ?_
          rintro e w' ⟨rfl, rfl⟩
          go_wp2_with fail
          go_returns
          exact ⟨by rw [← KR.out]; rfl, rfl⟩
    · have KR : Hid (R = false) := Lib.hid (by
        rw [KQ.out]
        have hle := h6.2 h1
        have : 18446744073709551616 ^ 1 ≤ 18446744073709551616 ^ (k - 1) := Nat.pow_le_pow_right (by decide) (by omega)
        simp; omega)
      have hk' : ¬ (k : Int) ≤ 1 := by omega
      clear h1 h2 h3 h4 h5 h6 h7 h8 K
      go_enter Tryz.func283, Tryz.ntmps283
      go_wp2_with fail
      go_returns
      exact ⟨by rw [KR.out]; rfl, rfl⟩
set_option maxRecDepth 100000 in
theorem int64g_c (p X : Nat) (neg : Bool) (v : Value) (w : World) (h : Bi w p neg v) (hv : Abs w v X) (hX : X < 9223372036854775808 ∨ (neg = true ∧ X = 9223372036854775808)) :
    Calls Tryz.prog 91 #[.pointer (some ⟨p, 0, none⟩)] w fun e w' => e = .returned (.int .i64 (if neg then -(X : Int) else (X : Int))) ∧ w' = w := by
  have c1 := h.c1
  have c0 := h.c0
  have K := Lib.hid (low64_c X v w hv)
  rw [wd_self X (by omega)] at K
  clear h hv
  cases neg
  · have hX' : X < 9223372036854775808 := by rcases hX with h | ⟨h, _⟩; exact h; cases h
    clear hX
    have e1 : IntKind.i64.wrap (X : Int) = X := by rw [IntKind.wrap_i64]; omega
    go_enter Tryz.func91, Tryz.ntmps91
    go_wp2_with fail
    with_reducible refine K.out.mono ?_
    rintro e w' ⟨rfl, rfl⟩
    go_wp2_with fail
    go_returns
    exact ⟨by simp, rfl⟩
  · obtain ⟨z, hz⟩ : ∃ z, z = IntKind.i64.wrap (X : Int) := ⟨_, rfl⟩
    have e2 : IntKind.i64.wrap (-z) = -(X : Int) := by
      rw [IntKind.wrap_i64] at hz ⊢
      omega
    have hz' := hz.symm
    clear hz hX
    go_enter Tryz.func91, Tryz.ntmps91
    go_wp2_with fail
    with_reducible refine K.out.mono ?_
    rintro e w' ⟨rfl, rfl⟩
    go_wp2_with fail
    go_returns
    exact ⟨by simp [e2], rfl⟩
end Go.Proofs.YtldejfallphhbaaGreatDoor
namespace Go.Proofs.YtldejfallphhbaaGreatDoor
set_option linter.unusedVariables false
open Go.RowKit
set_option maxRecDepth 100000 in
theorem nlz_c (z t : Nat) (h1 : 2 ^ (t - 1) ≤ z) (h2 : z < 2 ^ t) (ht : t ≤ 64) (w : World) : Calls Tryz.prog 176 #[.int .u64 (z : Int)] w fun e w' => e = .returned (.int .u64 ((64 - t : Nat) : Int)) ∧ w' = w := by
  have hz : z < 18446744073709551616 := Nat.lt_of_lt_of_le h2 (show 2 ^ t ≤ 2 ^ 64 from Nat.pow_le_pow_right (by decide) ht)
  have K := Lib.hid (Tryz.bits_LeadingZeros (z : Int) w (by omega) (by omega))
  rw [show ((z : Int)).toNat = z from by omega, bitLen_of z t h1 h2 ht] at K
  obtain ⟨s, hs⟩ : ∃ s, s = 64 - t := ⟨_, rfl⟩
  rw [← hs]
  have e1 : (64 : Int) - (t : Int) = (s : Int) := by omega
  rw [e1] at K
  have hs2 : s ≤ 64 := by omega
  clear h1 h2 ht hz hs e1
  go_enter Tryz.func176, Tryz.ntmps176
  go_wp2_with fail
  refine K.out.mono ?_
  rintro e w' ⟨rfl, rfl⟩
  go_wp2_with fail
  go_returns
  exact ⟨by simp, rfl⟩
theorem top_len (X n L : Nat) (hn : 1 ≤ n) (hN : Nrm X n) (h1 : 2 ^ (L - 1) ≤ X) (h2 : X < 2 ^ L) (hL : 64 * (n - 1) < L) (hL2 : L ≤ 64 * n) : 2 ^ (L - 64 * (n - 1) - 1) ≤ wd X (n - 1) ∧ wd X (n - 1) < 2 ^ (L - 64 * (n - 1)) := by
  have hx : wd X (n - 1) = X / 18446744073709551616 ^ (n - 1) := wd_top (by rw [show n - 1 + 1 = n from by omega]; exact hN.1)
  rw [hx, pow64]
  have hp : 0 < 2 ^ (64 * (n - 1)) := Nat.pow_pos (by decide)
  constructor
  · rw [Nat.le_div_iff_mul_le hp, ← Nat.pow_add, show L - 64 * (n - 1) - 1 + 64 * (n - 1) = L - 1 from by omega]
    exact h1
  · rw [Nat.div_lt_iff_lt_mul hp, ← Nat.pow_add, show L - 64 * (n - 1) + 64 * (n - 1) = L from by omega]
    exact h2
set_option maxRecDepth 100000 in
set_option maxHeartbeats 1000000 in
theorem fnorm_c (b n c N X L s : Nat) (w : World) (hB : Blk w b N) (hnN : n ≤ N) (hX : Ws w b 0 n X) (hn : 1 ≤ n) (hn1 : n ≤ 40) (hN : Nrm X n) (h1 : 2 ^ (L - 1) ≤ X) (h2 : X < 2 ^ L) (hL : 64 * (n - 1) < L) (hs : L + s = 64 * n) :
    Calls Tryz.prog 286 #[.slice (some ⟨b, 0, none⟩) n c] w fun e w' => e = .returned (.int .i64 (s : Int)) ∧ Ws w' b 0 n (X * 2 ^ s) ∧ Fr w w' (Rg b 0 n) := by
  obtain ⟨t1, t2⟩ := top_len X n L hn hN h1 h2 hL (by omega)
  have K := Lib.hid (nlz_c (wd X (n - 1)) (L - 64 * (n - 1)) t1 t2 (by omega))
  rw [show 64 - (L - 64 * (n - 1)) = s from by omega] at K
  have ct := hX (n - 1) (by omega)
  rw [Nat.zero_add] at ct
  have hs64 : s ≤ 63 := by omega
  obtain ⟨m, rfl⟩ : ∃ m, n = m + 1 := ⟨n - 1, by omega⟩
  rw [Nat.add_sub_cancel] at *
  have hm : ((m + 1 : Nat) : Int) - 1 = (m : Int) := by omega
  have hm2 : m < m + 1 := by omega
  have hm3 : ((m + 1 : Nat) : Int) = (m : Int) + 1 := by omega
  by_cases h0 : s = 0
  · subst h0
    rw [Nat.pow_zero, Nat.mul_one]
    have KX := Lib.hid hX
    clear hX t1 t2 hB hnN hN h1 h2 hL hs
    generalize wd X m = z at *
    go_enter Tryz.func286, Tryz.ntmps286
    go_wp2_with fail
    refine (K.out _).mono ?_
    rintro e w' ⟨rfl, rfl⟩
    go_wp2_with fail
    go_returns
    exact ⟨rfl, KX.out, Fr.refl _ _⟩
  · have KL := Lib.hid (lshV_c b 0 b 0 (m + 1) X s c c N w hB (by omega) (by omega) (by omega) (by omega) hs64 hX (Or.inl ⟨rfl, rfl⟩))
    have hs0 : 0 < s := by omega
    clear hX t1 t2 hB hnN hN h1 h2 hL hs h0
    rw [Nat.add_sub_cancel] at KL
    generalize wd X m / 2 ^ (64 - s) = z2 at *
    generalize wd X m = z at *
    go_enter Tryz.func286, Tryz.ntmps286
    go_wp2_with fail
    refine (K.out _).mono ?_
    rintro e w' ⟨rfl, rfl⟩
    go_wp2_with fail
    with_reducible refine KL.out.mono ?_
    rintro e w2 ⟨rfl, H⟩
    have KH := Lib.hid H
    clear H
    go_wp2_with fail
    go_returns
    exact ⟨by simp, KH.out⟩
end Go.Proofs.YtldejfallphhbaaGreatDoor
namespace Go.Proofs.YtldejfallphhbaaGreatDoor
set_option linter.unusedVariables false
open Go.RowKit
set_option maxRecDepth 100000 in
theorem bit_c (b n c i k z : Nat) (w : World) (hn : n ≤ 1000) (hi : i < 64 * n) (hk : i / 64 = k) (hz : w.cell? ⟨b, k, none⟩ = some (.int .u64 (z : Int))) (hzl : z < 18446744073709551616) (h0 : z / 2 ^ (i % 64) % 2 = 0) :
    Calls Tryz.prog 293 #[.slice (some ⟨b, 0, none⟩) n c, .int .u64 (i : Int)] w fun e w' => e = .returned (.int .u64 0) ∧ w' = w := by
  have q1 : (i : Int) / 64 = (k : Int) := by omega
  have q2 : k < n := by omega
  have q2b : ¬ (n : Int) ≤ (k : Int) := by omega
  obtain ⟨m, hm⟩ : ∃ m, m = i % 64 := ⟨_, rfl⟩
  rw [← hm] at h0
  have q3 : (i : Int) % 64 = (m : Int) := by omega
  have q4 : bits .and .u64 ((z : Int) / 2 ^ m) 1 = 0 := by
    obtain ⟨y, hy⟩ : ∃ y, y = z / 2 ^ m := ⟨_, rfl⟩
    have e : (z : Int) / 2 ^ m = (y : Int) := by rw [hy, Int.natCast_ediv, Int.natCast_pow]; rfl
    rw [← hy] at h0
    rw [e]
    have hy2 : y < 18446744073709551616 := by rw [hy]; exact Nat.lt_of_le_of_lt (Nat.div_le_self _ _) hzl
    have e2 : bits .and .u64 (y : Int) ((1 : Nat) : Int) = ((y &&& 1 : Nat) : Int) := bits_and_u64_nat y 1 hy2 (by decide)
    rw [Nat.and_one_is_mod, h0] at e2
    exact e2
  have q5 : m < 64 := by omega
  have q6 : (n : Int) < 18446744073709551616 := by omega
  clear hi hk h0 hm hn
  go_enter Tryz.func293, Tryz.ntmps293
  go_wp2_with fail
  go_returns
  exact ⟨rfl, rfl⟩
set_option maxRecDepth 100000 in
set_option maxHeartbeats 1000000 in
theorem sticky_c (b n c i k z : Nat) (w : World) (hn : n ≤ 1000) (hnc : n ≤ c) (hi : i < 64 * n) (hk : i / 64 = k) (hlo : ∀ j, j < k → w.cell? ⟨b, j, none⟩ = some (.int .u64 0)) (hz : w.cell? ⟨b, k, none⟩ = some (.int .u64 (z : Int))) (h0 : z * 2 ^ (64 - i % 64) % 18446744073709551616 = 0) :
    Calls Tryz.prog 288 #[.slice (some ⟨b, 0, none⟩) n c, .int .u64 (i : Int)] w fun e w' => e = .returned (.int .u64 0) ∧ w' = w := by
  have q1 : (i : Int) / 64 = (k : Int) := by omega
  have q2 : k < n := by omega
  have q2b : ¬ (n : Int) ≤ (k : Int) := by omega
  obtain ⟨m, hm⟩ : ∃ m, m = 64 - i % 64 := ⟨_, rfl⟩
  obtain ⟨r, hr⟩ : ∃ r, r = i % 64 := ⟨_, rfl⟩
  rw [← hm] at h0
  have q3a : (i : Int) % 64 = (r : Int) := by omega
  have q3 : (64 : Int) - (r : Int) = (m : Int) := by omega
  have q3b : IntKind.u64.wrap ((64 : Int) - (r : Int)) = (m : Int) := by rw [IntKind.wrap_u64]; omega
  have q4 : IntKind.u64.wrap ((z : Int) * 2 ^ m) = 0 := by
    rw [wrap_sh, h0]; rfl
  have q5 : m ≤ 64 := by omega
  have KL := Lib.hid hlo
  have q7 : k ≤ c := by omega
  clear hi hk h0 hm hr hlo q3
  go_enter Tryz.func288, Tryz.ntmps288
  go_wp2_with fail
  go_loopw [22] (fun v22 wr => ∃ j : Nat, j ≤ k ∧ v22 = .int .i64 j ∧ wr = w) (fun v22 _ => k - (intOf v22).toNat)
  case atStart => exact ⟨0, Nat.zero_le _, rfl, rfl⟩
  case round =>
    obtain ⟨j, hj, rfl, rfl⟩ := hrel
    by_cases c1 : j < k
    · have cj := KL.out j c1
      have q8 : (j : Int) < (k : Int) := by omega
      go_wp2_with fail
      go_roundw
      case rel => exact ⟨j + 1, c1, rfl, trivial⟩
      case measure => simp [intOf]; omega
    · have q8 : ¬ (j : Int) < (k : Int) := by omega
      go_wp2_with fail
      go_returns
      exact ⟨rfl, rfl⟩
end Go.Proofs.YtldejfallphhbaaGreatDoor
namespace Go.Proofs.YtldejfallphhbaaGreatDoor
set_option linter.unusedVariables false
open Go.RowKit
structure FS (w : World) (p : Nat) (prec acc form : Int) (ng : Bool) (m : Value) (ex : Int) : Prop where
  B : Blk w p 7
  c0 : w.cell? ⟨p, 0, none⟩ = some (.int .u32 prec)
  c1 : w.cell? ⟨p, 1, none⟩ = some (.int .u8 0)
  c2 : w.cell? ⟨p, 2, none⟩ = some (.int .i8 acc)
  c3 : w.cell? ⟨p, 3, none⟩ = some (.int .u8 form)
  c4 : w.cell? ⟨p, 4, none⟩ = some (.bool ng)
  c5 : w.cell? ⟨p, 5, none⟩ = some m
  c6 : w.cell? ⟨p, 6, none⟩ = some (.int .i32 ex)
theorem FS.fr {w w' : World} {S : Nat → Nat → Prop} {p : Nat} {prec acc form : Int} {ng : Bool} {m : Value} {ex : Int} (h : FS w p prec acc form ng m ex) (hf : Fr w w' S) (hS : ∀ j, ¬ S p j) : FS w' p prec acc form ng m ex :=
  ⟨h.B.fr hf, hf.keep h.c0 (hS _), hf.keep h.c1 (hS _), hf.keep h.c2 (hS _), hf.keep h.c3 (hS _), hf.keep h.c4 (hS _), hf.keep h.c5 (hS _), hf.keep h.c6 (hS _)⟩
section
variable {w : World} {p : Nat} {prec acc form : Int} {ng : Bool} {m : Value} {ex : Int}
theorem FS.put (i : Nat) (v : Value) : Fr w (w.setCell ⟨p, i, none⟩ v) (fun k j => k = p ∧ j = i) := (Fr.refl w (fun k j => k = p ∧ j = i)).set p i v (fun _ => ⟨rfl, rfl⟩)
theorem FS.put2 (h : FS w p prec acc form ng m ex) (x : Int) : FS (w.setCell ⟨p, 2, none⟩ (.int .i8 x)) p prec x form ng m ex := by
  have f := FS.put (w := w) (p := p) 2 (.int .i8 x)
  exact ⟨h.B.fr f, f.keep h.c0 (by omega), f.keep h.c1 (by omega), h.B.get 2 (by decide) _, f.keep h.c3 (by omega), f.keep h.c4 (by omega), f.keep h.c5 (by omega), f.keep h.c6 (by omega)⟩
theorem FS.put0 (h : FS w p prec acc form ng m ex) (x : Int) : FS (w.setCell ⟨p, 0, none⟩ (.int .u32 x)) p x acc form ng m ex := by
  have f := FS.put (w := w) (p := p) 0 (.int .u32 x)
  exact ⟨h.B.fr f, h.B.get 0 (by decide) _, f.keep h.c1 (by omega), f.keep h.c2 (by omega), f.keep h.c3 (by omega), f.keep h.c4 (by omega), f.keep h.c5 (by omega), f.keep h.c6 (by omega)⟩
theorem FS.put3 (h : FS w p prec acc form ng m ex) (x : Int) : FS (w.setCell ⟨p, 3, none⟩ (.int .u8 x)) p prec acc x ng m ex := by
  have f := FS.put (w := w) (p := p) 3 (.int .u8 x)
  exact ⟨h.B.fr f, f.keep h.c0 (by omega), f.keep h.c1 (by omega), f.keep h.c2 (by omega), h.B.get 3 (by decide) _, f.keep h.c4 (by omega), f.keep h.c5 (by omega), f.keep h.c6 (by omega)⟩
theorem FS.put4 (h : FS w p prec acc form ng m ex) (x : Bool) : FS (w.setCell ⟨p, 4, none⟩ (.bool x)) p prec acc form x m ex := by
  have f := FS.put (w := w) (p := p) 4 (.bool x)
  exact ⟨h.B.fr f, f.keep h.c0 (by omega), f.keep h.c1 (by omega), f.keep h.c2 (by omega), f.keep h.c3 (by omega), h.B.get 4 (by decide) _, f.keep h.c5 (by omega), f.keep h.c6 (by omega)⟩
theorem FS.put5 (h : FS w p prec acc form ng m ex) (x : Value) : FS (w.setCell ⟨p, 5, none⟩ x) p prec acc form ng x ex := by
  have f := FS.put (w := w) (p := p) 5 x
  exact ⟨h.B.fr f, f.keep h.c0 (by omega), f.keep h.c1 (by omega), f.keep h.c2 (by omega), f.keep h.c3 (by omega), f.keep h.c4 (by omega), h.B.get 5 (by decide) _, f.keep h.c6 (by omega)⟩
theorem FS.put6 (h : FS w p prec acc form ng m ex) (x : Int) : FS (w.setCell ⟨p, 6, none⟩ (.int .i32 x)) p prec acc form ng m x := by
  have f := FS.put (w := w) (p := p) 6 (.int .i32 x)
  exact ⟨h.B.fr f, f.keep h.c0 (by omega), f.keep h.c1 (by omega), f.keep h.c2 (by omega), f.keep h.c3 (by omega), f.keep h.c4 (by omega), f.keep h.c5 (by omega), h.B.get 6 (by decide) _⟩
end
set_option maxRecDepth 100000 in
set_option maxHeartbeats 1000000 in
theorem round_le (p n c P b : Nat) (acc : Int) (ng : Bool) (ex : Int) (w : World) (h : FS w p (P : Int) acc 1 ng (.slice (some ⟨b, 0, none⟩) n c) ex) (hn : n ≤ 1000) (hP : 64 * n ≤ P) (hP2 : P ≤ 100000) :
    Calls Tryz.prog 292 #[.pointer (some ⟨p, 0, none⟩), .int .u64 0] w fun e w' => e = .returned (.tuple #[]) ∧ w' = w.setCell ⟨p, 2, none⟩ (.int .i8 0) := by
  have h1 := h.put2 0
  have fz := h.B.fz 2
  have c2 := h.c2
  have d0 := h1.c0
  have d3 := h1.c3
  have d5 := h1.c5
  have q1 : (n : Int) * 64 ≤ (P : Int) := by omega
  clear h h1
  go_enter Tryz.func292, Tryz.ntmps292
  go_wp2_with fail
  go_returns
  exact ⟨rfl, rfl⟩
end Go.Proofs.YtldejfallphhbaaGreatDoor
namespace Go.Proofs.YtldejfallphhbaaGreatDoor
set_option linter.unusedVariables false
open Go.RowKit
set_option maxRecDepth 100000 in
set_option maxHeartbeats 1000000 in
theorem round_a (p n c P b z N D : Nat) (acc : Int) (ng : Bool) (ex : Int) (w : World) (h : FS w p (P : Int) acc 1 ng (.slice (some ⟨b, 0, none⟩) n c) ex) (hn1 : 1 ≤ n) (hn : n ≤ 40) (hnc : n ≤ c) (hD : P + D = 64 * n) (hD1 : 1 ≤ D) (hD2 : D < 64) (hb : Blk w b N) (hN : 1 ≤ N) (hne : p ≠ b) (hz : w.cell? ⟨b, 0, none⟩ = some (.int .u64 (z : Int))) (hzl : z < 18446744073709551616) (hz0 : z % 2 ^ D = 0) :
    Calls Tryz.prog 292 #[.pointer (some ⟨p, 0, none⟩), .int .u64 0] w fun e w' => e = .returned (.tuple #[]) ∧ w' = (w.setCell ⟨p, 2, none⟩ (.int .i8 0)).setCell ⟨b, 0, none⟩ (.int .u64 (z : Int)) := by
  have h1 := h.put2 0
  have hF : Fr w (w.setCell ⟨p, 2, none⟩ (.int .i8 0)) (fun k j => k = p ∧ j = 2) := FS.put 2 _
  have hb1 := hb.fr hF
  have dz := hF.keep hz (by omega)
  have fz := h.B.fz 2
  have fb := hb1.fz 0
  have c2 := h.c2
  have d0 := h1.c0
  have d1 := h1.c1
  have d3 := h1.c3
  have d5 := h1.c5
  obtain ⟨i, hi⟩ : ∃ i, i = D - 1 := ⟨_, rfl⟩
  have hi64 : i / 64 = 0 := by omega
  have hi64' : i % 64 = i := by omega
  have hzz : z = z / 2 ^ D * 2 ^ D := by
    have := Nat.div_add_mod z (2 ^ D)
    rw [hz0, Nat.add_zero, Nat.mul_comm] at this
    exact this.symm
  have hs1 : z / 2 ^ (i % 64) % 2 = 0 := by
    rw [hi64', hzz, show 2 ^ D = 2 * 2 ^ i from by rw [← Nat.pow_succ']; congr 1; omega, ← Nat.mul_assoc, Nat.mul_div_cancel _ (Nat.pow_pos (by decide))]
    omega
  have hs2 : z * 2 ^ (64 - i % 64) % 18446744073709551616 = 0 := by
    rw [hi64', hzz, Nat.mul_assoc, ← Nat.pow_add, show D + (64 - i) = 64 + 1 from by omega, Nat.pow_succ, ← Nat.mul_assoc, Nat.mul_right_comm]
    exact Nat.mul_mod_left _ _
  have KB := Lib.hid (bit_c b n c i 0 z (w.setCell ⟨p, 2, none⟩ (.int .i8 0)) (by omega) (by omega) hi64 dz hzl hs1)
  have KS := Lib.hid (sticky_c b n c i 0 z (w.setCell ⟨p, 2, none⟩ (.int .i8 0)) (by omega) hnc (by omega) hi64 (fun j hj => absurd hj (Nat.not_lt_zero _)) dz hs2)
  have KA := Lib.hid (andNot_low z D (by omega) hzl)
  rw [← hzz] at KA
  obtain ⟨T, hT⟩ : ∃ T, T = 64 * n := ⟨_, rfl⟩
  have q1 : (n : Int) * 64 = (T : Int) := by omega
  have q2 : ¬ (T : Int) ≤ (P : Int) := by omega
  have q3 : (T : Int) - (P : Int) = (D : Int) := by omega
  have q4 : (D : Int) - 1 = (i : Int) := by omega
  have q5 : ((P : Int) + 63) / 64 = (n : Int) := by omega
  have q6 : T ≤ 3000 := by omega
  have q7 : P ≤ 3000 := by omega
  obtain ⟨V, hV⟩ : ∃ V, V = 2 ^ D := ⟨_, rfl⟩
  have hVl : V < 18446744073709551616 := by rw [hV]; exact Nat.pow_lt_pow_right (by decide) (show D < 64 from hD2)
  have hVp : 1 ≤ V := by rw [hV]; exact Nat.pow_pos (by decide)
  have q8 : (2 : Int) ^ D = (V : Int) := by rw [hV, Int.natCast_pow]; rfl
  rw [← hV] at KA
  obtain ⟨V1, hV1⟩ : ∃ V1, V1 = V - 1 := ⟨_, rfl⟩
  have q9 : (V : Int) - 1 = (V1 : Int) := by omega
  rw [← hV1] at KA
  have qa : i ≤ 62 := by omega
  clear h h1 hF hb1 hb hi hi64 hi64' hs1 hs2 hzz hz0 hD hT hV hV1 hz
  go_enter Tryz.func292, Tryz.ntmps292
  go_wp2_with fail
  with_reducible refine KB.out.mono ?_
  rintro e w' ⟨rfl, rfl⟩
  go_wp2_with fail
  with_reducible refine KS.out.mono ?_
  rintro e w' ⟨rfl, rfl⟩
  have ka := KA.out
  go_wp2_with fail
  trace_state
  go_returns
  exact ⟨rfl, rfl⟩
end Go.Proofs.YtldejfallphhbaaGreatDoor
