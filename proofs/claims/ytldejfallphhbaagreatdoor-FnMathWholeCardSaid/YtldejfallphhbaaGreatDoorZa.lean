/-
  A part of the proof of FnMathWhole (packed out of smaller texts by a program of this session; what the proof does not reach is left out).
-/
import Ieee.Arith
import GoSem.Op.Unary
import Derived.Lib.Hide
namespace Go.Proofs.YtldejfallphhbaaGreatDoor
open Ieee
namespace Fl
def U (r : Nat) : Nat := if r < 4503599627370496 then r else (4503599627370496 + r % 4503599627370496) * 2 ^ (r / 4503599627370496 - 1)
theorem d_sign : double.signWeight = 9223372036854775808 := by decide
theorem d_bin : double.binade = 4503599627370496 := by decide
theorem d_inf : double.infRung = 9218868437227405312 := by decide
theorem d_least : double.leastPlace = -1074 := by decide
theorem d_frac : double.fractionBits = 52 := by decide
def sg (x : Nat) : Bool := x / 9223372036854775808 % 2 == 1
def rg (x : Nat) : Nat := x % 9223372036854775808
def Fin (x : Nat) : Prop := rg x < 9218868437227405312
theorem read_fin (x : Nat) (h : Fin x) : ∃ m i, double.read x = .number (sg x) m i ∧ m * 2 ^ (i + 1074).toNat = U (rg x) ∧ -1074 ≤ i ∧ i ≤ 971 ∧ m < 9007199254740992 := by
  unfold Fin at h
  unfold Format.read sg
  simp only [d_sign, d_bin, d_inf, d_least]
  rw [show x % 9223372036854775808 = rg x from rfl]
  generalize rg x = r at *
  unfold U
  split
  · exact ⟨_, _, rfl, by simp, by omega, by omega, by omega⟩
  · rename_i hr
    refine ⟨_, _, rfl, ?_, by omega, by omega, by omega⟩
    rw [show ((-1074 : Int) + ((r / 4503599627370496 - 1 : Nat) : Int) + 1074).toNat = r / 4503599627370496 - 1 from by omega]
theorem U_zero {r : Nat} (h : U r = 0) : r = 0 := by
  unfold U at h
  split at h
  · exact h
  · rcases Nat.mul_eq_zero.1 h with h | h
    · omega
    · exact absurd h (Nat.ne_of_gt (Nat.pow_pos (by decide)))
theorem log2_of {n k : Nat} (h1 : 2 ^ k ≤ n) (h2 : n < 2 ^ (k + 1)) : n.log2 = k := by
  have hn : n ≠ 0 := fun h => by
    have := Nat.pow_pos (n := k) (show 0 < 2 by decide)
    omega
  have a := (Nat.le_log2 hn).2 h1
  have b := (Nat.log2_lt hn).2 h2
  omega
theorem log2_mul (n p : Nat) (hn : n ≠ 0) : (n * 2 ^ p).log2 = n.log2 + p := by
  apply log2_of
  · rw [Nat.pow_add]; exact Nat.mul_le_mul_right _ (Nat.log2_self_le hn)
  · rw [show n.log2 + p + 1 = n.log2 + 1 + p from by omega, Nat.pow_add]
    exact Nat.mul_lt_mul_of_pos_right Nat.lt_log2_self (Nat.pow_pos (by decide))
theorem even_zero (s : Bool) (n : Nat) : Toward.even.cut s n 0 = n := by
  unfold Toward.cut
  simp [Nat.mod_one]
theorem even_exact (s : Bool) (q d : Nat) (hq : q ≠ 0) : Toward.even.cut s (q * 2 ^ d) d = q := by
  have hm : min d ((q * 2 ^ d).log2 + 2) = d := by rw [log2_mul q d hq]; omega
  have hp : 0 < 2 ^ d := Nat.pow_pos (by decide)
  unfold Toward.cut
  simp only [hm, Nat.one_shiftLeft, Nat.mul_div_cancel _ hp, Nat.mul_mod_left]
  have h1 : ¬ (2 ^ d < 2 * 0) := by omega
  have h2 : ((2 : Nat) ^ d == 2 * 0) = false := by
    rw [beq_eq_false_iff_ne]; omega
  simp [h2]
def wordOf (s : Bool) (r : Nat) : Nat := if s then 9223372036854775808 + r else r
theorem word_eq (s : Bool) (r : Nat) : double.word s r = wordOf s r := by
  unfold Format.word wordOf
  rw [d_sign]
theorem write_exact (s : Bool) (mag : Nat) (place : Int) (r : Nat) (hr : r < 9218868437227405312) (hp : -1074 ≤ place) (h : mag * 2 ^ (place + 1074).toNat = U r) : double.write (.number s mag place) = wordOf s r := by
  show double.nearest s mag place = _
  obtain ⟨p, hpp⟩ : ∃ p, p = (place + 1074).toNat := ⟨_, rfl⟩
  have hpl : place = (p : Int) - 1074 := by omega
  rw [← hpp] at h
  unfold Format.nearest
  rw [d_frac, d_least, d_bin, d_inf, word_eq]
  by_cases hm : mag = 0
  · subst hm
    rw [Nat.zero_mul] at h
    rw [if_pos rfl, U_zero h.symm]
  rw [if_neg hm]
  have hl := log2_mul mag p hm
  rw [h] at hl
  by_cases hs : r < 4503599627370496
  · have hU : U r = r := by unfold U; rw [if_pos hs]
    rw [hU] at h hl
    have hr0 : r ≠ 0 := fun e => by
      rw [e] at h
      rcases Nat.mul_eq_zero.1 h with h | h
      · exact hm h
      · exact absurd h (Nat.ne_of_gt (Nat.pow_pos (by decide)))
    have h52 : r.log2 < 52 := (Nat.log2_lt hr0).2 hs
    have hlast : max (place + (mag.log2 : Int) - ((52 : Nat) : Int)) (-1074) = -1074 := by omega
    dsimp only
    rw [hlast, word_eq, show (place - -1074).toNat = p from by omega, show ((-1074 : Int) - place).toNat = 0 from by omega, even_zero, Nat.shiftLeft_eq, h, show ((-1074 : Int) - -1074).toNat = 0 from by decide, Nat.zero_mul, Nat.zero_add, Nat.min_eq_left (by omega)]
  · obtain ⟨E, hE⟩ : ∃ E, r / 4503599627370496 = E + 1 := ⟨r / 4503599627370496 - 1, by omega⟩
    obtain ⟨q, hq⟩ : ∃ q, q = 4503599627370496 + r % 4503599627370496 := ⟨_, rfl⟩
    have hU : U r = q * 2 ^ E := by
      unfold U
      rw [if_neg hs, hE, ← hq, Nat.add_sub_cancel]
    have hq0 : q ≠ 0 := by omega
    rw [hU] at h hl
    rw [log2_mul q E hq0] at hl
    have hq52 : q.log2 = 52 := log2_of (by omega) (by omega)
    have hlast : max (place + (mag.log2 : Int) - ((52 : Nat) : Int)) (-1074) = (E : Int) - 1074 := by omega
    have hfin : E * 4503599627370496 + q = r := by omega
    have key : Toward.even.cut s (mag <<< (place - ((E : Int) - 1074)).toNat) (((E : Int) - 1074) - place).toNat = q := by
      by_cases hpe : E ≤ p
      · rw [show (place - ((E : Int) - 1074)).toNat = p - E from by omega, show (((E : Int) - 1074) - place).toNat = 0 from by omega, even_zero, Nat.shiftLeft_eq]
        have e : 2 ^ p = 2 ^ (p - E) * 2 ^ E := by rw [← Nat.pow_add]; congr 1; omega
        rw [e, ← Nat.mul_assoc] at h
        exact Nat.eq_of_mul_eq_mul_right (Nat.pow_pos (by decide)) h
      · rw [show (place - ((E : Int) - 1074)).toNat = 0 from by omega, show (((E : Int) - 1074) - place).toNat = E - p from by omega, Nat.shiftLeft_zero]
        have e : 2 ^ E = 2 ^ (E - p) * 2 ^ p := by rw [← Nat.pow_add]; congr 1; omega
        rw [e, ← Nat.mul_assoc] at h
        rw [Nat.eq_of_mul_eq_mul_right (Nat.pow_pos (by decide)) h]
        exact even_exact s q (E - p) hq0
    dsimp only
    rw [hlast, word_eq, key, show ((E : Int) - 1074 - -1074).toNat = E from by omega, hfin, Nat.min_eq_left (by omega)]
theorem rep (m k : Nat) (hm : m ≤ 9007199254740992) (hk : k ≤ 1990) : ∃ r, r < 9218868437227405312 ∧ U r = m * 2 ^ k := by
  have main : ∀ m k : Nat, m < 9007199254740992 → k ≤ 2045 → ∃ r, r < 9218868437227405312 ∧ U r = m * 2 ^ k := by
    intro m k hm hk
    by_cases h0 : m = 0
    · exact ⟨0, by decide, by rw [h0, Nat.zero_mul]; rfl⟩
    have hL : m.log2 < 53 := (Nat.log2_lt h0).2 hm
    by_cases hs : k ≤ 52 - m.log2
    · have hlt : m * 2 ^ k < 2 ^ 53 := by
        have h1 : m * 2 ^ k < 2 ^ (m.log2 + 1) * 2 ^ k := Nat.mul_lt_mul_of_pos_right Nat.lt_log2_self (Nat.pow_pos (by decide))
        rw [← Nat.pow_add] at h1
        exact Nat.lt_of_lt_of_le h1 (Nat.pow_le_pow_right (by decide) (by omega))
      generalize m * 2 ^ k = N at *
      have hlt' : N < 9007199254740992 := hlt
      refine ⟨N, by omega, ?_⟩
      unfold U
      split
      · rfl
      · rw [show N / 4503599627370496 - 1 = 0 from by omega, Nat.pow_zero, Nat.mul_one]; omega
    · obtain ⟨q, hq⟩ : ∃ q, q = m * 2 ^ (52 - m.log2) := ⟨_, rfl⟩
      have q1 : 2 ^ 52 ≤ q := by
        have := Nat.mul_le_mul_right (2 ^ (52 - m.log2)) (Nat.log2_self_le h0)
        rw [← Nat.pow_add, show m.log2 + (52 - m.log2) = 52 from by omega] at this
        omega
      have q2 : q < 2 ^ 53 := by
        have : m * 2 ^ (52 - m.log2) < 2 ^ (m.log2 + 1) * 2 ^ (52 - m.log2) := Nat.mul_lt_mul_of_pos_right Nat.lt_log2_self (Nat.pow_pos (by decide))
        rw [← Nat.pow_add, show m.log2 + 1 + (52 - m.log2) = 53 from by omega] at this
        omega
      obtain ⟨j, hj⟩ : ∃ j, k = (52 - m.log2) + (j + 1) := ⟨k - (52 - m.log2) - 1, by omega⟩
      have q1' : 4503599627370496 ≤ q := q1
      have q2' : q < 9007199254740992 := q2
      refine ⟨(j + 1) * 4503599627370496 + q, by omega, ?_⟩
      unfold U
      rw [if_neg (by omega), show ((j + 1) * 4503599627370496 + q) / 4503599627370496 - 1 = j + 1 from by omega, show 4503599627370496 + ((j + 1) * 4503599627370496 + q) % 4503599627370496 = q from by omega, hq, Nat.mul_assoc, ← Nat.pow_add, ← hj]
  by_cases h : m = 9007199254740992
  · obtain ⟨r, h1, h2⟩ := main 1 (k + 53 - 0) (by decide) (by omega) |> fun h => h
    exact ⟨r, h1, by rw [h2, h, Nat.one_mul, Nat.sub_zero, Nat.pow_add, Nat.mul_comm]⟩
  · exact main m k (by omega) (by omega)
end Fl
end Go.Proofs.YtldejfallphhbaaGreatDoor
namespace Go.Proofs.YtldejfallphhbaaGreatDoor
open Ieee
namespace Fl
def B : Nat := 2 ^ 1074
set_option exponentiation.threshold 2500
theorem B_of (a b : Nat) (h : a + b = 1074) : 2 ^ a * 2 ^ b = B := by unfold B; rw [← Nat.pow_add, h]
theorem B_pos : 0 < B := Nat.pow_pos (by decide)
def sU (x : Nat) : Int := if sg x then -(U (rg x) : Int) else (U (rg x) : Int)
theorem cmp_scale (a b : Int) (c : Nat) (hc : 0 < c) : compare (a * c) (b * c) = compare a b := by
  have hc' : (0 : Int) < (c : Int) := by omega
  show compareOfLessAndEq _ _ = compareOfLessAndEq _ _
  unfold compareOfLessAndEq
  rcases Int.lt_trichotomy a b with h | h | h
  · rw [if_pos h, if_pos (Int.mul_lt_mul_of_pos_right h hc')]
  · subst h; simp
  · have h2 := Int.mul_lt_mul_of_pos_right h hc'
    rw [if_neg (by omega), if_neg (by omega), if_neg (by omega), if_neg (by omega)]
theorem signed_scale (s : Bool) (m a c : Nat) : signed s m a * ((2 ^ c : Nat) : Int) = if s then -((m * 2 ^ (a + c) : Nat) : Int) else ((m * 2 ^ (a + c) : Nat) : Int) := by
  unfold signed
  rw [Nat.pow_add, ← Nat.mul_assoc, Nat.shiftLeft_eq]
  cases s
  · simp
  · simp [Int.neg_mul]
theorem order_fin (x y : Nat) (hx : Fin x) (hy : Fin y) : double.order x y = some (compare (sU x) (sU y)) := by
  obtain ⟨m, i, hr, hu, h1, _, _⟩ := read_fin x hx
  obtain ⟨n, j, hs, hv, h2, _, _⟩ := read_fin y hy
  unfold Format.order
  rw [hr, hs]
  show some (compare (signed (sg x) m (i - min i j).toNat) (signed (sg y) n (j - min i j).toNat)) = _
  rw [← cmp_scale _ _ (2 ^ (min i j + 1074).toNat) (Nat.pow_pos (by decide)), signed_scale, signed_scale, show (i - min i j).toNat + (min i j + 1074).toNat = (i + 1074).toNat from by omega, show (j - min i j).toNat + (min i j + 1074).toNat = (j + 1074).toNat from by omega, hu, hv]
  rfl
def more (way : Toward) (s : Bool) (t : Bool) : Bool := match way with
  | .down => s && t
  | .up => !s && t
  | _ => false
theorem cut_law (way : Toward) (hw : way ≠ .even) (s : Bool) (n d : Nat) : way.cut s n d = n / 2 ^ d + (more way s (n % 2 ^ d != 0)).toNat := by
  have key : n / (1 <<< min d (n.log2 + 2)) = n / 2 ^ d ∧ (n % (1 <<< min d (n.log2 + 2)) != 0) = (n % 2 ^ d != 0) := by
    rw [Nat.one_shiftLeft]
    by_cases h : d ≤ n.log2 + 2
    · rw [Nat.min_eq_left h]; exact ⟨rfl, rfl⟩
    · have h1 : n < 2 ^ (n.log2 + 2) := Nat.lt_of_lt_of_le Nat.lt_log2_self (Nat.pow_le_pow_right (by decide) (by omega))
      have h2 : n < 2 ^ d := Nat.lt_of_lt_of_le h1 (Nat.pow_le_pow_right (by decide) (by omega))
      rw [Nat.min_eq_right (by omega), Nat.div_eq_of_lt h1, Nat.div_eq_of_lt h2, Nat.mod_eq_of_lt h1, Nat.mod_eq_of_lt h2]
      exact ⟨rfl, rfl⟩
  unfold Toward.cut
  simp only [key.1, key.2]
  cases way
  · exact absurd rfl hw
  · rfl
  · rfl
  · rfl
theorem whole_digits (m : Nat) (i : Int) (h : -1074 ≤ i) (M : Nat) (hM : m * 2 ^ (i + 1074).toNat = M) : (m <<< i.toNat) / 2 ^ (-i).toNat = M / B ∧ (((m <<< i.toNat) % 2 ^ (-i).toNat != 0) = (M % B != 0)) ∧ M % B = (m <<< i.toNat) % 2 ^ (-i).toNat * 2 ^ (1074 - (-i).toNat) := by
  subst hM
  rw [Nat.shiftLeft_eq]
  by_cases h0 : 0 ≤ i
  · rw [show (-i).toNat = 0 from by omega, show (i + 1074).toNat = i.toNat + 1074 from by omega, Nat.pow_add, ← Nat.mul_assoc]
    show _ = _ * B / B ∧ (_ = (_ * B % B != 0)) ∧ _ * B % B = _
    rw [Nat.mul_div_cancel _ B_pos, Nat.mul_mod_left, Nat.pow_zero, Nat.div_one, Nat.mod_one, Nat.zero_mul]
    exact ⟨rfl, rfl, rfl⟩
  · rw [show i.toNat = 0 from by omega, Nat.pow_zero, Nat.mul_one, show (i + 1074).toNat = 1074 - (-i).toNat from by omega]
    have e : B = 2 ^ (-i).toNat * 2 ^ (1074 - (-i).toNat) := by
      unfold B; rw [← Nat.pow_add]; congr 1; omega
    have hp : 0 < 2 ^ (1074 - (-i).toNat) := Nat.pow_pos (by decide)
    rw [e, Nat.mul_div_mul_right _ _ hp, Nat.mul_mod_mul_right]
    refine ⟨rfl, ?_, rfl⟩
    generalize m % 2 ^ (-i).toNat = z
    rw [Bool.eq_iff_iff]
    simp only [bne_iff_ne, ne_eq, Nat.mul_eq_zero]
    constructor
    · intro h1 h2; rcases h2 with h2 | h2
      · exact h1 h2
      · exact absurd h2 (Nat.ne_of_gt hp)
    · intro h1 h2; exact h1 (Or.inl h2)
def wholeN (way : Toward) (x : Nat) : Nat := U (rg x) / B + (more way (sg x) (U (rg x) % B != 0)).toNat
theorem integral_law (way : Toward) (hw : way ≠ .even) (x : Nat) (hx : Fin x) : (double.read x).integral way = .number (sg x) (wholeN way x) 0 := by
  obtain ⟨m, i, hr, hu, h1, _, _⟩ := read_fin x hx
  obtain ⟨a, b, _⟩ := whole_digits m i h1 _ hu
  rw [hr]
  show Datum.number (sg x) (way.cut (sg x) (m <<< i.toNat) (-i).toNat) 0 = _
  rw [cut_law way hw, a, b]
  rfl
theorem rep_rest (x : Nat) (hx : Fin x) : ∃ r, r < 9218868437227405312 ∧ U r = U (rg x) % B := by
  obtain ⟨m, i, hr, hu, h1, _, hm⟩ := read_fin x hx
  obtain ⟨_, _, c⟩ := whole_digits m i h1 _ hu
  rw [c]
  refine rep _ _ ?_ (by omega)
  by_cases h0 : 0 ≤ i
  · rw [show (-i).toNat = 0 from by omega, Nat.pow_zero, Nat.mod_one]; omega
  · rw [show i.toNat = 0 from by omega, Nat.shiftLeft_zero]
    exact Nat.le_trans (Nat.mod_le _ _) (by omega)
theorem rep_whole (way : Toward) (x : Nat) (hx : Fin x) : ∃ r, r < 9218868437227405312 ∧ U r = wholeN way x * B := by
  by_cases h : U (rg x) % B = 0
  · refine ⟨rg x, hx, ?_⟩
    unfold wholeN
    have e : more way (sg x) (U (rg x) % B != 0) = false := by
      rw [h]; cases way <;> simp [more]
    rw [e]
    show _ = (_ + 0) * B
    rw [Nat.add_zero, Nat.div_mul_cancel (Nat.dvd_of_mod_eq_zero h)]
  · obtain ⟨m, i, hr, hu, h1, _, hm⟩ := read_fin x hx
    obtain ⟨a, _, c⟩ := whole_digits m i h1 _ hu
    have hi : i < 0 := by
      by_cases h0 : i < 0
      · exact h0
      · rw [show (-i).toNat = 0 from by omega, Nat.pow_zero, Nat.mod_one, Nat.zero_mul] at c
        exact absurd c h
    refine rep _ 1074 ?_ (by omega)
    have ht : (more way (sg x) (U (rg x) % B != 0)).toNat ≤ 1 := Bool.toNat_le _
    unfold wholeN
    rw [← a, show i.toNat = 0 from by omega, Nat.shiftLeft_zero]
    have : m / 2 ^ (-i).toNat ≤ m / 2 ^ 1 := Nat.div_le_div_left (Nat.pow_le_pow_right (by decide) (by omega)) (by decide)
    omega
theorem encode_integral (way : Toward) (hw : way ≠ .even) (x : Nat) (hx : Fin x) : ∃ r, r < 9218868437227405312 ∧ U r = wholeN way x * B ∧ double.write ((double.read x).integral way) = wordOf (sg x) r := by
  obtain ⟨r, h1, h2⟩ := rep_whole way x hx
  refine ⟨r, h1, h2, ?_⟩
  rw [integral_law way hw x hx]
  refine write_exact _ _ _ _ h1 (by decide) ?_
  rw [h2]; rfl
theorem wordOf_lt (s : Bool) (r : Nat) (h : r < 9218868437227405312) : wordOf s r < 18446744073709551616 := by
  unfold wordOf; split <;> omega
theorem sg_word (s : Bool) (r : Nat) (h : r < 9218868437227405312) : sg (wordOf s r) = s := by
  unfold sg wordOf
  cases s
  · rw [if_neg (by decide), show r / 9223372036854775808 = 0 from by omega]; rfl
  · rw [if_pos rfl, show (9223372036854775808 + r) / 9223372036854775808 = 1 from by omega]; rfl
theorem rg_word (s : Bool) (r : Nat) (h : r < 9218868437227405312) : rg (wordOf s r) = r := by
  unfold rg wordOf
  cases s
  · rw [if_neg (by decide)]; omega
  · rw [if_pos rfl]; omega
theorem fin_word (s : Bool) (r : Nat) (h : r < 9218868437227405312) : Fin (wordOf s r) := by
  unfold Fin; rw [rg_word s r h]; exact h
theorem toInt_whole (y N : Nat) (hy : Fin y) (h : U (rg y) = N * B) : (double.read y).toInt .zero = some (if sg y then -(N : Int) else (N : Int)) := by
  unfold Datum.toInt
  rw [integral_law .zero (by decide) y hy]
  have : wholeN .zero y = N := by
    unfold wholeN
    rw [h, Nat.mul_div_cancel _ B_pos]; rfl
  rw [this]
  show some (signed (sg y) N 0) = _
  unfold signed
  rfl
theorem sub_exact (a b r : Nat) (ha : Fin a) (hb : Fin b) (sa : sg a = false) (sb : sg b = false) (hr : r < 9218868437227405312) (h : U r + U (rg b) = U (rg a)) : double.sub a b = some r := by
  obtain ⟨m, i, e1, hu, h1, _, _⟩ := read_fin a ha
  obtain ⟨n, j, e2, hv, h2, _, _⟩ := read_fin b hb
  unfold Format.sub
  rw [e1, e2, sa, sb]
  show some (double.write (.number (if signed false m (i - min i j).toNat + signed true n (j - min i j).toNat = 0 then false && true else decide (signed false m (i - min i j).toNat + signed true n (j - min i j).toNat < 0)) (signed false m (i - min i j).toNat + signed true n (j - min i j).toNat).natAbs (min i j))) = _
  obtain ⟨T, hT⟩ : ∃ T, T = signed false m (i - min i j).toNat + signed true n (j - min i j).toNat := ⟨_, rfl⟩
  have hc : (0 : Int) < ((2 ^ (min i j + 1074).toNat : Nat) : Int) := by
    have : 0 < 2 ^ (min i j + 1074).toNat := Nat.pow_pos (by decide)
    omega
  have hm : T * ((2 ^ (min i j + 1074).toNat : Nat) : Int) = ((U r : Nat) : Int) := by
    rw [hT, Int.add_mul, signed_scale, signed_scale, show (i - min i j).toNat + (min i j + 1074).toNat = (i + 1074).toNat from by omega, show (j - min i j).toNat + (min i j + 1074).toNat = (j + 1074).toNat from by omega, hu, hv]
    simp
    omega
  rw [← hT]
  have h0 : 0 ≤ T := by
    rcases Int.lt_or_le T 0 with h | h
    · have := Int.mul_neg_of_neg_of_pos h hc
      omega
    · exact h
  obtain ⟨t, rfl⟩ := Int.eq_ofNat_of_zero_le h0
  have hd : decide (((t : Nat) : Int) < 0) = false := by simp
  rw [hd]
  have hs : (if ((t : Nat) : Int) = 0 then false && true else false) = false := by split <;> rfl
  rw [hs, write_exact false _ _ r hr (by omega) (by
    rw [Int.natAbs_natCast]; exact Int.ofNat_inj.1 ((Int.natCast_mul _ _).trans hm))]
  rfl
theorem neg_xor (x : Nat) (h : x < 18446744073709551616) : Go.Op.negFloat .f64 x = wordOf (!sg x) (rg x) := by
  have hm : (x ^^^ 2 ^ 63) % 2 ^ 63 = x % 2 ^ 63 := by rw [Nat.xor_mod_two_pow, Nat.mod_self, Nat.xor_zero]
  have hd : (x ^^^ 2 ^ 63) / 2 ^ 63 = x / 2 ^ 63 ^^^ 1 := by rw [Nat.xor_div_two_pow, Nat.div_self (Nat.pow_pos (by decide))]
  show x ^^^ 2 ^ 63 = _
  generalize x ^^^ 2 ^ 63 = z at *
  have hz := Nat.div_add_mod z (2 ^ 63)
  rw [hm, hd] at hz
  rw [← hz]
  unfold wordOf sg rg
  have hq : x / 9223372036854775808 = 0 ∨ x / 9223372036854775808 = 1 := by omega
  show 9223372036854775808 * (x / 9223372036854775808 ^^^ 1) + x % 9223372036854775808 = _
  rcases hq with hq | hq
  · rw [hq]; simp
  · rw [hq]; simp
theorem mant_law (x : Nat) : (if rg x / 4503599627370496 = 0 then rg x % 4503599627370496 else rg x % 4503599627370496 + 4503599627370496) * 2 ^ (rg x / 4503599627370496 - 1) = U (rg x) := by
  unfold U
  generalize rg x = r
  by_cases h : r < 4503599627370496
  · rw [if_pos h, if_pos (by omega), show r / 4503599627370496 - 1 = 0 from by omega, Nat.pow_zero, Nat.mul_one]; omega
  · rw [if_neg h, if_neg (by omega), Nat.add_comm]
theorem U_rung (j q : Nat) (h1 : 4503599627370496 ≤ q) (h2 : q ≤ 9007199254740992) : U (j * 4503599627370496 + q) = q * 2 ^ j := by
  unfold U
  rw [if_neg (by omega)]
  by_cases h : q = 9007199254740992
  · subst h
    rw [show (j * 4503599627370496 + 9007199254740992) % 4503599627370496 = 0 from by omega, show (j * 4503599627370496 + 9007199254740992) / 4503599627370496 - 1 = j + 1 from by omega, Nat.pow_succ, Nat.add_zero]
    omega
  · rw [show (j * 4503599627370496 + q) % 4503599627370496 = q - 4503599627370496 from by omega, show (j * 4503599627370496 + q) / 4503599627370496 - 1 = j from by omega, show 4503599627370496 + (q - 4503599627370496) = q from by omega]
def H : Nat := 2 ^ 1073
theorem H_of (a b : Nat) (h : a + b = 1073) : 2 ^ a * 2 ^ b = H := by unfold H; rw [← Nat.pow_add, h]
theorem B_mul (j E : Nat) (h : j + 1074 = E) : 2 ^ j * B = 2 ^ E := by unfold B; rw [← Nat.pow_add, h]
theorem B_H : B = 2 * H := by unfold B H; rw [← Nat.pow_succ']
def roundBits (x : Nat) : Nat :=
  if x / 4503599627370496 % 2048 < 1023 then x / 9223372036854775808 * 9223372036854775808 + if x / 4503599627370496 % 2048 = 1022 then 4607182418800017408 else 0
  else if x / 4503599627370496 % 2048 < 1075 then (x + 2 ^ (1074 - x / 4503599627370496 % 2048)) / 2 ^ (1075 - x / 4503599627370496 % 2048) * 2 ^ (1075 - x / 4503599627370496 % 2048)
  else x
def nearN (M : Nat) : Nat := M / B + if H ≤ M % B then 1 else 0
theorem half_up (q h : Nat) (hh : 0 < h) : (q + h) / (2 * h) = q / (2 * h) + if h ≤ q % (2 * h) then 1 else 0 := by
  have e := Nat.div_add_mod q (2 * h)
  have l := Nat.mod_lt q (show 0 < 2 * h by omega)
  generalize q / (2 * h) = a at *
  generalize q % (2 * h) = b at *
  subst e
  rw [Nat.add_assoc, Nat.mul_add_div (by omega)]
  congr 1
  split
  · rw [show b + h = (b - h) + 2 * h from by omega, Nat.add_div_right _ (by omega), Nat.div_eq_of_lt (by omega)]
  · exact Nat.div_eq_of_lt (by omega)
theorem round_law (x : Nat) (hx : x < 18446744073709551616) (hf : Fin x) : ∃ r, r < 9218868437227405312 ∧ roundBits x = wordOf (sg x) r ∧ U r = nearN (U (rg x)) * B := by
  have hE : x / 4503599627370496 % 2048 = rg x / 4503599627370496 := by unfold rg; omega
  have hs : x = x / 9223372036854775808 * 9223372036854775808 + rg x := by unfold rg; omega
  have hs2 : x / 9223372036854775808 = 0 ∨ x / 9223372036854775808 = 1 := by omega
  have hw : ∀ c, x / 9223372036854775808 * 9223372036854775808 + c = wordOf (sg x) c := fun c => by
    unfold wordOf sg
    rcases hs2 with h | h
    · rw [h]; simp
    · rw [h]; simp
  unfold roundBits
  rw [hE]
  have hM := mant_law x
  unfold Fin at hf
  generalize x / 9223372036854775808 = s at *
  generalize rg x = r at *
  obtain ⟨q, hq⟩ : ∃ q, q = (if r / 4503599627370496 = 0 then r % 4503599627370496 else r % 4503599627370496 + 4503599627370496) := ⟨_, rfl⟩
  rw [← hq] at hM
  have hq53 : q < 9007199254740992 := by rw [hq]; split <;> omega
  by_cases h1 : r / 4503599627370496 < 1023
  · rw [if_pos h1]
    have hlt : U r < B := by
      rw [← hM]
      have a : q * 2 ^ (r / 4503599627370496 - 1) ≤ q * 2 ^ 1021 := Nat.mul_le_mul_left _ (Nat.pow_le_pow_right (by decide) (by omega))
      have b : q * 2 ^ 1021 < 2 ^ 53 * 2 ^ 1021 := Nat.mul_lt_mul_of_pos_right (by omega) (Nat.pow_pos (by decide))
      rw [← Nat.pow_add] at b
      exact Nat.lt_of_le_of_lt a b
    unfold nearN
    rw [Nat.div_eq_of_lt hlt, Nat.mod_eq_of_lt hlt]
    by_cases h2 : r / 4503599627370496 = 1022
    · refine ⟨4607182418800017408, by decide, ?_, ?_⟩
      · rw [if_pos h2]; exact hw _
      · have hge : H ≤ U r := by
          rw [← hM, h2]
          have : q ≥ 2 ^ 52 := by rw [hq, if_neg (by omega)]; omega
          have b : 2 ^ 52 * 2 ^ 1021 ≤ q * 2 ^ 1021 := Nat.mul_le_mul_right _ this
          rw [← Nat.pow_add] at b
          exact b
        rw [if_pos hge, Nat.zero_add, Nat.one_mul]
        have := U_rung 1022 4503599627370496 (Nat.le_refl _) (by decide)
        rw [show 1022 * 4503599627370496 + 4503599627370496 = 4607182418800017408 from by decide] at this
        rw [this]
        have e := B_of 52 1022 (by decide)
        rwa [show (2 : Nat) ^ 52 = 4503599627370496 from by decide] at e
    · refine ⟨0, by decide, ?_, ?_⟩
      · rw [if_neg h2]; exact hw _
      · have hlt2 : U r < H := by
          rw [← hM]
          have a : q * 2 ^ (r / 4503599627370496 - 1) ≤ q * 2 ^ 1020 := Nat.mul_le_mul_left _ (Nat.pow_le_pow_right (by decide) (by omega))
          have b : q * 2 ^ 1020 < 2 ^ 53 * 2 ^ 1020 := Nat.mul_lt_mul_of_pos_right (by omega) (Nat.pow_pos (by decide))
          rw [← Nat.pow_add] at b
          exact Nat.lt_of_le_of_lt a b
        rw [if_neg (by omega), Nat.zero_add, Nat.zero_mul]; rfl
  · rw [if_neg h1]
    have hq52 : 4503599627370496 ≤ q := by rw [hq, if_neg (by omega)]; omega
    have hr : r = (r / 4503599627370496 - 1) * 4503599627370496 + q := by rw [hq, if_neg (by omega)]; omega
    obtain ⟨E, hEE⟩ : ∃ E, r / 4503599627370496 = E + 1 := ⟨r / 4503599627370496 - 1, by omega⟩
    rw [hEE] at hM hr h1 ⊢
    rw [Nat.add_sub_cancel] at hM hr
    by_cases h2 : E + 1 < 1075
    · rw [if_pos h2]
      obtain ⟨g, hg⟩ : ∃ g, 1075 - (E + 1) = g + 1 := ⟨1075 - (E + 1) - 1, by omega⟩
      rw [hg, show 1074 - (E + 1) = g from by omega]
      obtain ⟨h, hh⟩ : ∃ h, h = 2 ^ g := ⟨_, rfl⟩
      have hp : 0 < h := by rw [hh]; exact Nat.pow_pos (by decide)
      rw [Nat.pow_succ', ← hh]
      obtain ⟨A, hA⟩ : ∃ A, A = 2 ^ (51 - g) := ⟨_, rfl⟩
      have hGA : 2 * h * A = 4503599627370496 := by
        rw [hA, hh, ← Nat.pow_succ', ← Nat.pow_add, show g + 1 + (51 - g) = 52 from by omega]
      have hX : x + h = 2 * h * (A * (s * 2048 + E)) + (q + h) := by
        rw [← Nat.mul_assoc, hGA]; omega
      rw [hX, Nat.mul_add_div (by omega), half_up q h hp]
      have hBB : B = 2 * h * 2 ^ E := by
        rw [hh, ← Nat.pow_succ', B_of _ _ (by omega)]
      have hHH : H = h * 2 ^ E := by
        rw [hh, H_of _ _ (by omega)]
      have hpE : 0 < 2 ^ E := Nat.pow_pos (by decide)
      have hN : nearN (U r) = q / (2 * h) + if h ≤ q % (2 * h) then 1 else 0 := by
        unfold nearN
        rw [← hM, hBB, hHH, Nat.mul_div_mul_right _ _ hpE, Nat.mul_mod_mul_right]
        have : (h * 2 ^ E ≤ q % (2 * h) * 2 ^ E) = (h ≤ q % (2 * h)) := propext (Nat.mul_le_mul_right_iff hpE)
        simp only [this]
      rw [hN]
      obtain ⟨N, hNN⟩ : ∃ N, N = q / (2 * h) + if h ≤ q % (2 * h) then 1 else 0 := ⟨_, rfl⟩
      rw [← hNN]
      have b1 : A ≤ q / (2 * h) := by
        rw [Nat.le_div_iff_mul_le (by omega), Nat.mul_comm, hGA]; exact hq52
      have b2 : q / (2 * h) < 2 * A := by
        rw [Nat.div_lt_iff_lt_mul (by omega), Nat.mul_comm, Nat.mul_left_comm, hGA]; omega
      have b3 : A ≤ N ∧ N ≤ 2 * A := by rw [hNN]; split <;> omega
      have c1 : 4503599627370496 ≤ N * (2 * h) := by
        rw [← hGA, Nat.mul_comm N]; exact Nat.mul_le_mul_left _ b3.1
      have c2 : N * (2 * h) ≤ 9007199254740992 := by
        have : 2 * h * N ≤ 2 * h * (2 * A) := Nat.mul_le_mul_left _ b3.2
        rw [Nat.mul_left_comm, hGA] at this
        rw [Nat.mul_comm]; omega
      refine ⟨E * 4503599627370496 + N * (2 * h), by omega, ?_, ?_⟩
      · rw [← hw, Nat.add_mul, Nat.mul_comm (A * _), ← Nat.mul_assoc, hGA]; omega
      · rw [U_rung _ _ c1 c2, hBB, Nat.mul_assoc]
    · rw [if_neg h2]
      refine ⟨r, hf, by rw [← hw]; exact hs, ?_⟩
      have hBE : U r = q * 2 ^ (E - 1074) * B := by
        rw [← hM, Nat.mul_assoc, B_mul _ E (by omega)]
      have hH : 0 < H := Nat.pow_pos (by decide)
      unfold nearN
      rw [hBE, Nat.mul_div_cancel _ B_pos, Nat.mul_mod_left, if_neg (by omega), Nat.add_zero]
end Fl
end Go.Proofs.YtldejfallphhbaaGreatDoor
namespace Go.Proofs.YtldejfallphhbaaGreatDoor
open Ieee
namespace Fl
theorem cmp_int (a b : Int) : compare a b = if a < b then .lt else if a = b then .eq else .gt := rfl
theorem ord_le (a b : Int) : (some (compare a b) == some Ordering.lt || some (compare a b) == some Ordering.eq) = decide (a ≤ b) := by
  rw [cmp_int]
  by_cases h : a < b
  · rw [if_pos h]; simp; omega
  · rw [if_neg h]
    by_cases h2 : a = b
    · rw [if_pos h2]; simp; omega
    · rw [if_neg h2]; simp; omega
theorem ord_lt (a b : Int) : (some (compare a b) == some Ordering.lt) = decide (a < b) := by
  rw [cmp_int]
  by_cases h : a < b
  · rw [if_pos h]; simp; omega
  · rw [if_neg h]
    by_cases h2 : a = b
    · rw [if_pos h2]; simp; omega
    · rw [if_neg h2]; simp; omega
theorem ord_ge (a b : Int) : (some (compare a b) == some Ordering.gt || some (compare a b) == some Ordering.eq) = decide (b ≤ a) := by
  rw [cmp_int]
  by_cases h : a < b
  · rw [if_pos h]; simp; omega
  · rw [if_neg h]
    by_cases h2 : a = b
    · rw [if_pos h2]; simp; omega
    · rw [if_neg h2]; simp; omega
theorem pws (m k n C : Nat) (e : 2 ^ 63 * C = 2 ^ n) (h : m + k = n) : 2 ^ m * 2 ^ k = 2 ^ 63 * C := by rw [e, ← Nat.pow_add, h]
theorem U_63 : U 4890909195324358656 = 9223372036854775808 * B := by
  have h := U_rung 1085 4503599627370496 (Nat.le_refl _) (by decide)
  rw [show 1085 * 4503599627370496 + 4503599627370496 = 4890909195324358656 from by decide] at h
  have e := B_mul 63 1137 (by decide)
  generalize B = C at *
  rw [h, show (4503599627370496 : Nat) = 2 ^ 52 from by decide, show (9223372036854775808 : Nat) = 2 ^ 63 from by decide]
  exact pws 52 1085 1137 C e rfl
theorem fin_63 : Fin 4890909195324358656 := by unfold Fin rg; decide
theorem fin_m63 : Fin 14114281232179134464 := by unfold Fin rg; decide
theorem sU_63 : sU 4890909195324358656 = ((9223372036854775808 * B : Nat) : Int) := by
  have h1 : sg 4890909195324358656 = false := by decide
  have h2 : rg 4890909195324358656 = 4890909195324358656 := by decide
  unfold sU
  rw [h1, h2, U_63]; rfl
theorem sU_m63 : sU 14114281232179134464 = -((9223372036854775808 * B : Nat) : Int) := by
  have h1 : sg 14114281232179134464 = true := by decide
  have h2 : rg 14114281232179134464 = 4890909195324358656 := by decide
  unfold sU
  rw [h1, h2, U_63]; rfl
theorem sU_0 : sU 0 = 0 := by decide
theorem fin_0 : Fin 0 := by unfold Fin rg; decide
def iv (s : Bool) (N : Nat) : Int := if s then -(N : Int) else (N : Int)
theorem sU_iv {y N : Nat} (h : U (rg y) = N * B) : sU y = iv (sg y) N * (B : Int) := by
  unfold sU iv
  rw [h, Int.natCast_mul]
  cases sg y
  · rfl
  · simp only [if_true]; rw [Int.neg_mul]
theorem le_63 {y N : Nat} (hf : Fin y) (h : U (rg y) = N * B) : (double.order 14114281232179134464 y == some Ordering.lt || double.order 14114281232179134464 y == some Ordering.eq) = decide (-9223372036854775808 ≤ iv (sg y) N) := by
  rw [order_fin _ _ fin_m63 hf, ord_le, sU_m63, sU_iv h]
  have hB : (0 : Int) < (B : Int) := by have := B_pos; omega
  rw [show -((9223372036854775808 * B : Nat) : Int) = -9223372036854775808 * (B : Int) from by rw [Int.natCast_mul, Int.neg_mul]; rfl]
  have : (-9223372036854775808 * (B : Int) ≤ iv (sg y) N * (B : Int)) = (-9223372036854775808 ≤ iv (sg y) N) := propext (Int.mul_le_mul_iff_of_pos_right hB)
  simp only [this]
theorem lt_63 {y N : Nat} (hf : Fin y) (h : U (rg y) = N * B) : (double.order y 4890909195324358656 == some Ordering.lt) = decide (iv (sg y) N < 9223372036854775808) := by
  rw [order_fin _ _ hf fin_63, ord_lt, sU_63, sU_iv h]
  have hB : (0 : Int) < (B : Int) := by have := B_pos; omega
  rw [Int.natCast_mul]
  have : (iv (sg y) N * (B : Int) < ((9223372036854775808 : Nat) : Int) * (B : Int)) = (iv (sg y) N < 9223372036854775808) := propext (Int.mul_lt_mul_right hB)
  simp only [this]
theorem order_zero {y N : Nat} (hf : Fin y) (h : U (rg y) = N * B) (hN : 1 ≤ N) : double.order y 0 = some (if sg y then .lt else .gt) := by
  rw [order_fin _ _ hf fin_0, sU_0, sU_iv h, cmp_int]
  have hB : (0 : Int) < (B : Int) := by have := B_pos; omega
  have hN' : (0 : Int) < (N : Int) := by omega
  have hp := Int.mul_pos hN' hB
  unfold iv
  cases sg y
  · simp only [Bool.false_eq_true, if_false]
    rw [if_neg (by omega), if_neg (by omega)]
  · simp only [if_true]
    rw [Int.neg_mul, if_pos (by omega)]
theorem ple (a b : Nat) (h : a ≤ b) : 2 ^ a ≤ 2 ^ b := Nat.pow_le_pow_right (by decide) h
theorem mlt (q m k : Nat) (h : q < 2 ^ m) : q * 2 ^ k < 2 ^ m * 2 ^ k := Nat.mul_lt_mul_of_pos_right h (Nat.pow_pos (by decide))
theorem gro (q e k n C N : Nat) (hq : q < 2 ^ 53) (he : e ≤ k) (hk : 53 + k = n) (c : 2 ^ 63 * C = 2 ^ n) (hN : 2 ^ 63 ≤ N) (h : q * 2 ^ e = N * C) : False := by
  have a : q * 2 ^ e ≤ q * 2 ^ k := Nat.mul_le_mul_left _ (ple _ _ he)
  have b := mlt q 53 k hq
  rw [← Nat.pow_add, hk, ← c] at b
  have d : 2 ^ 63 * C ≤ N * C := Nat.mul_le_mul_right _ hN
  omega
theorem big_parts {y N : Nat} (hf : Fin y) (h : U (rg y) = N * B) (hN : 9223372036854775808 ≤ N) :
    1086 ≤ y / 4503599627370496 % 2048 ∧ y / 4503599627370496 % 2048 ≤ 2046 ∧ N = (y % 4503599627370496 + 4503599627370496) * 2 ^ (y / 4503599627370496 % 2048 - 1075) := by
  have hE : y / 4503599627370496 % 2048 = rg y / 4503599627370496 := by unfold rg; omega
  have hF : y % 4503599627370496 = rg y % 4503599627370496 := by unfold rg; omega
  rw [hE, hF]
  unfold Fin at hf
  have hM := mant_law y
  generalize rg y = r at *
  obtain ⟨q, hq⟩ : ∃ q, q = (if r / 4503599627370496 = 0 then r % 4503599627370496 else r % 4503599627370496 + 4503599627370496) := ⟨_, rfl⟩
  rw [← hq] at hM
  have hq53 : q < 9007199254740992 := by rw [hq]; split <;> omega
  have hge : 1086 ≤ r / 4503599627370496 := by
    refine Nat.le_of_not_lt (fun hlt => ?_)
    exact gro q (r / 4503599627370496 - 1) 1084 1137 B N hq53 (by omega) rfl (B_mul 63 1137 (by decide)) hN (hM.trans h)
  rw [if_neg (by omega)] at hq
  refine ⟨hge, by omega, ?_⟩
  rw [← hq]
  rw [← hM, ← B_mul (r / 4503599627370496 - 1075) (r / 4503599627370496 - 1) (by omega), ← Nat.mul_assoc] at h
  exact (Nat.eq_of_mul_eq_mul_right B_pos h).symm
end Fl
end Go.Proofs.YtldejfallphhbaaGreatDoor
