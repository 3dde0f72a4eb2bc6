/-
  A part of the proof of FnFloatTextIs: facts on the order of float64 patterns.
-/
import Ieee.Arith
import GoSem.Core.Float
import GoSem.Op.Unary
namespace Go.Proofs.YtniiphdbajjldaaDoor
open Ieee

def maxBits : Nat := 9218868437227405311
theorem read_max : double.read 9218868437227405311 = .number false 9007199254740991 971 := by decide +kernel
theorem read_fin (y : Nat) (h : y % 9223372036854775808 < 9218868437227405312) : ∃ s m i, double.read y = .number s m i ∧ m ≤ 9007199254740991 ∧ i ≤ 971 := by
  have hs : double.signWeight = 9223372036854775808 := by decide
  have hb : double.binade = 4503599627370496 := by decide
  have hi : double.infRung = 9218868437227405312 := by decide
  have hl : double.leastPlace = -1074 := by decide
  unfold Format.read
  simp only [hs, hb, hi, hl]
  split
  · exact ⟨_, _, _, rfl, by omega, by omega⟩
  · exact ⟨_, _, _, rfl, by omega, by omega⟩
theorem order_max (y : Nat) (h : y % 9223372036854775808 < 9218868437227405312) : double.order y 9218868437227405311 = some .lt ∨ double.order y 9218868437227405311 = some .eq := by
  obtain ⟨s, m, i, hr, hm, hi⟩ := read_fin y h
  unfold Format.order
  rw [hr, read_max]
  simp only [Datum.order]
  have hmin : min i 971 = i := by omega
  rw [hmin]
  have h0 : (i - i).toNat = 0 := by omega
  rw [h0]
  have hle : signed s m 0 ≤ signed false 9007199254740991 (971 - i).toNat := by
    unfold signed
    have hp : 1 ≤ 2 ^ (971 - i).toNat := Nat.one_le_two_pow
    have hq : 9007199254740991 ≤ 9007199254740991 * 2 ^ (971 - i).toNat := Nat.le_mul_of_pos_right _ hp
    simp only [Nat.shiftLeft_eq, Nat.pow_zero, Nat.mul_one, Bool.false_eq_true, if_false]
    split <;> omega
  rcases Int.lt_or_eq_of_le hle with h1 | h1
  · left
    exact congrArg some (Int.compare_eq_lt.2 h1)
  · right
    exact congrArg some (Int.compare_eq_eq.2 h1)
theorem order_self (y : Nat) (h : y % 9223372036854775808 < 9218868437227405312) : double.order y y = some .eq := by
  obtain ⟨s, m, i, hr, hm, hi⟩ := read_fin y h
  unfold Format.order
  rw [hr]
  simp only [Datum.order]
  exact congrArg some (Int.compare_eq_eq.2 rfl)
theorem read_nan (y : Nat) (h : 9218868437227405312 < y % 9223372036854775808) : ∃ s f, double.read y = .nan s f := by
  have hs : double.signWeight = 9223372036854775808 := by decide
  have hb : double.binade = 4503599627370496 := by decide
  have hi : double.infRung = 9218868437227405312 := by decide
  unfold Format.read
  simp only [hs, hb, hi]
  rw [if_neg (by omega), if_neg (by omega), if_neg (by omega)]
  exact ⟨_, _, rfl⟩
theorem order_nan (y z : Nat) (h : 9218868437227405312 < y % 9223372036854775808) : double.order y z = none := by
  obtain ⟨s, f, hr⟩ := read_nan y h
  unfold Format.order
  rw [hr]
  cases double.read z <;> rfl
theorem neg_mod (y : Nat) : Op.negFloat .f64 y % 9223372036854775808 = y % 9223372036854775808 := by
  show (y ^^^ 2 ^ 63) % 2 ^ 63 = y % 2 ^ 63
  rw [Nat.xor_mod_two_pow]
  simp
end Go.Proofs.YtniiphdbajjldaaDoor
