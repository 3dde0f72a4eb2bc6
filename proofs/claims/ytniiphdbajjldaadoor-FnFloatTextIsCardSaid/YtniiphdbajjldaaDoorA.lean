/-
  A part of the proof of FnFloatTextIs: small facts on uint64 arithmetic and the contract of uscale.
-/
import Derived.Test.YtniiphdbajjldaaDoorShelf
import Derived.WalkKit
import Derived.WalkLawsBesides
import Derived.WalkSpells
import Derived.Lib.Hide
import Derived.PlainAid
import Derived.Handy
import Derived.BigQuiet
import Derived.Deep.QuietTactic
namespace Go.Proofs.YtniiphdbajjldaaDoor
open Go.RowKit

def U64 (x : Int) : Prop := 0 ≤ x ∧ x < 18446744073709551616
theorem i64_and63 (n : Int) : bits .and .i64 n 63 = n % 64 := by
  have h127 : (BitVec.ofInt 64 63).toNat = 2 ^ 6 - 1 := by decide
  have key : (BitVec.ofInt 64 n &&& BitVec.ofInt 64 63).toNat = (n % ((2 ^ 64 : Nat) : Int)).toNat % 2 ^ 6 := by
    rw [BitVec.toNat_and, BitVec.toNat_ofInt, h127, Nat.and_two_pow_sub_one_eq_mod]
  show IntKind.i64.wrap ((BitVec.ofInt 64 n &&& BitVec.ofInt 64 63).toNat : Nat) = n % 64
  rw [key, IntKind.wrap_i64]
  omega
def b2u (b : Bool) : Int := if b then 1 else 0
theorem bool2u (b : Bool) (w : World) : Calls Tryd.prog 66 #[.bool b] w fun e w' => e = .returned (.int .u64 (b2u b)) ∧ w = w' := by
  cases b
  · go_enter Tryd.func66, Tryd.ntmps66
    go_wp2
    go_ret
    exact ⟨rfl, rfl⟩
  · go_enter Tryd.func66, Tryd.ntmps66
    go_wp2
    go_ret
    exact ⟨rfl, rfl⟩
theorem mul_i (x y : Int) (hx : U64 x) (hy : U64 y) : ∃ a b : Int, U64 a ∧ U64 b ∧ ∀ w : World, Calls Tryd.prog 65 #[.int .u64 x, .int .u64 y] w fun e w' => e = .returned (.tuple #[.int .u64 a, .int .u64 b]) ∧ w = w' := by
  obtain ⟨a, rfl⟩ := Int.eq_ofNat_of_zero_le hx.1
  obtain ⟨b, rfl⟩ := Int.eq_ofNat_of_zero_le hy.1
  obtain ⟨-, hx⟩ := hx
  obtain ⟨-, hy⟩ := hy
  have hx' : a < 18446744073709551616 := by omega
  have hy' : b < 18446744073709551616 := by omega
  refine ⟨_, _, ?_, ?_, fun w => (Tryd.bits_Mul64 a b hx' hy' w).mono fun e w' ⟨h1, h2⟩ => ⟨h1, h2.symm⟩⟩
  · have : a * b / 18446744073709551616 < 18446744073709551616 := by
      rw [Nat.div_lt_iff_lt_mul (by decide)]
      exact Nat.mul_lt_mul'' hx' hy'
    constructor <;> omega
  · constructor <;> omega


theorem wrapu (x : Int) : U64 (IntKind.u64.wrap x) := by
  rw [IntKind.wrap_u64]
  constructor <;> omega
theorem bitsu (op : BinOp) (x y : Int) (h : op = .and ∨ op = .or ∨ op = .xor ∨ op = .andNot) : U64 (bits op .u64 x y) := by
  rcases h with rfl | rfl | rfl | rfl <;> exact wrapu _
theorem divu {x : Int} (h : U64 x) (k : Int) (hk : 1 ≤ k) : U64 (x / k) := by
  obtain ⟨h0, h1⟩ := h
  have a := Int.ediv_nonneg h0 (by omega : 0 ≤ k)
  have b := Int.ediv_le_self k h0
  exact ⟨a, by omega⟩
theorem pow_pos (n : Nat) : (1 : Int) ≤ 2 ^ n := by
  have : (0 : Int) < 2 ^ n := Int.pow_pos (by decide)
  omega

set_option maxHeartbeats 400000 in
theorem uscale_ex (x hi lo s : Int) (hx : U64 x) (hh : U64 hi) (hl : U64 lo) (hs0 : 0 ≤ s) (hs1 : s < 64) : ∃ r : Int, U64 r ∧ ∀ (w : World) (b : Nat),
    w.cell? ⟨b, 0, none⟩ = some (.int .u64 hi) → w.cell? ⟨b, 1, none⟩ = some (.int .u64 lo) → w.cell? ⟨b, 2, none⟩ = some (.int .i64 s) →
    Calls Tryd.prog 48 #[.int .u64 x, .pointer (some ⟨b, 0, none⟩)] w fun e w' => e = .returned (.int .u64 r) ∧ ∃ n, w' = w.drewN n := by
  obtain ⟨a, m, ha, hm, h1⟩ := mul_i x hi hx hh
  obtain ⟨a2, m2, ha2, hm2, h2⟩ := mul_i x lo hx hl
  have H1 := Lib.hid h1
  have H2 := Lib.hid h2
  clear h1 h2
  have hand : bits .and .i64 s 63 = s := by rw [i64_and63]; omega
  by_cases hc : (IntKind.u64.wrap (a / 2 ^ s.toNat * 2 ^ s.toNat) != a) = true
  · refine ⟨bits .or .u64 (a / 2 ^ s.toNat) 1, bitsu _ _ _ (by simp), fun w b c0 c1 c2 => ?_⟩
    obtain ⟨ha0, ha1⟩ := ha
    obtain ⟨hm0, hm1⟩ := hm
    go_enter Tryd.func48, Tryd.ntmps48
    go_wp2_with fail
    refine (H1.out _).mono ?_
    rintro e w' ⟨rfl, rfl⟩
    go_wp2_with fail
    go_ret
    exact ⟨rfl, 0, rfl⟩
  · replace hc : (IntKind.u64.wrap (a / 2 ^ s.toNat * 2 ^ s.toNat) != a) = false := by simpa using hc
    obtain ⟨A, hA⟩ : ∃ A, A = IntKind.u64.wrap (a - b2u (decide (m < a2))) := ⟨_, rfl⟩
    have HA := Lib.hid hA
    have hAu : U64 A := by rw [hA]; exact wrapu _
    clear hA
    refine ⟨bits .or .u64 (A / 2 ^ s.toNat) (b2u (decide (1 < IntKind.u64.wrap (m - a2)))), bitsu _ _ _ (by simp), fun w b c0 c1 c2 => ?_⟩
    obtain ⟨ha0, ha1⟩ := ha
    obtain ⟨hm0, hm1⟩ := hm
    obtain ⟨ha20, ha21⟩ := ha2
    obtain ⟨hA0, hA1⟩ := hAu
    go_enter Tryd.func48, Tryd.ntmps48
    go_wp2_with fail
    refine (H1.out _).mono ?_
    rintro e w' ⟨rfl, rfl⟩
    go_wp2_with fail
    refine (H2.out _).mono ?_
    rintro e w' ⟨rfl, rfl⟩
    go_wp2_with fail
    refine (bool2u _ _).mono ?_
    rintro e w' ⟨rfl, rfl⟩
    go_wp2_with fail
    rw [← HA.out]
    go_quiet ((go_at_call 66; exact Calls.quiet_of_same ((bool2u _ _).mono fun _ _ h => ⟨h.1, h.2.symm⟩)))
    go_wp2_with fail
    go_ret
    exact ⟨rfl, _, rfl⟩
end Go.Proofs.YtniiphdbajjldaaDoor
