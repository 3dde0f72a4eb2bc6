/-
  A part of the proof of FnIntText: the operations on words: add, subtract, multiply.
-/
import Derived.Test.YtdidglfaogmnfaaGreatDoorA
import Derived.Test.YtdidglfaogmnfaaGreatDoorShelf
import Derived.WalkLawsBesides
import Derived.WalkSpells
import Derived.Lib.Hide
import Derived.Handy
import Derived.Deep.LoopGhost
namespace Go.Proofs.YtdidglfaogmnfaaGreatDoor
open Go.RowKit

theorem add64_run (x y c : Nat) (hc : c ≤ 1) (w : World) : (callFunc 149 #[.int .u64 x, .int .u64 y, .int .u64 c]).run Tryz.prog w = .ok (.value (.tuple #[.int .u64 (((x + y + c) % 18446744073709551616 : Nat) : Int), .int .u64 (((x + y + c) / 18446744073709551616 : Nat) : Int)])) w :=
  Any7.bits_Add64 Tryz.lays7_25 x y c hc w
theorem sub64_run (x y c : Nat) (hc : c ≤ 1) (w : World) : (callFunc 153 #[.int .u64 x, .int .u64 y, .int .u64 c]).run Tryz.prog w = .ok (.value (.tuple #[.int .u64 (((x + 18446744073709551616 - y - c) % 18446744073709551616 : Nat) : Int), .int .u64 ((if x < y + c then 1 else 0 : Nat) : Int)])) w :=
  Any7.bits_Sub64 Tryz.lays7_26 x y c hc w
/-- a sum with carry -/
theorem add_c (x y c : Nat) (hx : x < 18446744073709551616) (hy : y < 18446744073709551616) (hc : c ≤ 1) : ∃ s d : Nat, s < 18446744073709551616 ∧ d ≤ 1 ∧ x + y + c = d * 18446744073709551616 + s ∧
    ∀ w : World, Calls Tryz.prog 135 #[.int .u64 x, .int .u64 y, .int .u64 c] w fun e w' => e = .returned (.tuple #[.int .u64 s, .int .u64 d]) ∧ w' = w := by
  refine ⟨(x + y + c) % 18446744073709551616, (x + y + c) / 18446744073709551616, by omega, by omega, by omega, fun w => ?_⟩
  have h := add64_run x y c hc
  generalize (x + y + c) % 18446744073709551616 = s at *
  generalize (x + y + c) / 18446744073709551616 = d at *
  clear hx hy hc
  go_enter Tryz.func135, Tryz.ntmps135
  go_wp2_with (rw [h])
  go_returns
  exact ⟨rfl, rfl⟩
/-- a difference with borrow -/
theorem sub_c (x y c : Nat) (hx : x < 18446744073709551616) (hy : y < 18446744073709551616) (hc : c ≤ 1) : ∃ s d : Nat, s < 18446744073709551616 ∧ d ≤ 1 ∧ s + y + c = x + d * 18446744073709551616 ∧
    ∀ w : World, Calls Tryz.prog 141 #[.int .u64 x, .int .u64 y, .int .u64 c] w fun e w' => e = .returned (.tuple #[.int .u64 s, .int .u64 d]) ∧ w' = w := by
  refine ⟨(x + 18446744073709551616 - y - c) % 18446744073709551616, if x < y + c then 1 else 0, by omega, by split <;> omega, by split <;> omega, fun w => ?_⟩
  have h := sub64_run x y c hc
  generalize (x + 18446744073709551616 - y - c) % 18446744073709551616 = s at *
  generalize (if x < y + c then 1 else 0 : Nat) = d at *
  clear hx hy hc
  go_enter Tryz.func141, Tryz.ntmps141
  go_wp2_with (rw [h])
  go_returns
  exact ⟨rfl, rfl⟩
/-- a product of two words -/
theorem mul_c (x y : Nat) (hx : x < 18446744073709551616) (hy : y < 18446744073709551616) : ∃ hi lo : Nat, hi < 18446744073709551616 ∧ lo < 18446744073709551616 ∧ x * y = hi * 18446744073709551616 + lo ∧
    ∀ w : World, Calls Tryz.prog 88 #[.int .u64 x, .int .u64 y] w fun e w' => e = .returned (.tuple #[.int .u64 hi, .int .u64 lo]) ∧ w' = w := by
  have hlt : x * y / 18446744073709551616 < 18446744073709551616 := by
    refine (Nat.div_lt_iff_lt_mul (by decide)).2 ?_
    exact Nat.mul_lt_mul'' hx hy
  exact ⟨x * y / 18446744073709551616, x * y % 18446744073709551616, hlt, Nat.mod_lt _ (by decide), by omega, fun w => Tryz.bits_Mul x y hx hy w⟩
end Go.Proofs.YtdidglfaogmnfaaGreatDoor
