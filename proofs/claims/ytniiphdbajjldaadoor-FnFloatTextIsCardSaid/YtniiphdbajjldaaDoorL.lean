/-
  A part of the proof of FnFloatTextIs: math Abs, IsNaN, IsInf.
-/
import Derived.Test.YtniiphdbajjldaaDoorK
import Derived.Laws.Cover2
import Derived.WalkLawsBesides
namespace Go.Proofs.YtniiphdbajjldaaDoor
open Go.RowKit
theorem e20 (b : Nat) (w : World) : (callFunc 20 #[.float .f64 b]).run Tryd.prog w = .ok (.value (.int .u64 b)) w := by
  rw [run_callFunc_extern (e := Extern.MathFloatBits.float64bits) Tryd.func20 (by kernel_rfl) (by kernel_rfl) (by kernel_rfl) (by kernel_rfl)]
  rfl
theorem e6 (b : Int) (w : World) : (callFunc 6 #[.int .u64 b]).run Tryd.prog w = .ok (.value (.float .f64 b.toNat)) w := by
  rw [run_callFunc_extern (e := Extern.MathFloatBits.float64frombits) Tryd.func6 (by kernel_rfl) (by kernel_rfl) (by kernel_rfl) (by kernel_rfl)]
  rfl
theorem andNot63 (x : Nat) : bits BinOp.andNot IntKind.u64 (x : Int) 9223372036854775808 = ((x % 9223372036854775808 : Nat) : Int) := by
  have h2 : (~~~ (BitVec.ofInt 64 9223372036854775808)).toNat = 2 ^ 63 - 1 := by decide
  have key : (BitVec.ofInt 64 (x : Int) &&& ~~~ BitVec.ofInt 64 9223372036854775808).toNat = x % 2 ^ 63 := by
    rw [BitVec.toNat_and, h2, Nat.and_two_pow_sub_one_eq_mod, BitVec.toNat_ofInt]
    omega
  show IntKind.u64.wrap ((BitVec.ofInt 64 (x : Int) &&& ~~~ BitVec.ofInt 64 9223372036854775808).toNat : Nat) = _
  rw [key, IntKind.wrap_u64]
  omega
set_option maxRecDepth 100000 in
theorem abs_c (x : Nat) (w : World) : Calls Tryd.prog 15 #[.float .f64 x] w fun e w' => e = .returned (.float .f64 (x % 9223372036854775808)) ∧ w = w' := by
  have h20 := e20
  have h6 := e6
  go_enter Tryd.func15, Tryd.ntmps15
  go_wp2
  go_ret
  refine ⟨?_, rfl⟩
  show Ending.returned (Value.float .f64 (bits BinOp.andNot IntKind.u64 (x : Int) 9223372036854775808).toNat) = _
  rw [andNot63]
  rfl
set_option maxRecDepth 100000 in
theorem nan_c (x : Nat) (w : World) : Calls Tryd.prog 9 #[.float .f64 x] w fun e w' => e = .returned (.bool (Ieee.double.order x x != some .eq)) ∧ w = w' := by
  go_enter Tryd.func9, Tryd.ntmps9
  go_wp2
  go_ret
  exact ⟨rfl, rfl⟩
set_option maxRecDepth 100000 in
theorem inf_c1 (x : Nat) (w : World) : Calls Tryd.prog 10 #[.float .f64 x, .int .i64 1] w fun e w' => e = .returned (.bool (Ieee.double.order x 9218868437227405311 == some .gt)) ∧ w = w' := by
  go_enter Tryd.func10, Tryd.ntmps10
  go_wp2
  go_ret
  exact ⟨rfl, rfl⟩
set_option maxRecDepth 100000 in
theorem inf_c2 (x : Nat) (w : World) : Calls Tryd.prog 10 #[.float .f64 x, .int .i64 (-1)] w fun e w' => e = .returned (.bool (Ieee.double.order (Op.negFloat .f64 x) 9218868437227405311 == some .gt)) ∧ w = w' := by
  have hneg : ∀ (y : Nat) (w : World), (Op.unary .neg (.float .f64 y)).run Tryd.prog w = .ok (.float .f64 (Op.negFloat .f64 y)) w := fun _ _ => rfl
  go_enter Tryd.func10, Tryd.ntmps10
  go_wp2
  go_ret
  exact ⟨rfl, rfl⟩
end Go.Proofs.YtniiphdbajjldaaDoor
