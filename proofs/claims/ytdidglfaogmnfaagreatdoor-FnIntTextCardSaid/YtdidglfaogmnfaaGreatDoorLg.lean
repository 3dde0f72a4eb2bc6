/-
  A part of the proof of FnIntText: the logarithm of ten to the base two; the number of digits.
-/
import Derived.Test.YtdidglfaogmnfaaGreatDoorA
import Derived.Test.YtdidglfaogmnfaaGreatDoorShelf
import Derived.WalkLawsBesides
import Derived.WalkSpells
import Derived.Lib.Hide
import Derived.Handy
import Derived.Outline
namespace Go.Proofs.YtdidglfaogmnfaaGreatDoor
open Go.RowKit

theorem e108 (b : Nat) (w : World) : (callFunc 108 #[.float .f64 b]).run Tryz.prog w = .ok (.value (.int .u64 b)) w := by
  rw [run_callFunc_extern (e := Extern.MathFloatBits.float64bits) Tryz.func108 (by kernel_rfl) (by kernel_rfl) (by kernel_rfl) (by kernel_rfl)]
  rfl
theorem e109 (b : Int) (w : World) : (callFunc 109 #[.int .u64 b]).run Tryz.prog w = .ok (.value (.float .f64 b.toNat)) w := by
  rw [run_callFunc_extern (e := Extern.MathFloatBits.float64frombits) Tryz.func109 (by kernel_rfl) (by kernel_rfl) (by kernel_rfl) (by kernel_rfl)]
  rfl
theorem e79 (w : World) : (callFunc 79 #[.float .f64 4603804719079489536]).run Tryz.prog w = .ok (.value (.float .f64 13825510489450817230)) w := by
  rw [run_callFunc_extern (e := Extern.MathLog.archLog) Tryz.func79 (by kernel_rfl) (by kernel_rfl) (by kernel_rfl) (by kernel_rfl)]
  kernel_rfl
set_option maxRecDepth 100000 in
theorem abs10 (w : World) : Calls Tryz.prog 142 #[.float .f64 4621819117588971520] w fun e w' => e = .returned (.float .f64 4621819117588971520) ∧ w' = w := by
  have h1 := e108
  have h2 := e109
  have h3 : bits BinOp.andNot IntKind.u64 4621819117588971520 9223372036854775808 = 4621819117588971520 := by decide +kernel
  go_enter Tryz.func142, Tryz.ntmps142
  go_wp2
  go_ret
  exact ⟨rfl, rfl⟩
set_option maxRecDepth 100000 in
theorem inf10 (w : World) : Calls Tryz.prog 105 #[.float .f64 4621819117588971520, .int .i64 0] w fun e w' => e = .returned (.bool false) ∧ w' = w := by
  have e1 : (FloatKind.f64.format.order 4621819117588971520 9218868437227405311 == some Ordering.gt) = false := by decide +kernel
  go_enter Tryz.func105, Tryz.ntmps105
  go_wp2_with fail
  refine (abs10 _).mono ?_
  rintro e w' ⟨rfl, rfl⟩
  go_wp2_with fail
  go_returns
  exact ⟨rfl, rfl⟩
set_option maxRecDepth 100000 in
theorem nan10 (w : World) : Calls Tryz.prog 106 #[.float .f64 4621819117588971520] w fun e w' => e = .returned (.bool false) ∧ w' = w := by
  have e1 : (FloatKind.f64.format.order 4621819117588971520 4621819117588971520 != some Ordering.eq) = false := by decide +kernel
  go_enter Tryz.func106, Tryz.ntmps106
  go_wp2_with fail
  go_ret
  exact ⟨rfl, rfl⟩
set_option maxRecDepth 100000 in
theorem norm10 (w : World) : Calls Tryz.prog 107 #[.float .f64 4621819117588971520] w fun e w' => e = .returned (.tuple #[.float .f64 4621819117588971520, .int .i64 0]) ∧ w' = w := by
  have e1 : (FloatKind.f64.format.order 4621819117588971520 4503599627370496 == some Ordering.lt) = false := by decide +kernel
  go_enter Tryz.func107, Tryz.ntmps107
  go_wp2_with fail
  refine (abs10 _).mono ?_
  rintro e w' ⟨rfl, rfl⟩
  go_wp2_with fail
  go_returns
  exact ⟨rfl, rfl⟩
set_option maxRecDepth 100000 in
theorem frexp10 (w : World) : Calls Tryz.prog 78 #[.float .f64 4621819117588971520] w fun e w' => e = .returned (.tuple #[.float .f64 4603804719079489536, .int .i64 4]) ∧ w' = w := by
  have h1 := e108
  have h2 := e109
  have e1 : (FloatKind.f64.format.order 4621819117588971520 0 == some Ordering.eq) = false := by decide +kernel
  have x1 : bits .andNot .u64 4621819117588971520 9218868437227405312 = 1125899906842624 := by decide +kernel
  have x2 : bits .or .u64 1125899906842624 4602678819172646912 = 4603804719079489536 := by decide +kernel
  have x3 : bits .and .u64 1026 2047 = 1026 := by decide +kernel
  go_enter Tryz.func78, Tryz.ntmps78
  go_wp2_with fail
  refine (inf10 _).mono ?_
  rintro e w' ⟨rfl, rfl⟩
  go_wp2_with fail
  refine (nan10 _).mono ?_
  rintro e w' ⟨rfl, rfl⟩
  go_wp2_with fail
  refine (norm10 _).mono ?_
  rintro e w' ⟨rfl, rfl⟩
  go_wp2_with fail
  go_returns
  exact ⟨rfl, rfl⟩
set_option maxRecDepth 100000 in
theorem log2_10 (w : World) : Calls Tryz.prog 35 #[.float .f64 4621819117588971520] w fun e w' => e = .returned (.float .f64 4614662735865160561) ∧ w' = w := by
  have fx : ∀ w : World, Calls Tryz.prog 65 #[.float .f64 4621819117588971520] w fun e w' => e = .returned (.tuple #[.float .f64 4603804719079489536, .int .i64 4]) ∧ w' = w := fun w => by
    go_enter Tryz.func65, Tryz.ntmps65
    go_wp2_with fail
    refine (frexp10 _).mono ?_
    rintro e w' ⟨rfl, rfl⟩
    go_wp2_with fail
    go_returns
    exact ⟨rfl, rfl⟩
  have lg : ∀ w : World, Calls Tryz.prog 66 #[.float .f64 4603804719079489536] w fun e w' => e = .returned (.float .f64 13825510489450817230) ∧ w' = w := fun w => by
    have h := e79
    go_enter Tryz.func66, Tryz.ntmps66
    go_wp2_with fail
    go_returns
    exact ⟨rfl, rfl⟩
  have l2 : ∀ w : World, Calls Tryz.prog 50 #[.float .f64 4621819117588971520] w fun e w' => e = .returned (.float .f64 4614662735865160561) ∧ w' = w := fun w => by
    have b1 : ∀ w : World, (binOp .mul 68 (.float .f64 13825510489450817230) (.float .f64 4609176140021203710)).run Tryz.prog w = .ok (.float .f64 13827654785158443579) w := fun w => by kernel_rfl
    have b2 : ∀ w : World, (binOp .add 68 (.float .f64 13827654785158443579) (.float .f64 4616189618054758400)).run Tryz.prog w = .ok (.float .f64 4614662735865160561) w := fun w => by kernel_rfl
    have b3 : floatOfInt .f64 4 = 4616189618054758400 := by decide +kernel
    have e1 : (FloatKind.f64.format.order 4603804719079489536 4602678819172646912 == some Ordering.eq) = false := by decide +kernel
    go_enter Tryz.func50, Tryz.ntmps50
    go_wp2_with fail
    refine (fx _).mono ?_
    rintro e w' ⟨rfl, rfl⟩
    go_wp2_with fail
    refine (lg _).mono ?_
    rintro e w' ⟨rfl, rfl⟩
    go_wp2_with fail
    go_returns
    exact ⟨rfl, rfl⟩
  go_enter Tryz.func35, Tryz.ntmps35
  go_wp2_with fail
  refine (l2 _).mono ?_
  rintro e w' ⟨rfl, rfl⟩
  go_wp2_with fail
  go_returns
  exact ⟨rfl, rfl⟩
/-- the number of decimal digits as the program reckons it, but one -/
def idig (n : Nat) : Option (Nat × Int) := (Ieee.double.div (FloatKind.f64.nearest (n : Int)) 4614662735865160561).bind fun r => ((FloatKind.f64.decode r).toInt .zero).bind fun i => some (r, i)
set_option exponentiation.threshold 2000 in
theorem idig_all : ((List.range 1217).all fun n => match idig n with | some (_, k) => decide (0 ≤ k ∧ k ≤ 380 ∧ 2 ^ n ≤ 10 ^ (k.toNat + 1)) | none => false) = true := by decide +kernel
theorem digits_run (L : Nat) (hL : L ≤ 1216) : ∃ r i : Nat, (∀ w : World, (binOp .quo 68 (.float .f64 (floatOfInt .f64 (L : Int))) (.float .f64 4614662735865160561)).run Tryz.prog w = .ok (.float .f64 r) w) ∧
    (∀ w : World, (convert 68 3 (.float .f64 r)).run Tryz.prog w = .ok (.int .i64 (i : Int)) w) ∧ i ≤ 380 ∧ 2 ^ L ≤ 10 ^ (i + 1) := by
  have h := idig_all
  rw [List.all_eq_true] at h
  have h1 := h L (by simp; omega)
  unfold idig at h1
  cases hd : Ieee.double.div (FloatKind.f64.nearest (L : Int)) 4614662735865160561 with
  | none => rw [hd] at h1; simp at h1
  | some r =>
    rw [hd] at h1
    simp only [Option.bind_some] at h1
    cases ht : (FloatKind.f64.decode r).toInt .zero with
    | none => rw [ht] at h1; simp at h1
    | some k =>
      rw [ht] at h1
      simp only [Option.bind_some] at h1
      obtain ⟨h2, h3, h4⟩ := of_decide_eq_true h1
      refine ⟨r, k.toNat, fun w => ?_, fun w => ?_, by omega, h4⟩
      · have hf : FloatKind.f64.format.div (floatOfInt .f64 (L : Int)) 4614662735865160561 = some r := hd
        simp [binOp, Op.floatArith, hf]
      · have hk : ((k.toNat : Nat) : Int) = k := by omega
        rw [hk]
        have hmin : IntKind.i64.min ≤ k := by have : IntKind.i64.min = -9223372036854775808 := by decide
                                              omega
        simp [convert, run_underlying Tryz.underlying68, run_underlying Tryz.underlying3, Conv.floatToInt, ht, hmin]
        intro hgt
        exact absurd hgt (by omega)
end Go.Proofs.YtdidglfaogmnfaaGreatDoor
