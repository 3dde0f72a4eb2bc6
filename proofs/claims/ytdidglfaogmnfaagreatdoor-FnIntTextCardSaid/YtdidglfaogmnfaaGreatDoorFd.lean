/-
  A part of the proof of FnIntText: starlark's Int.
-/
import Derived.Test.YtdidglfaogmnfaaGreatDoorFc
namespace Go.Proofs.YtdidglfaogmnfaaGreatDoor
set_option linter.unusedVariables false
open Go.RowKit

def sml (neg : Bool) (X : Nat) : Bool := decide (X < 2147483648) || (decide (X = 2147483648) && neg)
def sgd (neg : Bool) (X : Nat) : Int := if neg then -(X : Int) else (X : Int)
set_option maxRecDepth 100000 in
theorem isSmall_c (p X : Nat) (neg : Bool) (v : Value) (w : World) (h : Bi w p neg v) (hv : Abs w v X) :
    Calls Tryz.prog 22 #[.pointer (some ⟨p, 0, none⟩)] w fun e w' => e = .returned (.bool (sml neg X)) ∧ w' = w := by
  have K := Lib.hid (BitLen_c p X neg v w h hv)
  have K2 := Lib.hid (fun hX => Int64_c p X neg v w h hv hX)
  clear h hv
  go_enter Tryz.func22, Tryz.ntmps22
  go_wp2_with fail
  with_reducible refine K.out.mono ?_
  rintro e w' ⟨L, rfl, g0, g1, g2, g3, rfl⟩
  rcases Nat.lt_trichotomy L 32 with hL | hL | hL
  · have e : sml neg X = true := by
      have : 2 ^ L ≤ 2 ^ 31 := Nat.pow_le_pow_right (by decide) (by omega)
      unfold sml
      rw [decide_eq_true (by omega : X < 2147483648)]
      rfl
    have KE := Lib.hid e
    have hL' : (L : Int) < 32 := by omega
    clear g0 g1 g2 g3 K K2 e
    go_wp2_with fail
    go_returns
    exact ⟨by rw [KE.out]; first | rfl | (simp; omega), rfl⟩
  · subst hL
    have g4 : X < 4294967296 := g2
    have K3 := Lib.hid (K2.out g4)
    have e : sml neg X = ((if neg then -(X : Int) else (X : Int)) == -2147483648) := by
      have : 2147483648 ≤ X := by
        rcases Nat.eq_zero_or_pos X with h | h
        · have := g0 h; omega
        · exact (g1 h).1
      cases neg
      · unfold sml
        rw [decide_eq_false (by omega : ¬ X < 2147483648), Bool.and_false]
        exact (beq_eq_false_iff_ne.2 (by simp <;> omega)).symm
      · unfold sml
        rw [decide_eq_false (by omega : ¬ X < 2147483648), Bool.and_true, Bool.false_or]
        by_cases h : X = 2147483648
        · subst h; rfl
        · rw [decide_eq_false h]
          exact (beq_eq_false_iff_ne.2 (by simp <;> omega)).symm
    have KE := Lib.hid e
    generalize (if neg then -(X : Int) else (X : Int)) = y at *
    clear g0 g1 g2 g3 K K2 e g4
    go_wp2_with (go_at_call 24; with_reducible refine K3.out.mono ?_; rintro e w2 ⟨rfl, rfl⟩)
    go_returns
    exact ⟨by rw [KE.out]; first | rfl | (simp; omega), rfl⟩
  · have e : sml neg X = false := by
      have : 2147483648 < X := by
        rcases Nat.eq_zero_or_pos X with h | h
        · have := g0 h; omega
        · have h2 := (g1 h).1
          have : 2 ^ 32 ≤ 2 ^ (L - 1) := Nat.pow_le_pow_right (by decide) (by omega)
          omega
      unfold sml
      rw [decide_eq_false (by omega : ¬ X < 2147483648), decide_eq_false (by omega : ¬ X = 2147483648)]
      rfl
    have KE := Lib.hid e
    have hL' : ¬ (L : Int) < 32 := by omega
    have hL2 : ((L : Int) == 32) = false := by simp; omega
    have hL3 : decide ((L : Int) < 32) = false := decide_eq_false hL'
    clear g0 g1 g2 g3 K K2 e
    go_wp2_with fail
    go_returns
    exact ⟨by rw [KE.out]; first | rfl | (simp; omega), rfl⟩
def smallV (x : Int) : Value := .agg #[.int .i64 x, .pointer none]
def bigV (p : Nat) : Value := .agg #[.int .i64 0, .pointer (some ⟨p, 0, none⟩)]
set_option maxRecDepth 100000 in
theorem small_c (x : Int) (w : World) :
    Calls Tryz.prog 23 #[.int .i64 x] w fun e w' => e = .returned (smallV x) ∧ Fr w w' No := by
  go_enter Tryz.func23, Tryz.ntmps23
  go_wp2_with fail
  go_returns
  exact ⟨rfl, (Fr.refl _ _).alloc _⟩
set_option maxRecDepth 100000 in
theorem big_c (p : Nat) (w : World) :
    Calls Tryz.prog 25 #[.pointer (some ⟨p, 0, none⟩)] w fun e w' => e = .returned (bigV p) ∧ Fr w w' No := by
  go_enter Tryz.func25, Tryz.ntmps25
  go_wp2_with fail
  go_returns
  exact ⟨rfl, (Fr.refl _ _).alloc _⟩
end Go.Proofs.YtdidglfaogmnfaaGreatDoor
