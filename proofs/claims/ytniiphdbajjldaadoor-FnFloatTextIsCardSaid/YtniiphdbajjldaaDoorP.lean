/-
  A part of the proof of FnFloatTextIs: Float.format of an infinity and of NaN.
-/
import Derived.Test.YtniiphdbajjldaaDoorO
namespace Go.Proofs.YtniiphdbajjldaaDoor
open Go.RowKit

theorem inf1_c (x : Nat) (t : Bool) (ht : (Ieee.double.order x 9218868437227405311 == some .gt) = t) (w : World) : Calls Tryd.prog 10 #[.float .f64 x, .int .i64 1] w fun e w' => e = .returned (.bool t) ∧ w = w' := by
  rw [← ht]; exact inf_c1 x w
theorem inf2_c (x : Nat) (t : Bool) (ht : (Ieee.double.order (Op.negFloat .f64 x) 9218868437227405311 == some .gt) = t) (w : World) : Calls Tryd.prog 10 #[.float .f64 x, .int .i64 (-1)] w fun e w' => e = .returned (.bool t) ∧ w = w' := by
  rw [← ht]; exact inf_c2 x w
theorem isnan_c (x : Nat) (t : Bool) (ht : (Ieee.double.order x x != some .eq) = t) (w : World) : Calls Tryd.prog 9 #[.float .f64 x] w fun e w' => e = .returned (.bool t) ∧ w = w' := by
  rw [← ht]; exact nan_c x w

/-- what kind of float: 0 a finite one, 1 and 2 the infinities, 3 none -/
structure Kind (x : Nat) (fin p m n : Bool) : Prop where
  fin : (Ieee.double.order (x % 9223372036854775808) 9218868437227405311 == some .lt || Ieee.double.order (x % 9223372036854775808) 9218868437227405311 == some .eq) = fin
  p : (Ieee.double.order x 9218868437227405311 == some .gt) = p
  m : (Ieee.double.order (Op.negFloat .f64 x) 9218868437227405311 == some .gt) = m
  n : (Ieee.double.order x x != some .eq) = n
theorem kind_fin (x : Nat) (hf : x % 9223372036854775808 < 9218868437227405312) : Kind x true false false false := by
  refine ⟨order_fin x hf, ?_, ?_, ?_⟩
  · rcases order_max x hf with h | h <;> rw [h] <;> rfl
  · rcases order_max (Op.negFloat .f64 x) (by rw [neg_mod]; exact hf) with h | h <;> rw [h] <;> rfl
  · rw [order_self x hf]; rfl
theorem kind_nan (x : Nat) (hf : 9218868437227405312 < x % 9223372036854775808) : Kind x false false false true := by
  refine ⟨?_, ?_, ?_, ?_⟩
  · rw [order_nan (x % 9223372036854775808) _ (by omega)]; rfl
  · rw [order_nan x _ hf]; rfl
  · rw [order_nan (Op.negFloat .f64 x) _ (by rw [neg_mod]; exact hf)]; rfl
  · rw [order_nan x _ hf]; rfl
theorem kind_p : Kind 9218868437227405312 false true false false := ⟨by decide +kernel, by decide +kernel, by decide +kernel, by decide +kernel⟩
theorem kind_m : Kind 18442240474082181120 false false true false := ⟨by decide +kernel, by decide +kernel, by decide +kernel, by decide +kernel⟩

def wordOf (p m : Bool) : List UInt8 := if p then [43, 105, 110, 102] else if m then [45, 105, 110, 102] else [110, 97, 110]

set_option maxHeartbeats 2000000 in
set_option maxRecDepth 100000 in
theorem format_non (x : Nat) (p m n : Bool) (hk : Kind x false p m n) (B b : Nat) (w : World) (hB : Lib.IsBuilder 38 5 B b [] w) (hBw : B ≤ w.heap.size) :
    Calls Tryd.prog 13 #[.float .f64 x, .pointer (some ⟨b, 0, none⟩), .int .u8 103] w fun e w' => e = .returned (.tuple #[]) ∧ Lib.IsBuilder 38 5 B b (Lib.byteCells (wordOf p m)) w' ∧ Below B w w' := by
  have HFin := Lib.hid (isfin_c x false hk.fin)
  have H1 := Lib.hid (inf1_c x p hk.p)
  have H2 := Lib.hid (inf2_c x m hk.m)
  have HB := Lib.hid hB
  have HBw := Lib.hid hBw
  clear hB hk hBw
  have s4 : ∀ a b c d : UInt8, (ByteArray.mk #[a, b, c, d]).size = 4 := fun _ _ _ _ => rfl
  have s3 : ∀ a b c : UInt8, (ByteArray.mk #[a, b, c]).size = 3 := fun _ _ _ => rfl
  have S4 := Lib.hid s4
  have S3 := Lib.hid s3
  clear s4 s3
  cases p
  · cases m
    · go_enter Tryd.func13, Tryd.ntmps13
      go_wp2_with fail
      refine (HFin.out _).mono ?_
      rintro e w' ⟨rfl, rfl⟩
      go_wp2_with fail
      refine (H1.out _).mono ?_
      rintro e w' ⟨rfl, rfl⟩
      go_wp2_with fail
      refine (H2.out _).mono ?_
      rintro e w' ⟨rfl, rfl⟩
      go_wp2_with fail
      refine (writeString_c B b [] ⟨#[110, 97, 110]⟩ _ HB.out (by rw [S3.out]; simp) HBw.out).mono ?_
      rintro e w3 ⟨rfl, hB3, hb3⟩
      have KB3 := Lib.hid hB3
      have K3 := Lib.hid hb3
      clear hB3 hb3
      go_wp2_with fail
      go_returns
      exact ⟨rfl, .inr KB3.out, K3.out⟩
    · go_enter Tryd.func13, Tryd.ntmps13
      go_wp2_with fail
      refine (HFin.out _).mono ?_
      rintro e w' ⟨rfl, rfl⟩
      go_wp2_with fail
      refine (H1.out _).mono ?_
      rintro e w' ⟨rfl, rfl⟩
      go_wp2_with fail
      refine (H2.out _).mono ?_
      rintro e w' ⟨rfl, rfl⟩
      go_wp2_with fail
      refine (writeString_c B b [] ⟨#[45, 105, 110, 102]⟩ _ HB.out (by rw [S4.out]; simp) HBw.out).mono ?_
      rintro e w3 ⟨rfl, hB3, hb3⟩
      have KB3 := Lib.hid hB3
      have K3 := Lib.hid hb3
      clear hB3 hb3
      go_wp2_with fail
      go_returns
      exact ⟨rfl, .inr KB3.out, K3.out⟩
  · go_enter Tryd.func13, Tryd.ntmps13
    go_wp2_with fail
    refine (HFin.out _).mono ?_
    rintro e w' ⟨rfl, rfl⟩
    go_wp2_with fail
    refine (H1.out _).mono ?_
    rintro e w' ⟨rfl, rfl⟩
    go_wp2_with fail
    refine (writeString_c B b [] ⟨#[43, 105, 110, 102]⟩ _ HB.out (by rw [S4.out]; simp) HBw.out).mono ?_
    rintro e w3 ⟨rfl, hB3, hb3⟩
    have KB3 := Lib.hid hB3
    have K3 := Lib.hid hb3
    clear hB3 hb3
    go_wp2_with fail
    go_returns
    exact ⟨rfl, .inr KB3.out, K3.out⟩
end Go.Proofs.YtniiphdbajjldaaDoor
