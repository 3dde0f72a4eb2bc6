/-
  A part of the proof of FnFloatTextIs: Float.format of a finite float.
-/
import Derived.Test.YtniiphdbajjldaaDoorN
import Derived.Test.YtniiphdbajjldaaDoorL
namespace Go.Proofs.YtniiphdbajjldaaDoor
open Go.RowKit

/-- the text with .0 behind it, if neither a point nor an e is in it -/
def dotted (s : ByteArray) : List UInt8 := if Lib.indexByte s.data.toList 101 < 0 ∧ Lib.indexByte s.data.toList 46 < 0 then s.data.toList ++ [46, 48] else s.data.toList

theorem isB_below {B b : Nat} {bs : List Value} {w w' : World} (h : Lib.IsBuilder 38 5 B b bs w) (hb : Below w.heap.size w w') : Lib.IsBuilder 38 5 B b bs w' := by
  have key : ∀ p, Lib.BuilderAt 38 5 B b p bs w → Lib.BuilderAt 38 5 B b p bs w' := by
    rintro p ⟨hB, v, hv, hown, hne⟩
    exact ⟨hB, v, (hb.block b (Array.getElem?_eq_some_iff.1 hv).1).trans hv, hown.kept (row := none) ⟨hb.os, hb.tape, hb.output, hb.size, fun k hk _ => hb.block k hk⟩ (Classical.em _), hne⟩
  exact h.imp (key _) (key _)
theorem size_nums (l : List Int) : (strOfNums l).size = l.length := strOfNums_size l

set_option maxRecDepth 100000 in
theorem isfin_c (x : Nat) (t : Bool) (ht : (Ieee.double.order (x % 9223372036854775808) 9218868437227405311 == some .lt || Ieee.double.order (x % 9223372036854775808) 9218868437227405311 == some .eq) = t) (w : World) :
    Calls Tryd.prog 17 #[.float .f64 x] w fun e w' => e = .returned (.bool t) ∧ w = w' := by
  have HT := Lib.hid ht
  clear ht
  go_enter Tryd.func17, Tryd.ntmps17
  go_wp2_with (go_at_call 15; refine (abs_c _ _).mono ?_; rintro e w' ⟨rfl, rfl⟩)
  go_ret
  exact ⟨by rw [← HT.out]; rfl, rfl⟩
theorem order_fin (x : Nat) (hf : x % 9223372036854775808 < 9218868437227405312) : (Ieee.double.order (x % 9223372036854775808) 9218868437227405311 == some .lt || Ieee.double.order (x % 9223372036854775808) 9218868437227405311 == some .eq) = true := by
  rcases order_max (x % 9223372036854775808) (by omega) with h | h <;> rw [h] <;> rfl

set_option maxHeartbeats 2000000 in
set_option maxRecDepth 100000 in
theorem format_c (x : Nat) (s : ByteArray) (hff : FF x s) (hf : x % 9223372036854775808 < 9218868437227405312) (B b : Nat) (w : World) (hB : Lib.IsBuilder 38 5 B b [] w) (hBw : B ≤ w.heap.size) (hT : Tabs w) :
    Calls Tryd.prog 13 #[.float .f64 x, .pointer (some ⟨b, 0, none⟩), .int .u8 103] w fun e w' => e = .returned (.tuple #[]) ∧ Lib.IsBuilder 38 5 B b (Lib.byteCells (dotted s)) w' ∧ Below B w w' := by
  have HF := Lib.hid hff
  have HFin := Lib.hid (isfin_c x true (order_fin x hf))
  have HB := Lib.hid hB
  have HT := Lib.hid hT
  clear hff hB hT hf
  by_cases h1 : Lib.indexByte s.data.toList 101 < 0
  · by_cases h2 : Lib.indexByte s.data.toList 46 < 0
    · have hd : Hid (dotted s = s.data.toList ++ [46, 48]) := Lib.hid (if_pos ⟨h1, h2⟩)
      go_enter Tryd.func13, Tryd.ntmps13
      go_wp2_with (first
        | (go_at_call 17; refine (HFin.out _).mono ?_; rintro e w' ⟨rfl, rfl⟩)
        | (go_at_call 11; refine (HF.out _ HT.out).mono ?_; rintro e w2 ⟨rfl, hs, hb2⟩))
      refine (writeString_c B b [] s _ (isB_below HB.out hb2) (by simp; omega) (by have := hb2.size; omega)).mono ?_
      rintro e w3 ⟨rfl, hB3, hb3⟩
      have KB3 := Lib.hid hB3
      have K3 := Lib.hid hb3
      have K2 := Lib.hid hb2
      clear hB3 hb3 hb2
      go_wp2_with (first
        | (go_at_call 19; refine (Tryd.strings_IndexByte _ _ _).mono ?_; rintro e w' ⟨rfl, rfl⟩))
      have hz : B ≤ w.heap.size ∧ w.heap.size ≤ w2.heap.size := ⟨hBw, K2.out.size⟩
      refine (writeString_c B b _ ⟨#[46, 48]⟩ _ (.inr KB3.out) (by simp [Lib.strCells_length]; have : (ByteArray.mk #[46, 48]).size = 2 := rfl; omega) (by have := K3.out.size; omega)).mono ?_
      rintro e w4 ⟨rfl, hB4, hb4⟩
      go_wp2_with fail
      go_returns
      refine ⟨rfl, .inr ?_, ((K2.out.mono hBw).trans K3.out).trans hb4⟩
      rw [hd.out]
      simpa [Lib.strCells, Lib.byteCells] using hB4
    · have hd : Hid (dotted s = s.data.toList) := Lib.hid (if_neg (fun h => h2 h.2))
      replace h2 : 0 ≤ Lib.indexByte s.data.toList 46 := by omega
      go_enter Tryd.func13, Tryd.ntmps13
      go_wp2_with (first
        | (go_at_call 17; refine (HFin.out _).mono ?_; rintro e w' ⟨rfl, rfl⟩)
        | (go_at_call 11; refine (HF.out _ HT.out).mono ?_; rintro e w2 ⟨rfl, hs, hb2⟩))
      refine (writeString_c B b [] s _ (isB_below HB.out hb2) (by simp; omega) (by have := hb2.size; omega)).mono ?_
      rintro e w3 ⟨rfl, hB3, hb3⟩
      have KB3 := Lib.hid hB3
      have K3 := Lib.hid hb3
      have K2 := Lib.hid hb2
      clear hB3 hb3 hb2
      go_wp2_with (first
        | (go_at_call 19; refine (Tryd.strings_IndexByte _ _ _).mono ?_; rintro e w' ⟨rfl, rfl⟩))
      go_returns
      refine ⟨rfl, .inr ?_, (K2.out.mono hBw).trans K3.out⟩
      rw [hd.out]
      simpa [Lib.strCells, Lib.byteCells] using KB3.out
  · have hd : Hid (dotted s = s.data.toList) := Lib.hid (if_neg (fun h => h1 h.1))
    replace h1 : 0 ≤ Lib.indexByte s.data.toList 101 := by omega
    go_enter Tryd.func13, Tryd.ntmps13
    go_wp2_with (first
      | (go_at_call 17; refine (HFin.out _).mono ?_; rintro e w' ⟨rfl, rfl⟩)
      | (go_at_call 11; refine (HF.out _ HT.out).mono ?_; rintro e w2 ⟨rfl, hs, hb2⟩))
    refine (writeString_c B b [] s _ (isB_below HB.out hb2) (by simp; omega) (by have := hb2.size; omega)).mono ?_
    rintro e w3 ⟨rfl, hB3, hb3⟩
    have KB3 := Lib.hid hB3
    have K3 := Lib.hid hb3
    have K2 := Lib.hid hb2
    clear hB3 hb3 hb2
    go_wp2_with (first
      | (go_at_call 19; refine (Tryd.strings_IndexByte _ _ _).mono ?_; rintro e w' ⟨rfl, rfl⟩))
    go_returns
    refine ⟨rfl, .inr ?_, (K2.out.mono hBw).trans K3.out⟩
    rw [hd.out]
    simpa [Lib.strCells, Lib.byteCells] using KB3.out
end Go.Proofs.YtniiphdbajjldaaDoor
