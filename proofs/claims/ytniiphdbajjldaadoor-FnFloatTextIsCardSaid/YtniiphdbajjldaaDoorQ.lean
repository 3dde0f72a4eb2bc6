/-
  A part of the proof of FnFloatTextIs: Float.String, impl.FloatText, spec.FloatText, and the law: it returns true.
-/
import Derived.Test.YtniiphdbajjldaaDoorP
namespace Go.Proofs.YtniiphdbajjldaaDoor
open Go.RowKit

/-- Float.format writes these bytes into a fresh Builder -/
def Fmt8 (x : Nat) (T : List UInt8) : Prop := ∀ (B b : Nat) (w : World), Lib.IsBuilder 38 5 B b [] w → B ≤ w.heap.size → Tabs w →
  Calls Tryd.prog 13 #[.float .f64 x, .pointer (some ⟨b, 0, none⟩), .int .u8 103] w fun e w' => e = .returned (.tuple #[]) ∧ Lib.IsBuilder 38 5 B b (Lib.byteCells T) w' ∧ Below B w w'
/-- Float.String hands back this text -/
def FStr (x : Nat) (T : List UInt8) : Prop := ∀ w : World, Tabs w → Calls Tryd.prog 8 #[.float .f64 x] w fun e w' => e = .returned (.string ⟨T.toArray⟩) ∧ Below w.heap.size w w'
/-- spec.FloatText hands back this text -/
def SStr (x : Nat) (T : List UInt8) : Prop := ∀ w : World, Tabs w → Calls Tryd.prog 5 #[.float .f64 x] w fun e w' => e = .returned (.string ⟨T.toArray⟩) ∧ Below w.heap.size w w'

set_option maxRecDepth 100000 in
theorem fstr_c (x : Nat) (T : List UInt8) (hf : Fmt8 x T) : FStr x T := by
  intro w hT
  have HF := Lib.hid hf
  have HB := Lib.hid (Lib.fresh_isBuilder 38 5 w)
  have hA : Below w.heap.size w (w.alloc (.cells #[.pointer none, .slice none 0 0] 38)) := (Below.refl _ _).alloc (Nat.le_refl _) _
  have HA := Lib.hid hA
  have HT := Lib.hid (Tabs.below hT hA)
  have hz : w.heap.size ≤ (w.alloc (.cells #[.pointer none, .slice none 0 0] 38)).heap.size := hA.size
  have HZ := Lib.hid hz
  clear hf hA hT hz
  go_enter Tryd.func8, Tryd.ntmps8
  go_wp2_with fail
  refine (HF.out _ _ _ HB.out HZ.out HT.out).mono ?_
  rintro e w2 ⟨rfl, hB2, hb2⟩
  have KB2 := Lib.hid hB2
  have K2 := Lib.hid hb2
  clear hB2 hb2
  go_wp2_with fail
  refine (Tryd.Builder_String_any _ _ T _ KB2.out (Nat.le_trans HZ.out K2.out.size)).mono ?_
  rintro e w3 ⟨rfl, hb3⟩
  have K3 := Lib.hid hb3
  clear hb3
  go_wp2_with fail
  go_ret
  exact ⟨rfl, (HA.out.trans K2.out).trans K3.out⟩
set_option maxRecDepth 100000 in
theorem ftext_c (b : Nat) (T : List UInt8) (hf : FStr b T) (w : World) (hT : Tabs w) : Calls Tryd.prog 4 #[.int .u64 b] w fun e w' => e = .returned (.string ⟨T.toArray⟩) ∧ Below w.heap.size w w' := by
  have h6 := ex6
  have h7 : ∀ w : World, Calls Tryd.prog 7 #[.int .u64 b] w fun e w' => e = .returned (.float .f64 b) ∧ w = w' := fun w => by
    go_enter Tryd.func7, Tryd.ntmps7
    go_wp2_with fail
    go_ret
    exact ⟨rfl, rfl⟩
  have H7 := Lib.hid h7
  have HF := Lib.hid hf
  have HT := Lib.hid hT
  clear h7 hf hT h6
  go_enter Tryd.func4, Tryd.ntmps4
  go_wp2_with fail
  refine (H7.out _).mono ?_
  rintro e w' ⟨rfl, rfl⟩
  go_wp2_with fail
  refine (HF.out _ HT.out).mono ?_
  rintro e w2 ⟨rfl, hb2⟩
  have K2 := Lib.hid hb2
  clear hb2
  go_wp2_with fail
  go_ret
  exact ⟨rfl, K2.out⟩

theorem ff_nan (x : Nat) (T : List UInt8) : FStr x T → FStr x T := id

set_option maxHeartbeats 2000000 in
set_option maxRecDepth 100000 in
theorem spec_nan (x : Nat) (f p m : Bool) (hk : Kind x f p m true) : SStr x [110, 97, 110] := by
  intro w hT
  have H3 := Lib.hid (isnan_c x true hk.n)
  clear hk hT
  go_enter Tryd.func5, Tryd.ntmps5
  go_wp2_with fail
  refine (H3.out _).mono ?_
  rintro e w' ⟨rfl, rfl⟩
  go_wp2_with fail
  go_ret
  exact ⟨rfl, Below.refl _ _⟩
set_option maxHeartbeats 2000000 in
set_option maxRecDepth 100000 in
theorem spec_inf (x : Nat) (f p m : Bool) (hk : Kind x f p m false) (hpm : p = true ∨ m = true) : SStr x (wordOf p m) := by
  intro w hT
  have H1 := Lib.hid (inf1_c x p hk.p)
  have H2 := Lib.hid (inf2_c x m hk.m)
  have H3 := Lib.hid (isnan_c x false hk.n)
  clear hk hT
  cases p
  · obtain rfl : m = true := by simpa using hpm
    go_enter Tryd.func5, Tryd.ntmps5
    go_wp2_with fail
    refine (H3.out _).mono ?_
    rintro e w' ⟨rfl, rfl⟩
    go_wp2_with fail
    refine (H1.out _).mono ?_
    rintro e w' ⟨rfl, rfl⟩
    go_wp2_with fail
    refine (H2.out _).mono ?_
    rintro e w' ⟨rfl, rfl⟩
    go_wp2_with fail
    go_ret
    exact ⟨rfl, Below.refl _ _⟩
  · go_enter Tryd.func5, Tryd.ntmps5
    go_wp2_with fail
    refine (H3.out _).mono ?_
    rintro e w' ⟨rfl, rfl⟩
    go_wp2_with fail
    refine (H1.out _).mono ?_
    rintro e w' ⟨rfl, rfl⟩
    go_wp2_with fail
    go_ret
    exact ⟨rfl, Below.refl _ _⟩
theorem app_text (s : ByteArray) (l : List UInt8) (h : s.data.toList ++ [46, 48] = l) : s ++ ⟨#[46, 48]⟩ = ⟨l.toArray⟩ := by
  subst h
  obtain ⟨⟨d⟩⟩ := s
  rfl
set_option maxHeartbeats 2000000 in
set_option maxRecDepth 100000 in
theorem spec_f1 (x : Nat) (s : ByteArray) (f : Bool) (hk : Kind x f false false false) (hff : FF x s) (h2 : Lib.indexByte s.data.toList 46 < 0) (h1 : Lib.indexByte s.data.toList 101 < 0) : ∀ w : World, Tabs w → Calls Tryd.prog 5 #[.float .f64 x] w fun e w' => e = .returned (.string (s ++ ⟨#[46, 48]⟩)) ∧ Below w.heap.size w w' := by
  intro w hT
  have H1 := Lib.hid (inf1_c x false hk.p)
  have H2 := Lib.hid (inf2_c x false hk.m)
  have H3 := Lib.hid (isnan_c x false hk.n)
  have HF := Lib.hid hff
  have HT := Lib.hid hT
  clear hk hT hff
  go_enter Tryd.func5, Tryd.ntmps5
  go_wp2_with fail
  refine (H3.out _).mono ?_
  rintro e w' ⟨rfl, rfl⟩
  go_wp2_with fail
  refine (H1.out _).mono ?_
  rintro e w' ⟨rfl, rfl⟩
  go_wp2_with fail
  refine (H2.out _).mono ?_
  rintro e w' ⟨rfl, rfl⟩
  go_wp2_with fail
  refine (HF.out _ HT.out).mono ?_
  rintro e w2 ⟨rfl, hs, hb2⟩
  have K2 := Lib.hid hb2
  have KS := Lib.hid hs
  clear hb2 hs
  go_wp2_with fail
  refine (place_c s 46 _ KS.out).mono ?_
  rintro e w' ⟨rfl, rfl⟩
  go_wp2_with fail
  refine (place_c s 101 _ KS.out).mono ?_
  rintro e w' ⟨rfl, rfl⟩
  go_wp2_with fail
  · exfalso; have := KS.out; omega
  go_ret
  exact ⟨rfl, K2.out⟩
set_option maxHeartbeats 2000000 in
set_option maxRecDepth 100000 in
theorem spec_f2 (x : Nat) (s : ByteArray) (f : Bool) (hk : Kind x f false false false) (hff : FF x s) (h2 : Lib.indexByte s.data.toList 46 < 0) (h1 : 0 ≤ Lib.indexByte s.data.toList 101) : ∀ w : World, Tabs w → Calls Tryd.prog 5 #[.float .f64 x] w fun e w' => e = .returned (.string s) ∧ Below w.heap.size w w' := by
  intro w hT
  have H1 := Lib.hid (inf1_c x false hk.p)
  have H2 := Lib.hid (inf2_c x false hk.m)
  have H3 := Lib.hid (isnan_c x false hk.n)
  have HF := Lib.hid hff
  have HT := Lib.hid hT
  clear hk hT hff
  go_enter Tryd.func5, Tryd.ntmps5
  go_wp2_with fail
  refine (H3.out _).mono ?_
  rintro e w' ⟨rfl, rfl⟩
  go_wp2_with fail
  refine (H1.out _).mono ?_
  rintro e w' ⟨rfl, rfl⟩
  go_wp2_with fail
  refine (H2.out _).mono ?_
  rintro e w' ⟨rfl, rfl⟩
  go_wp2_with fail
  refine (HF.out _ HT.out).mono ?_
  rintro e w2 ⟨rfl, hs, hb2⟩
  have K2 := Lib.hid hb2
  have KS := Lib.hid hs
  clear hb2 hs
  go_wp2_with fail
  refine (place_c s 46 _ KS.out).mono ?_
  rintro e w' ⟨rfl, rfl⟩
  go_wp2_with fail
  refine (place_c s 101 _ KS.out).mono ?_
  rintro e w' ⟨rfl, rfl⟩
  go_wp2_with fail
  go_ret
  exact ⟨rfl, K2.out⟩
set_option maxHeartbeats 2000000 in
set_option maxRecDepth 100000 in
theorem spec_f3 (x : Nat) (s : ByteArray) (f : Bool) (hk : Kind x f false false false) (hff : FF x s) (h2 : 0 ≤ Lib.indexByte s.data.toList 46) : ∀ w : World, Tabs w → Calls Tryd.prog 5 #[.float .f64 x] w fun e w' => e = .returned (.string s) ∧ Below w.heap.size w w' := by
  intro w hT
  have H1 := Lib.hid (inf1_c x false hk.p)
  have H2 := Lib.hid (inf2_c x false hk.m)
  have H3 := Lib.hid (isnan_c x false hk.n)
  have HF := Lib.hid hff
  have HT := Lib.hid hT
  clear hk hT hff
  go_enter Tryd.func5, Tryd.ntmps5
  go_wp2_with fail
  refine (H3.out _).mono ?_
  rintro e w' ⟨rfl, rfl⟩
  go_wp2_with fail
  refine (H1.out _).mono ?_
  rintro e w' ⟨rfl, rfl⟩
  go_wp2_with fail
  refine (H2.out _).mono ?_
  rintro e w' ⟨rfl, rfl⟩
  go_wp2_with fail
  refine (HF.out _ HT.out).mono ?_
  rintro e w2 ⟨rfl, hs, hb2⟩
  have K2 := Lib.hid hb2
  have KS := Lib.hid hs
  clear hb2 hs
  go_wp2_with fail
  refine (place_c s 46 _ KS.out).mono ?_
  rintro e w' ⟨rfl, rfl⟩
  go_wp2_with fail
  go_ret
  exact ⟨rfl, K2.out⟩
theorem spec_fin (x : Nat) (s : ByteArray) (f : Bool) (hk : Kind x f false false false) (hff : FF x s) : SStr x (dotted s) := by
  intro w hT
  by_cases h2 : Lib.indexByte s.data.toList 46 < 0
  · by_cases h1 : Lib.indexByte s.data.toList 101 < 0
    · have h := spec_f1 x s f hk hff h2 h1 w hT
      rw [app_text s (dotted s) (show s.data.toList ++ [46, 48] = dotted s from by rw [dotted, if_pos ⟨h1, h2⟩])] at h
      exact h
    · have h := spec_f2 x s f hk hff h2 (by omega) w hT
      rw [show s = ⟨(dotted s).toArray⟩ from by rw [dotted, if_neg (fun h => h1 h.1)]] at h
      exact h
  · have h := spec_f3 x s f hk hff (by omega) w hT
    rw [show s = ⟨(dotted s).toArray⟩ from by rw [dotted, if_neg (fun h => h2 h.2)]] at h
    exact h
/-- both hand back one text -/
theorem both_any (x : Nat) (hx : x < 18446744073709551616) : ∃ T, FStr x T ∧ SStr x T := by
  rcases Nat.lt_trichotomy (x % 9223372036854775808) 9218868437227405312 with h | h | h
  · obtain ⟨l, hl⟩ := ff_any x hx h
    refine ⟨dotted (strOfNums l), fstr_c x _ (fun B b w hB hBw hT => format_c x _ hl h B b w hB hBw hT), spec_fin x _ true (kind_fin x h) hl⟩
  · have : x = 9218868437227405312 ∨ x = 18442240474082181120 := by omega
    rcases this with rfl | rfl
    · exact ⟨wordOf true false, fstr_c _ _ (fun B b w hB hBw _ => format_non _ true false false kind_p B b w hB hBw), spec_inf _ _ _ _ kind_p (.inl rfl)⟩
    · exact ⟨wordOf false true, fstr_c _ _ (fun B b w hB hBw _ => format_non _ false true false kind_m B b w hB hBw), spec_inf _ _ _ _ kind_m (.inr rfl)⟩
  · exact ⟨wordOf false false, fstr_c x _ (fun B b w hB hBw _ => format_non x false false true (kind_nan x h) B b w hB hBw), spec_nan x _ _ _ (kind_nan x h)⟩
set_option maxRecDepth 100000 in
theorem law_c (x : Nat) (hx : x < 18446744073709551616) (w : World) (hT : Tabs w) : Calls Tryd.prog 3 #[.int .u64 x] w fun e w' => e = .returned (.bool true) ∧ Below w.heap.size w w' := by
  obtain ⟨T, h1, h2⟩ := both_any x hx
  have h6 := ex6
  have HF := Lib.hid (ftext_c x T h1)
  have HS := Lib.hid h2
  have HT := Lib.hid hT
  clear h1 h2 hT
  go_enter Tryd.func3, Tryd.ntmps3
  go_wp2_with fail
  refine (HF.out _ HT.out).mono ?_
  rintro e w2 ⟨rfl, hb2⟩
  have K2 := Lib.hid hb2
  have HT2 := Lib.hid (HT.out.below hb2)
  clear hb2
  go_wp2_with fail
  refine (HS.out _ HT2.out).mono ?_
  rintro e w3 ⟨rfl, hb3⟩
  have K3 := Lib.hid (K2.out.trans (hb3.mono K2.out.size))
  clear hb3
  go_wp2_with fail
  go_ret
  exact ⟨by simp, K3.out⟩
end Go.Proofs.YtniiphdbajjldaaDoor
