/-
  A part of the proof of FnFloatTextIs: ftoa64: one text, whatever the world.
-/
import Derived.Test.YtniiphdbajjldaaDoorH
namespace Go.Proofs.YtniiphdbajjldaaDoor
open Go.RowKit
theorem below_da (w : World) (n : Nat) (o : Obj) : Below w.heap.size w ((w.drewN n).alloc o) := (drewN_below n ▸ Below.refl _ _ : Below w.heap.size w (w.drewN n)).alloc (Nat.le_refl _) o
/-- ftoa64 at 'g', shortest: one text, whatever the world -/
def Ftoa (x : Nat) : Prop := ∃ out : List Int, ∀ (B : Nat) (w0 w : World) (v : Value), St B w0 none v [] w → Tabs w →
    Calls Tryd.prog 22 #[v, .float .f64 x, .int .u8 103, .int .i64 (-1)] w fun e w' => ∃ v', e = .returned v' ∧ St B w0 none v' out w'

theorem sf_sub (M L : Nat) (h0 : 1 ≤ M) (h1 : M < 4503599627370496) (hL : Lib.bitLen M = L) : 1 ≤ L ∧ L ≤ 52 ∧ SF (IntKind.u64.wrap ((M : Int) * 2 ^ (64 - L))) (-1022 - (64 - (L : Int)) - 52) := by
  obtain ⟨a, b, c⟩ := bitLen_pos M (by omega) (by omega)
  rw [hL] at a b c
  have hl : L ≤ 52 := hL ▸ Lib.bitLen_le M 52 (by omega) (by omega)
  have p1 : 2 ^ (L - 1) * 2 ^ (64 - L) = 9223372036854775808 := by rw [← Nat.pow_add, show L - 1 + (64 - L) = 63 from by omega]
  have p2 : 2 ^ L * 2 ^ (64 - L) = 18446744073709551616 := by rw [← Nat.pow_add, show L + (64 - L) = 64 from by omega]
  have q1 : 9223372036854775808 ≤ M * 2 ^ (64 - L) := p1 ▸ Nat.mul_le_mul_right _ b
  have q2 : M * 2 ^ (64 - L) < 18446744073709551616 := p2 ▸ Nat.mul_lt_mul_of_pos_right c (Nat.two_pow_pos _)
  have e : IntKind.u64.wrap ((M : Int) * 2 ^ (64 - L)) = ((M * 2 ^ (64 - L) : Nat) : Int) := by
    rw [IntKind.wrap_u64, Int.natCast_mul, Int.natCast_pow]
    have : ((M : Int) * (2 : Nat) ^ (64 - L)) = ((M * 2 ^ (64 - L) : Nat) : Int) := by rw [Int.natCast_mul, Int.natCast_pow]
    show ((M : Int) * (2 : Nat) ^ (64 - L)) % 18446744073709551616 = (M : Int) * (2 : Nat) ^ (64 - L)
    rw [this]
    omega
  refine ⟨a, hl, ?_⟩
  rw [e]
  exact short_3 _ _ (by omega) (by omega) (by omega) (by omega)

set_option maxHeartbeats 4000000 in
set_option maxRecDepth 100000 in
theorem ftoa_normal (x E M : Nat) (neg : Bool) (hE : E = x / 4503599627370496 % 2048) (hM : M = x % 4503599627370496) (hn : ((x : Int) / 9223372036854775808 != 0) = neg) (hx : x < 18446744073709551616) (hE0 : 1 ≤ E) (hE1 : E ≤ 2046) : Ftoa x := by
  have h26 := ex26
  have hM1 : M < 4503599627370496 := by omega
  have e1 : bits BinOp.and IntKind.i64 ((x : Int) / 4503599627370496) 2047 = E := by rw [i64_and2047]; omega
  have e2 : bits BinOp.and IntKind.u64 (x : Int) 4503599627370495 = M := by rw [u64_and52]; omega
  have e3 : bits BinOp.or IntKind.u64 (M : Int) 4503599627370496 = M + 4503599627370496 := u64_or52 M hM1
  have hbl := Lib.hid (bitLen_53 M hM1)
  obtain ⟨d, p, ⟨hd0, hd1⟩, hp0, hp1, hs⟩ := sf_normal E M hE0 hE1 hM1
  obtain ⟨D, rfl⟩ := Int.eq_ofNat_of_zero_le hd0
  obtain ⟨nd, hnd, hlt, hnum⟩ := numDigits_ex D (by omega)
  obtain ⟨z, hz⟩ : ∃ z, z = nzs (digs nd D) nd := ⟨_, rfl⟩
  have hznd : z ≤ nd := hz ▸ nzs_le _ _
  obtain ⟨ds, hds⟩ : ∃ ds, ds = (digs nd D).take z := ⟨_, rfl⟩
  obtain ⟨out, hout⟩ := fmtG_any neg z ds (nd + p) (by omega) (by omega) (by omega)
  have HS := Lib.hid hs
  have HN := Lib.hid hnum
  have HO := Lib.hid hout
  have HLT := Lib.hid hlt
  have HZ := Lib.hid hz
  have HDS := Lib.hid hds
  have hD : D < 18446744073709551616 := by omega
  clear hE hM hs hnum hout hlt hz hds hd1 hd0
  refine ⟨out, fun B w0 w v hst hT => ?_⟩
  have KT := Lib.hid hT
  have KST := Lib.hid hst
  clear hT hst
  go_enter Tryd.func22, Tryd.ntmps22
  go_wp2_with fail
  go_quiet (fail)
  go_wp2_with fail
  refine (Tryd.bits_Len64 _ _ (by omega) (by omega)).mono ?_
  rintro e w' ⟨rfl, rfl⟩
  rw [hbl.out]
  go_wp2_with fail
  refine (HS.out _ ?_).mono ?_
  · exact (Tabs.below KT.out (below_da w _ _)).1
  rintro en w2 ⟨rfl, hb2⟩
  have hb3 : Below w.heap.size w w2 := (below_da w nq _).trans (hb2.mono (by simp))
  have hbf : w2.heap[w.heap.size]? = some (.cells zeros32 56 (0, 0)) := (hb2.block _ (by simp)).trans (heap_alloc_new (w.drewN nq) (.cells zeros32 56))
  have HT2 : Hid (Tabs w2.drew) := Lib.hid (KT.out.below hb3.drew)
  have HB := Lib.hid hb3
  have HC : Hid (Calls Tryd.prog 32 #[.slice (some ⟨w.heap.size, 0, none⟩) 32 32, .int .u64 D, .int .i64 p, .int .i64 nd] w2.drew fun e w' => e = .returned (.tuple #[.int .i64 (nd + p), .int .i64 z]) ∧ w2.drew.grownBy w' (some w.heap.size) ∧ ∃ arr, w'.heap[w.heap.size]? = some (.cells arr 56 (0, 0)) ∧ Dig arr z ds) := Lib.hid (by
    have h := setDigits_ex D nd p hnd HLT.out hD (by omega) (by omega) w.heap.size w2.drew hbf
    rw [← HZ.out, ← HDS.out] at h
    exact h)
  have hsz2 : w.heap.size < w2.heap.size := by have := hb2.size; simp at this; omega
  clear hb2 hb3 hbf
  go_wp2_with fail
  go_region_with (first
    | (go_at_call 33; refine (HN.out _ HT2.out).mono ?_; rintro en w3 ⟨rfl, rfl⟩)
    | (go_at_call 32; refine HC.out.mono ?_; rintro en w3 ⟨rfl, hg3, arr, ha3, hdig⟩))
  have hst3 := Lib.hid (KST.out.enter HB.out.drew hg3 (Nat.le_refl _) ha3)
  have hdg := Lib.hid hdig
  clear hg3 ha3 hdig
  go_wp2_with fail
  refine (HO.out B w0 _ _ _ _ hdg.out hst3.out).mono ?_
  rintro en w4 ⟨v4, rfl, hst4⟩
  have HST := Lib.hid hst4
  clear hst4
  go_wp2_with fail
  go_ret
  exact ⟨_, rfl, HST.out.leave⟩
set_option maxHeartbeats 4000000 in
set_option maxRecDepth 100000 in
theorem ftoa_sub (x M L : Nat) (neg : Bool) (hE : x / 4503599627370496 % 2048 = 0) (hM : M = x % 4503599627370496) (hn : ((x : Int) / 9223372036854775808 != 0) = neg) (hx : x < 18446744073709551616) (hM0 : 1 ≤ M) (hL : Lib.bitLen M = L) : Ftoa x := by
  have h26 := ex26
  have hM1 : M < 4503599627370496 := by omega
  have e1 : bits BinOp.and IntKind.i64 ((x : Int) / 4503599627370496) 2047 = 0 := by rw [i64_and2047]; omega
  have e2 : bits BinOp.and IntKind.u64 (x : Int) 4503599627370495 = M := by rw [u64_and52]; omega
  have hmz : ((M : Int) == 0) = false := by simp; omega
  obtain ⟨hL1, hL2, hsf⟩ := sf_sub M L hM0 hM1 hL
  have HL := Lib.hid hL
  obtain ⟨d, p, ⟨hd0, hd1⟩, hp0, hp1, hs⟩ := hsf
  obtain ⟨D, rfl⟩ := Int.eq_ofNat_of_zero_le hd0
  obtain ⟨nd, hnd, hlt, hnum⟩ := numDigits_ex D (by omega)
  obtain ⟨z, hz⟩ : ∃ z, z = nzs (digs nd D) nd := ⟨_, rfl⟩
  have hznd : z ≤ nd := hz ▸ nzs_le _ _
  obtain ⟨ds, hds⟩ : ∃ ds, ds = (digs nd D).take z := ⟨_, rfl⟩
  obtain ⟨out, hout⟩ := fmtG_any neg z ds (nd + p) (by omega) (by omega) (by omega)
  have HS := Lib.hid hs
  have HN := Lib.hid hnum
  have HO := Lib.hid hout
  have HLT := Lib.hid hlt
  have HZ := Lib.hid hz
  have HDS := Lib.hid hds
  have hD : D < 18446744073709551616 := by omega
  clear hE hM hL hs hnum hout hlt hz hds hd1 hd0
  refine ⟨out, fun B w0 w v hst hT => ?_⟩
  have KT := Lib.hid hT
  have KST := Lib.hid hst
  clear hT hst
  go_enter Tryd.func22, Tryd.ntmps22
  go_wp2_with fail
  go_quiet (fail)
  go_wp2_with fail
  refine (Tryd.bits_Len64 _ _ (by omega) (by omega)).mono ?_
  rintro e w' ⟨rfl, rfl⟩
  rw [Int.toNat_natCast, HL.out]
  go_wp2_with fail
  refine (HS.out _ ?_).mono ?_
  · exact (Tabs.below KT.out (below_da w _ _)).1
  rintro en w2 ⟨rfl, hb2⟩
  have hb3 : Below w.heap.size w w2 := (below_da w nq _).trans (hb2.mono (by simp))
  have hbf : w2.heap[w.heap.size]? = some (.cells zeros32 56 (0, 0)) := (hb2.block _ (by simp)).trans (heap_alloc_new (w.drewN nq) (.cells zeros32 56))
  have HT2 : Hid (Tabs w2.drew) := Lib.hid (KT.out.below hb3.drew)
  have HB := Lib.hid hb3
  have HC : Hid (Calls Tryd.prog 32 #[.slice (some ⟨w.heap.size, 0, none⟩) 32 32, .int .u64 D, .int .i64 p, .int .i64 nd] w2.drew fun e w' => e = .returned (.tuple #[.int .i64 (nd + p), .int .i64 z]) ∧ w2.drew.grownBy w' (some w.heap.size) ∧ ∃ arr, w'.heap[w.heap.size]? = some (.cells arr 56 (0, 0)) ∧ Dig arr z ds) := Lib.hid (by
    have h := setDigits_ex D nd p hnd HLT.out hD (by omega) (by omega) w.heap.size w2.drew hbf
    rw [← HZ.out, ← HDS.out] at h
    exact h)
  have hsz2 : w.heap.size < w2.heap.size := by have := hb2.size; simp at this; omega
  clear hb2 hb3 hbf
  go_wp2_with fail
  go_region_with (first
    | (go_at_call 33; refine (HN.out _ HT2.out).mono ?_; rintro en w3 ⟨rfl, rfl⟩)
    | (go_at_call 32; refine HC.out.mono ?_; rintro en w3 ⟨rfl, hg3, arr, ha3, hdig⟩))
  have hst3 := Lib.hid (KST.out.enter HB.out.drew hg3 (Nat.le_refl _) ha3)
  have hdg := Lib.hid hdig
  clear hg3 ha3 hdig
  go_wp2_with fail
  refine (HO.out B w0 _ _ _ _ hdg.out hst3.out).mono ?_
  rintro en w4 ⟨v4, rfl, hst4⟩
  have HST := Lib.hid hst4
  clear hst4
  go_wp2_with fail
  go_ret
  exact ⟨_, rfl, HST.out.leave⟩
set_option maxHeartbeats 4000000 in
set_option maxRecDepth 100000 in
theorem ftoa_zero (x : Nat) (neg : Bool) (hE : x / 4503599627370496 % 2048 = 0) (hM : x % 4503599627370496 = 0) (hn : ((x : Int) / 9223372036854775808 != 0) = neg) (hx : x < 18446744073709551616) : Ftoa x := by
  have h26 := ex26
  have e1 : bits BinOp.and IntKind.i64 ((x : Int) / 4503599627370496) 2047 = 0 := by rw [i64_and2047]; omega
  have e2 : bits BinOp.and IntKind.u64 (x : Int) 4503599627370495 = 0 := by rw [u64_and52]; omega
  obtain ⟨out, hout⟩ := fmt_nil neg
  have HO := Lib.hid hout
  clear hE hM hout
  refine ⟨out, fun B w0 w v hst hT => ?_⟩
  have KST := Lib.hid hst
  clear hT hst
  go_enter Tryd.func22, Tryd.ntmps22
  go_wp2_with fail
  go_quiet (fail)
  go_wp2_with fail
  refine (HO.out B w0 _ _ (KST.out.drew _)).mono ?_
  rintro en w4 ⟨v4, rfl, hst4⟩
  have HST := Lib.hid hst4
  clear hst4
  go_wp2_with fail
  go_ret
  exact ⟨_, rfl, HST.out⟩

theorem ftoa_any (x : Nat) (hx : x < 18446744073709551616) (hf : x % 9223372036854775808 < 9218868437227405312) : Ftoa x := by
  by_cases hE : x / 4503599627370496 % 2048 = 0
  · by_cases hM : x % 4503599627370496 = 0
    · exact ftoa_zero x _ hE hM rfl hx
    · exact ftoa_sub x _ _ _ hE rfl rfl hx (by omega) rfl
  · exact ftoa_normal x _ _ _ rfl rfl rfl hx (by omega) (by omega)
end Go.Proofs.YtniiphdbajjldaaDoor
