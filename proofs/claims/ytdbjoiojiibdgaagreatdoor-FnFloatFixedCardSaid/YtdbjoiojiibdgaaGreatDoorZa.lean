/-
  A part of the proof of FnFloatFixed (packed out of smaller texts by a program of this session; what the proof does not reach is left out).
-/
import Derived.Test.YtdbjoiojiibdgaaGreatDoorZ9
import Derived.Test.YtdbjoiojiibdgaaGreatDoorZ8
import Derived.Test.YtdbjoiojiibdgaaGreatDoorZ7b
import Derived.Deep.RegionWith
namespace Go.Proofs.YtdbjoiojiibdgaaGreatDoor
open Go.RowKit
theorem ex54 (b : Nat) (w : World) : (callFunc 54 #[.float .f64 b]).run Tryz.prog w = .ok (.value (.int .u64 b)) w := by
  rw [run_callFunc_extern (e := Extern.MathFloatBits.float64bits) Tryz.func54 (by kernel_rfl) (by kernel_rfl) (by kernel_rfl) (by kernel_rfl)]
  rfl
structure All (w : World) : Prop where
  tabs : Tabs w
  opt : w.cell? ⟨1, 0, none⟩ = some (.bool true)
  ch : Cheats w
theorem cell_below {w w' : World} (hb : Below w.heap.size w w') {a : Addr} {v : Value} (h : w.cell? a = some v) : w'.cell? a = some v := by
  have hlt : a.block < w.heap.size := by
    rcases Nat.lt_or_ge a.block w.heap.size with h' | h'
    · exact h'
    · simp [World.cell?, Array.getElem?_eq_none h'] at h
  exact (hb.cell hlt).trans h
theorem Tabs.below {w w' : World} (h : Tabs w) (hb : Below w.heap.size w w') : Tabs w' := by
  obtain ⟨⟨hz, hp⟩, ht⟩ := h
  refine ⟨⟨Nat.le_trans hz hb.size, fun i hi => ⟨cell_below hb (hp i hi).1, cell_below hb (hp i hi).2⟩⟩, ?_⟩
  unfold Lib.TabIs at ht ⊢
  rw [← ht]
  have hg : Tryz.prog.globalNamed "internal/strconv.uint64pow10" = some 3 := by kernel_rfl
  have h2 := hb.block 3 (by omega)
  simp only [World.var?, hg, Option.bind_some, h2]
theorem All.below {w w' : World} (h : All w) (hb : Below w.heap.size w w') : All w' := by
  obtain ⟨tb, h1, h2⟩ := h.ch
  exact ⟨h.tabs.below hb, cell_below hb h.opt, tb, cell_below hb h1, fun k h1k hk => ⟨cell_below hb (h2 k h1k hk).1, cell_below hb (h2 k h1k hk).2⟩⟩
theorem below_da (w : World) (n : Nat) (o : Obj) : Below w.heap.size w ((w.drewN n).alloc o) := (drewN_below n ▸ Below.refl _ _ : Below w.heap.size w (w.drewN n)).alloc (Nat.le_refl _) o
theorem St.enter {B : Nat} {w0 w w2 w3 : World} {v : Value} {l : List Int} {sb : Nat} {T : TypeId} {arr : Array Value} (h : St B w0 none v l w) (hb : Below w.heap.size w w2) (hg : w2.grownBy w3 (some sb)) (hsb : w.heap.size ≤ sb)
    (ha : w3.heap[sb]? = some (.cells arr T (0, 0))) : St B w0 (some (sb, T, arr)) v l w3 := by
  have hb3 : Below w.heap.size w w3 := ⟨hg.os.trans hb.os, hg.tape.trans hb.tape, hg.output.trans hb.output, Nat.le_trans hb.size hg.size, fun k hk => (hg.block k (Nat.lt_of_lt_of_le hk hb.size) (fun e => by have := Option.some.inj e; omega)).trans (hb.block k hk)⟩
  refine ⟨h.own.kept (row := none) ⟨hb3.os, hb3.tape, hb3.output, hb3.size, fun k hk _ => hb3.block k hk⟩ (Classical.em _), h.bel.trans (hb3.mono h.size), ?_, Nat.le_trans h.size hb3.size, h.len⟩
  intro p hp
  obtain rfl := Option.some.inj hp
  refine ⟨ha, fun e => ?_⟩
  have := (h.own.lt _ e).2
  simp only at this
  omega
theorem St.leave {B : Nat} {w0 w : World} {v : Value} {l : List Int} {D : Option (Nat × TypeId × Array Value)} (h : St B w0 D v l w) : St B w0 none v l w :=
  ⟨h.own, h.bel, fun p hp => (by cases hp), h.size, h.len⟩
def ng (x : Nat) : Bool := (x : Int) / 9223372036854775808 != 0
def FT (x : Nat) : Prop := ∀ (B : Nat) (w0 w : World) (v : Value), St B w0 none v [] w → All w →
    Calls Tryz.prog 50 #[v, .float .f64 x, .int .u8 102, .int .i64 6] w fun e w' => ∃ v', e = .returned v' ∧ St B w0 none v' (sgn (ng x) ++ tx (MN x)) w'
theorem tx_zero : tx 0 = [48] ++ [46] ++ List.replicate 6 48 := by
  have := text_c 0 0 0 6 0 rfl (by decide) rfl
  rw [← this]
  rfl
theorem mn_zero (x : Nat) (h : 2 * (mantOf x * 2 ^ (expOf x).toNat * 1000000) < 2 ^ (-(expOf x)).toNat) : MN x = 0 := rne_small h
set_option maxHeartbeats 4000000 in
set_option maxRecDepth 100000 in
theorem ftoa_zero (x : Nat) (hE : x / 4503599627370496 % 2048 = 0) (hM : x % 4503599627370496 = 0) (hx : x < 18446744073709551616) : FT x := by
  have h54 := ex54
  have e1 : bits BinOp.and IntKind.i64 ((x : Int) / 4503599627370496) 2047 = 0 := by rw [i64_and2047]; omega
  have e2 : bits BinOp.and IntKind.u64 (x : Int) 4503599627370495 = 0 := by rw [u64_and52]; omega
  have hN : MN x = 0 := mn_zero x (by
    unfold mantOf
    rw [if_pos hE, hM, Nat.zero_mul, Nat.zero_mul]
    exact Nat.pow_pos (by decide))
  intro B w0 w v hst hT
  rw [hN, tx_zero, ← List.append_assoc, ← List.append_assoc]
  have KST := Lib.hid hst
  obtain ⟨neg, hn⟩ : ∃ neg, neg = ng x := ⟨_, rfl⟩
  rw [← hn]
  have hn' : ((x : Int) / 9223372036854775808 != 0) = neg := hn.symm
  clear hst hT hE hM hN hn
  go_enter Tryz.func50, Tryz.ntmps50
  go_wp2_with fail
  go_quiet (fail)
  go_wp2_with fail
  refine (fmt00 neg _ B w0 _ none _ (KST.out.drew _)).mono ?_
  rintro en w4 ⟨v4, rfl, hst4⟩
  have HST := Lib.hid hst4
  clear hst4
  go_wp2_with fail
  go_ret
  exact ⟨_, rfl, HST.out⟩
end Go.Proofs.YtdbjoiojiibdgaaGreatDoor
namespace Go.Proofs.YtdbjoiojiibdgaaGreatDoor
open Go.RowKit
theorem small_n (m t : Nat) (hm : m < 2 ^ 53) (ht : 76 ≤ t) : 2 * (m * 1000000) < 2 ^ t := by
  have h1 : 2 ^ 76 ≤ 2 ^ t := Nat.pow_le_pow_right (by decide) ht
  omega
set_option maxHeartbeats 4000000 in
set_option maxRecDepth 100000 in
set_option exponentiation.threshold 2000 in
theorem ftoa_sub (x : Nat) (hE : x / 4503599627370496 % 2048 = 0) (hM : x % 4503599627370496 ≠ 0) (hx : x < 18446744073709551616) : FT x := by
  have h54 := ex54
  obtain ⟨M, hMe⟩ : ∃ M, M = x % 4503599627370496 := ⟨_, rfl⟩
  have hM1 : M < 4503599627370496 := by omega
  have hmz : ((M : Int) == 0) = false := by simp; omega
  have e1 : bits BinOp.and IntKind.i64 ((x : Int) / 4503599627370496) 2047 = 0 := by rw [i64_and2047]; omega
  have e2 : bits BinOp.and IntKind.u64 (x : Int) 4503599627370495 = M := by rw [u64_and52]; omega
  have hN : MN x = 0 := mn_zero x (by
    unfold mantOf expOf
    rw [if_pos hE, if_pos hE, ← hMe]
    exact small_n (M * 1) 1074 (by omega) (by decide))
  intro B w0 w v hst hT
  rw [hN, tx_zero, ← List.append_assoc, ← List.append_assoc]
  have KST := Lib.hid hst
  have hopt := hT.opt
  obtain ⟨neg, hn⟩ : ∃ neg, neg = ng x := ⟨_, rfl⟩
  rw [← hn]
  have hn' : ((x : Int) / 9223372036854775808 != 0) = neg := hn.symm
  clear hst hT hE hM hN hn hMe
  go_enter Tryz.func50, Tryz.ntmps50
  go_wp2_with fail
  go_quiet (fail)
  go_wp2_with (go_at_call 62; go_in)
  refine (fmt00 neg _ B w0 _ none _ ((KST.out.drew nq).alloc _)).mono ?_
  rintro en w4 ⟨v4, rfl, hst4⟩
  have HST := Lib.hid hst4
  clear hst4
  go_wp2_with fail
  go_ret
  exact ⟨_, rfl, HST.out⟩
set_option maxHeartbeats 4000000 in
set_option maxRecDepth 100000 in
theorem ftoa_small (x E : Nat) (hE : E = x / 4503599627370496 % 2048) (hE0 : 1 ≤ E) (hE1 : E ≤ 999) (hx : x < 18446744073709551616) : FT x := by
  have h54 := ex54
  obtain ⟨M, hMe⟩ : ∃ M, M = x % 4503599627370496 := ⟨_, rfl⟩
  have hM1 : M < 4503599627370496 := by omega
  have e1 : bits BinOp.and IntKind.i64 ((x : Int) / 4503599627370496) 2047 = E := by rw [i64_and2047]; omega
  have e2 : bits BinOp.and IntKind.u64 (x : Int) 4503599627370495 = M := by rw [u64_and52]; omega
  have e3 : bits BinOp.or IntKind.u64 (M : Int) 4503599627370496 = M + 4503599627370496 := u64_or52 M hM1
  have hN : MN x = 0 := mn_zero x (by
    unfold mantOf expOf
    rw [if_neg (by omega), if_neg (by omega), ← hMe, ← hE, show ((E : Int) - 1075).toNat = 0 from by omega, Nat.pow_zero, Nat.mul_one]
    exact small_n _ _ (by omega) (by omega))
  intro B w0 w v hst hT
  rw [hN, tx_zero, ← List.append_assoc, ← List.append_assoc]
  have KST := Lib.hid hst
  have hopt := hT.opt
  obtain ⟨neg, hn⟩ : ∃ neg, neg = ng x := ⟨_, rfl⟩
  rw [← hn]
  have hn' : ((x : Int) / 9223372036854775808 != 0) = neg := hn.symm
  clear hst hT hE hN hn hMe
  go_enter Tryz.func50, Tryz.ntmps50
  go_wp2_with fail
  go_quiet (fail)
  go_wp2_with (go_at_call 62; go_in)
  refine (fmt00 neg _ B w0 _ none _ ((KST.out.drew nq).alloc _)).mono ?_
  rintro en w4 ⟨v4, rfl, hst4⟩
  have HST := Lib.hid hst4
  clear hst4
  go_wp2_with fail
  go_ret
  exact ⟨_, rfl, HST.out⟩
end Go.Proofs.YtdbjoiojiibdgaaGreatDoor
namespace Go.Proofs.YtdbjoiojiibdgaaGreatDoor
open Go.RowKit
theorem fmt_c (neg : Bool) (k U N : Nat) (dp : Int) (hk1 : 1 ≤ k) (hU : U < 10 ^ k) (hU0 : 10 ^ (k - 1) ≤ U) (hk : (k : Int) ≤ dp + 6) (hdp : dp ≤ 1000) (hk4 : k ≤ 400) (hN : N = U * 10 ^ (dp + 6 - k).toNat)
    (B : Nat) (w0 w : World) (sb : Nat) (T : TypeId) (arr : Array Value) (c : Nat) (hc : k ≤ c) (v : Value) (hat : ∀ j, j < k → arr[j]? = some (.int .u8 ((dgl U k).getD j 0))) (hst : St B w0 (some (sb, T, arr)) v [] w) :
    Calls Tryz.prog 57 #[v, .bool neg, .slice (some ⟨sb, 0, none⟩) c c, .int .i64 dp, .int .i64 k, .int .i64 6, .int .u8 102, .bool false] w fun en w' =>
      ∃ v', en = .returned v' ∧ St B w0 none v' (sgn neg ++ tx N) w' := by
  by_cases h1 : 1 ≤ dp
  · obtain ⟨d, rfl⟩ := Int.eq_ofNat_of_zero_le (by omega : 0 ≤ dp)
    by_cases h2 : k ≤ d
    · refine (fmtIa neg k d (d - k) (by omega) (by omega) (by omega) hk4 (dgl U k) B w0 w sb T arr c hc v hat (dgl_len U k) hst).mono ?_
      rintro en w' ⟨v', rfl, h⟩
      refine ⟨v', rfl, ?_⟩
      have e := text_a U k (d - k) N (by omega) hU0 hU (by rw [hN, show ((d : Int) + 6 - k).toNat = d - k + 6 from by omega])
      rw [← e]
      simp only [List.append_assoc] at h ⊢
      exact h.leave
    · refine (fmtIb neg k d (k - d) (d + 6 - k) (by omega) (by omega) (by omega) (by omega) (by omega) hk4 (dgl U k) B w0 w sb T arr c hc v hat (dgl_len U k) hst).mono ?_
      rintro en w' ⟨v', rfl, h⟩
      refine ⟨v', rfl, ?_⟩
      have hkd : d + (k - d) = k := by omega
      have e := text_b U d (k - d) (d + 6 - k) N (by omega) (by omega) (by rw [hkd]; exact hU0) (by rw [hkd]; exact hU) (by rw [hN, show ((d : Int) + 6 - k).toNat = d + 6 - k from by omega])
      rw [hkd] at e
      rw [← e]
      simp only [List.append_assoc] at h ⊢
      exact h.leave
  · obtain ⟨z, hz⟩ := Int.eq_ofNat_of_zero_le (by omega : 0 ≤ -dp)
    obtain rfl : dp = -(z : Int) := by omega
    refine (fmtII neg k z (6 - z - k) (by omega) (by omega) (dgl U k) B w0 w sb T arr c hc v hat (dgl_len U k) hst).mono ?_
    rintro en w' ⟨v', rfl, h⟩
    refine ⟨v', rfl, ?_⟩
    have e := text_c U k z (6 - z - k) N (by omega) hU (by rw [hN, show (-(z : Int) + 6 - k).toNat = 6 - z - k from by omega])
    rw [← e]
    simp only [List.append_assoc] at h ⊢
    exact h.leave
theorem St.below {B : Nat} {w0 w w2 : World} {v : Value} {l : List Int} (h : St B w0 none v l w) (hb3 : Below w.heap.size w w2) : St B w0 none v l w2 :=
  ⟨h.own.kept (row := none) ⟨hb3.os, hb3.tape, hb3.output, hb3.size, fun k hk _ => hb3.block k hk⟩ (Classical.em _), h.bel.trans (hb3.mono h.size), fun p hp => (by cases hp), Nat.le_trans h.size hb3.size, h.len⟩
theorem low_nd (N : Nat) (h : 1 ≤ N) : 10 ^ (Lib.nDigits N - 1) ≤ N := by
  obtain ⟨_, h1, h2⟩ := dle_law N
  obtain ⟨h2, h3⟩ := h2 (by omega)
  have h4 : (dle N).length - 1 + 1 = (dle N).length := by omega
  have := Lib.nDigits_unique ((dle N).length - 1) N h2 (by rw [h4]; exact h1)
  rw [this, Nat.add_sub_cancel]
  exact h2
theorem bitLen_53 (M : Nat) (h0 : 4503599627370496 ≤ M) (h : M < 9007199254740992) : Lib.bitLen M = 53 := by
  rw [Lib.bitLen_shift 52 _ (by omega) (by omega)]
  have : M / 2 ^ 52 = 1 := by omega
  rw [this]
  rfl
set_option maxHeartbeats 4000000 in
set_option maxRecDepth 100000 in
theorem ftoa_fix1 (x E : Nat) (hE : E = x / 4503599627370496 % 2048) (hE0 : 1023 ≤ E) (hE1 : E ≤ 1061) (hx : x < 18446744073709551616) : FT x := by
  have h54 := ex54
  obtain ⟨M, hMe⟩ : ∃ M, M = x % 4503599627370496 := ⟨_, rfl⟩
  obtain ⟨m, hm⟩ : ∃ m, m = M + 4503599627370496 := ⟨_, rfl⟩
  have hM1 : M < 4503599627370496 := by omega
  have e1 : bits BinOp.and IntKind.i64 ((x : Int) / 4503599627370496) 2047 = E := by rw [i64_and2047]; omega
  have e2 : bits BinOp.and IntKind.u64 (x : Int) 4503599627370495 = M := by rw [u64_and52]; omega
  have e3 : bits BinOp.or IntKind.u64 (M : Int) 4503599627370496 = (m : Int) := by rw [u64_or52 M hM1, hm]; rfl
  have hm0 : 4503599627370496 ≤ m := by omega
  have hm1 : m < 9007199254740992 := by omega
  obtain ⟨t, ht⟩ : ∃ t, t = 1075 - E := ⟨_, rfl⟩
  obtain ⟨n, hn⟩ : ∃ n : Nat, (n : Int) = want t := ⟨(want t).toNat, by unfold want; split <;> omega⟩
  have hN : MN x = rne (m * 1000000) (2 ^ t) := by
    unfold MN mantOf expOf
    rw [if_neg (by omega), if_neg (by omega), ← hMe, ← hm, ← hE, show ((E : Int) - 1075).toNat = 0 from by omega, Nat.pow_zero, Nat.mul_one, show (-((E : Int) - 1075)).toNat = t from by omega]
  have hdig : 1 + (1 + ((E : Int) + -1023)) * 78913 / 262144 + 6 = (n : Int) := by
    rw [hn]; unfold want; rw [if_pos (by omega)]; omega
  have hn18 : n ≤ 18 := by
    have := hn; unfold want at this; rw [if_pos (by omega)] at this; omega
  have hn1 : 1 ≤ n := by
    have := hn; unfold want at this; rw [if_pos (by omega)] at this; omega
  have hbl := Lib.hid (bitLen_53 m hm0 hm1)
  intro B w0 w v hst hT
  have KF := Lib.hid (fw_c m t n hm0 hm1 (by omega) (by omega) hn)
  rw [← hN] at KF
  obtain ⟨N, hNe⟩ : ∃ N, N = MN x := ⟨_, rfl⟩
  rw [← hNe] at KF ⊢
  obtain ⟨TX, hTX⟩ : ∃ TX, TX = tx N := ⟨_, rfl⟩
  rw [← hTX]
  have HTX := Lib.hid hTX
  have hN64 : N < 18446744073709551615 := by
    rw [hNe, hN]
    unfold rne
    have h1 : m * 1000000 / 2 ^ t ≤ m * 1000000 := Nat.div_le_self _ _
    have h2 : m * 1000000 / 2 ^ t ≤ m * 1000000 / 2 ^ 14 := Nat.div_le_div_left (Nat.pow_le_pow_right (by decide) (by omega)) (by decide)
    split <;> omega
  have KST := Lib.hid hst
  have KT := Lib.hid hT
  have hopt := hT.opt
  obtain ⟨neg, hng⟩ : ∃ neg, neg = ng x := ⟨_, rfl⟩
  rw [← hng]
  have hn' : ((x : Int) / 9223372036854775808 != 0) = neg := hng.symm
  have hexp : (E : Int) + -1023 - 11 - 52 = -(t : Int) - 11 := by omega
  clear hst hT hE hN hn hMe hng hNe hm ht hTX
  go_enter Tryz.func50, Tryz.ntmps50
  go_wp2_with fail
  go_quiet (fail)
  go_wp2_with (go_at_call 62; go_in)
  refine (Tryz.bits_Len64 _ _ (by omega) (by omega)).mono ?_
  rintro e w' ⟨rfl, rfl⟩
  rw [Int.toNat_natCast, hbl.out]
  go_wp2_with fail
  refine (KF.out _ ?_).mono ?_
  · exact (KT.out.below (below_da w _ _)).tabs
  rintro en w2 ⟨rfl, hb2⟩
  have hb3 : Below w.heap.size w w2 := (below_da w nq _).trans (hb2.mono (by simp))
  have hbf : w2.heap[w.heap.size]? = some (.cells zeros24 92 (0, 0)) := (hb2.block _ (by simp)).trans (heap_alloc_new (w.drewN nq) (.cells zeros24 92))
  have hsz2 : w.heap.size < w2.heap.size := by have := hb2.size; simp at this; omega
  have HB := Lib.hid hb3
  have HBF := Lib.hid hbf
  clear hb2 hb3 hbf
  by_cases hN0 : N = 0
  · subst hN0
    have HS2 := Lib.hid (KST.out.below HB.out)
    go_wp2_with fail
    refine (fmt00 neg _ B w0 _ none _ HS2.out).mono ?_
    rintro en w4 ⟨v4, rfl, hst4⟩
    have HST := Lib.hid hst4
    clear hst4
    go_wp2_with fail
    go_ret
    refine ⟨_, rfl, ?_⟩
    have e : sgn neg ++ TX = sgn neg ++ [48] ++ [46] ++ List.replicate 6 48 := by rw [HTX.out, tx_zero]; simp only [List.append_assoc]
    rw [e]
    exact HST.out
  · have hNz : ((N : Int) != 0) = true := by simp; omega
    obtain ⟨nd, hnd⟩ : ∃ nd, nd = Lib.nDigits N := ⟨_, rfl⟩
    have hnd20 : nd ≤ 20 := hnd ▸ Lib.nDigits_le20 N (by omega)
    have hndl := Lib.hid (hnd ▸ Lib.lt_pow_nDigits N : N < 10 ^ nd)
    have hndg := Lib.hid (hnd ▸ low_nd N (by omega) : 10 ^ (nd - 1) ≤ N)
    have HN : Hid (Calls Tryz.prog 61 #[.int .u64 N] w2.drew fun e w' => e = .returned (.int .i64 nd) ∧ w2.drew = w') := Lib.hid (by
      rw [hnd]
      exact (Tryz.internal_strconv_numDigits N (by omega) (by omega) w2.drew (KT.out.below HB.out.drew).tabs.2).mono fun e w' ⟨h1, h2⟩ => ⟨h1, h2.symm⟩)
    have HC : Hid (Calls Tryz.prog 60 #[.slice (some ⟨w.heap.size, 0, none⟩) 24 24, .int .u64 N, .int .i64 (-6), .int .i64 nd] w2.drew fun e w' => ∃ k : Nat, e = .returned (.tuple #[.int .i64 ((nd : Int) + -6), .int .i64 k]) ∧ Sd w2.drew w' w.heap.size nd N k) :=
      Lib.hid (setDigits_c N nd w.heap.size (-6) w2.drew hnd20 hndl.out (by omega) (by omega) (by omega) (by omega) HBF.out)
    clear hnd
    go_wp2_with fail
    go_region_with (first
      | (go_at_call 61; refine HN.out.mono ?_; rintro en w3 ⟨rfl, rfl⟩)
      | (go_at_call 60; refine HC.out.mono ?_; rintro en w3 ⟨k, rfl, hsd⟩))
    have KM : Hid (Calls Tryz.prog 57 #[v, .bool neg, .slice (some ⟨w.heap.size, 0, none⟩) 24 24, .int .i64 ((nd : Int) + -6), .int .i64 k, .int .i64 6, .int .u8 102, .bool false] w3 fun en w' =>
      ∃ v', en = .returned v' ∧ St B w0 none v' (sgn neg ++ TX) w') := Lib.hid (by
      obtain ⟨U, hk, hNU, hUk, hg3, arr, ha3, hat⟩ := hsd
      have hst3 := KST.out.enter HB.out.drew hg3 (Nat.le_refl _) ha3
      have hk1 : 1 ≤ k := by
        rcases Nat.eq_zero_or_pos k with e | e
        · subst e
          have : U = 0 := by simpa using hUk
          subst this
          omega
        · exact e
      have h := fmt_c neg k U N ((nd : Int) + -6) hk1 hUk (low_of hndg.out hNU hk) (by omega) (by omega) (by omega) (by rw [show ((nd : Int) + -6 + 6 - k).toNat = nd - k from by omega]; exact hNU) B w0 w3 w.heap.size 92 arr 24 (by omega) v hat hst3
      rw [HTX.out]
      exact h)
    clear hsd
    go_wp2_with fail
    refine KM.out.mono ?_
    rintro en w4 ⟨v4, rfl, hst4⟩
    have HST := Lib.hid hst4
    clear hst4
    go_wp2_with fail
    go_ret
    exact ⟨_, rfl, HST.out⟩
end Go.Proofs.YtdbjoiojiibdgaaGreatDoor
namespace Go.Proofs.YtdbjoiojiibdgaaGreatDoor
open Go.RowKit
set_option maxHeartbeats 4000000 in
set_option maxRecDepth 100000 in
theorem ftoa_fix2 (x E : Nat) (hE : E = x / 4503599627370496 % 2048) (hE0 : 1000 ≤ E) (hE1 : E ≤ 1022) (hx : x < 18446744073709551616) : FT x := by
  have h54 := ex54
  obtain ⟨M, hMe⟩ : ∃ M, M = x % 4503599627370496 := ⟨_, rfl⟩
  obtain ⟨m, hm⟩ : ∃ m, m = M + 4503599627370496 := ⟨_, rfl⟩
  have hM1 : M < 4503599627370496 := by omega
  have e1 : bits BinOp.and IntKind.i64 ((x : Int) / 4503599627370496) 2047 = E := by rw [i64_and2047]; omega
  have e2 : bits BinOp.and IntKind.u64 (x : Int) 4503599627370495 = M := by rw [u64_and52]; omega
  have e3 : bits BinOp.or IntKind.u64 (M : Int) 4503599627370496 = (m : Int) := by rw [u64_or52 M hM1, hm]; rfl
  have hm0 : 4503599627370496 ≤ m := by omega
  have hm1 : m < 9007199254740992 := by omega
  obtain ⟨t, ht⟩ : ∃ t, t = 1075 - E := ⟨_, rfl⟩
  obtain ⟨n, hn⟩ : ∃ n : Nat, (n : Int) = want t := ⟨(want t).toNat, by unfold want; split <;> omega⟩
  have hN : MN x = rne (m * 1000000) (2 ^ t) := by
    unfold MN mantOf expOf
    rw [if_neg (by omega), if_neg (by omega), ← hMe, ← hm, ← hE, show ((E : Int) - 1075).toNat = 0 from by omega, Nat.pow_zero, Nat.mul_one, show (-((E : Int) - 1075)).toNat = t from by omega]
  have hdig : 7 - -((E : Int) + -1023) * 78913 / 262144 = (n : Int) := by
    rw [hn]; unfold want; rw [if_neg (by omega)]; omega
  have hn18 : n ≤ 18 := by
    have := hn; unfold want at this; rw [if_neg (by omega)] at this; omega
  have hn1 : 1 ≤ n := by
    have := hn; unfold want at this; rw [if_neg (by omega)] at this; omega
  have hbl := Lib.hid (bitLen_53 m hm0 hm1)
  intro B w0 w v hst hT
  have KF := Lib.hid (fw_c m t n hm0 hm1 (by omega) (by omega) hn)
  rw [← hN] at KF
  obtain ⟨N, hNe⟩ : ∃ N, N = MN x := ⟨_, rfl⟩
  rw [← hNe] at KF ⊢
  obtain ⟨TX, hTX⟩ : ∃ TX, TX = tx N := ⟨_, rfl⟩
  rw [← hTX]
  have HTX := Lib.hid hTX
  have hN64 : N < 18446744073709551615 := by
    rw [hNe, hN]
    unfold rne
    have h1 : m * 1000000 / 2 ^ t ≤ m * 1000000 := Nat.div_le_self _ _
    have h2 : m * 1000000 / 2 ^ t ≤ m * 1000000 / 2 ^ 14 := Nat.div_le_div_left (Nat.pow_le_pow_right (by decide) (by omega)) (by decide)
    split <;> omega
  have KST := Lib.hid hst
  have KT := Lib.hid hT
  have hopt := hT.opt
  obtain ⟨neg, hng⟩ : ∃ neg, neg = ng x := ⟨_, rfl⟩
  rw [← hng]
  have hn' : ((x : Int) / 9223372036854775808 != 0) = neg := hng.symm
  have hexp : (E : Int) + -1023 - 11 - 52 = -(t : Int) - 11 := by omega
  clear hst hT hE hN hn hMe hng hNe hm ht hTX
  go_enter Tryz.func50, Tryz.ntmps50
  go_wp2_with fail
  go_quiet (fail)
  go_wp2_with (go_at_call 62; go_in)
  refine (Tryz.bits_Len64 _ _ (by omega) (by omega)).mono ?_
  rintro e w' ⟨rfl, rfl⟩
  rw [Int.toNat_natCast, hbl.out]
  go_wp2_with fail
  refine (KF.out _ ?_).mono ?_
  · exact (KT.out.below (below_da w _ _)).tabs
  rintro en w2 ⟨rfl, hb2⟩
  have hb3 : Below w.heap.size w w2 := (below_da w nq _).trans (hb2.mono (by simp))
  have hbf : w2.heap[w.heap.size]? = some (.cells zeros24 92 (0, 0)) := (hb2.block _ (by simp)).trans (heap_alloc_new (w.drewN nq) (.cells zeros24 92))
  have hsz2 : w.heap.size < w2.heap.size := by have := hb2.size; simp at this; omega
  have HB := Lib.hid hb3
  have HBF := Lib.hid hbf
  clear hb2 hb3 hbf
  by_cases hN0 : N = 0
  · subst hN0
    have HS2 := Lib.hid (KST.out.below HB.out)
    go_wp2_with fail
    refine (fmt00 neg _ B w0 _ none _ HS2.out).mono ?_
    rintro en w4 ⟨v4, rfl, hst4⟩
    have HST := Lib.hid hst4
    clear hst4
    go_wp2_with fail
    go_ret
    refine ⟨_, rfl, ?_⟩
    have e : sgn neg ++ TX = sgn neg ++ [48] ++ [46] ++ List.replicate 6 48 := by rw [HTX.out, tx_zero]; simp only [List.append_assoc]
    rw [e]
    exact HST.out
  · have hNz : ((N : Int) != 0) = true := by simp; omega
    obtain ⟨nd, hnd⟩ : ∃ nd, nd = Lib.nDigits N := ⟨_, rfl⟩
    have hnd20 : nd ≤ 20 := hnd ▸ Lib.nDigits_le20 N (by omega)
    have hndl := Lib.hid (hnd ▸ Lib.lt_pow_nDigits N : N < 10 ^ nd)
    have hndg := Lib.hid (hnd ▸ low_nd N (by omega) : 10 ^ (nd - 1) ≤ N)
    have HN : Hid (Calls Tryz.prog 61 #[.int .u64 N] w2.drew fun e w' => e = .returned (.int .i64 nd) ∧ w2.drew = w') := Lib.hid (by
      rw [hnd]
      exact (Tryz.internal_strconv_numDigits N (by omega) (by omega) w2.drew (KT.out.below HB.out.drew).tabs.2).mono fun e w' ⟨h1, h2⟩ => ⟨h1, h2.symm⟩)
    have HC : Hid (Calls Tryz.prog 60 #[.slice (some ⟨w.heap.size, 0, none⟩) 24 24, .int .u64 N, .int .i64 (-6), .int .i64 nd] w2.drew fun e w' => ∃ k : Nat, e = .returned (.tuple #[.int .i64 ((nd : Int) + -6), .int .i64 k]) ∧ Sd w2.drew w' w.heap.size nd N k) :=
      Lib.hid (setDigits_c N nd w.heap.size (-6) w2.drew hnd20 hndl.out (by omega) (by omega) (by omega) (by omega) HBF.out)
    clear hnd
    go_wp2_with fail
    go_region_with (first
      | (go_at_call 61; refine HN.out.mono ?_; rintro en w3 ⟨rfl, rfl⟩)
      | (go_at_call 60; refine HC.out.mono ?_; rintro en w3 ⟨k, rfl, hsd⟩))
    have KM : Hid (Calls Tryz.prog 57 #[v, .bool neg, .slice (some ⟨w.heap.size, 0, none⟩) 24 24, .int .i64 ((nd : Int) + -6), .int .i64 k, .int .i64 6, .int .u8 102, .bool false] w3 fun en w' =>
      ∃ v', en = .returned v' ∧ St B w0 none v' (sgn neg ++ TX) w') := Lib.hid (by
      obtain ⟨U, hk, hNU, hUk, hg3, arr, ha3, hat⟩ := hsd
      have hst3 := KST.out.enter HB.out.drew hg3 (Nat.le_refl _) ha3
      have hk1 : 1 ≤ k := by
        rcases Nat.eq_zero_or_pos k with e | e
        · subst e
          have : U = 0 := by simpa using hUk
          subst this
          omega
        · exact e
      have h := fmt_c neg k U N ((nd : Int) + -6) hk1 hUk (low_of hndg.out hNU hk) (by omega) (by omega) (by omega) (by rw [show ((nd : Int) + -6 + 6 - k).toNat = nd - k from by omega]; exact hNU) B w0 w3 w.heap.size 92 arr 24 (by omega) v hat hst3
      rw [HTX.out]
      exact h)
    clear hsd
    go_wp2_with fail
    refine KM.out.mono ?_
    rintro en w4 ⟨v4, rfl, hst4⟩
    have HST := Lib.hid hst4
    clear hst4
    go_wp2_with fail
    go_ret
    exact ⟨_, rfl, HST.out⟩
end Go.Proofs.YtdbjoiojiibdgaaGreatDoor
namespace Go.Proofs.YtdbjoiojiibdgaaGreatDoor
open Go.RowKit
theorem zero97 : Tryz.zeroCells97 = Array.replicate 800 (.int .u8 0) ++ #[.int .i64 0, .int .i64 0, .bool false, .bool false] := by kernel_rfl
theorem dn_new (w : World) : Dn (w.alloc (.cells Tryz.zeroCells97 97)) (w.alloc (.cells Tryz.zeroCells97 97)) w.heap.size (fun _ => 0) 0 0 := by
  refine ⟨grown_self _ _, _, heap_alloc_new w (.cells Tryz.zeroCells97 97), ?_⟩
  rw [zero97]
  refine ⟨by simp, fun i hi => ?_, ?_, ?_, ?_⟩
  · rw [Array.getElem?_append_left (by simpa using hi), Array.getElem?_replicate, if_pos hi]
  all_goals (rw [Array.getElem?_append_right (by simp)]; simp)
def Rd (w0 w : World) (b N : Nat) : Prop := ∃ k a U, Nm w0 w b k a U ∧ k ≤ 400 ∧ a ≤ 310 ∧ rnd U k (a + 6) = N
theorem rnd_int {w0 w : World} {b k a U Y : Nat} (h : Hl w0 w b k a U Y) : rnd U k (a + 6) = rne (Y * 1000000) 1 := by
  have hle := h.le
  have := rne_exact (Y * 1000000) 1 (by decide)
  rw [Nat.mul_one] at this
  rw [this]
  unfold rnd
  rw [if_neg (by omega), h.eq, show a + 6 - k = (a - k) + 6 from by omega, Nat.pow_add, ← Nat.mul_assoc]
set_option exponentiation.threshold 2000 in
theorem shift_any (b k n U m E : Nat) (w : World) (h : Hl w w b k n U m) (hC : CheatsB w b) (hn : n ≤ 20) (hm0 : 4503599627370496 ≤ m) (hm1 : m < 9007199254740992) (hE0 : 1062 ≤ E) (hE1 : E ≤ 2046) :
    Calls Tryz.prog 65 #[.pointer (some ⟨b, 0, none⟩), .int .i64 ((E : Int) - 1075)] w fun e w' => e = .returned (.tuple #[]) ∧ Rd w w' b (rne (m * 2 ^ ((E : Int) - 1075).toNat * 1000000) (2 ^ (-((E : Int) - 1075)).toNat)) := by
  rcases Nat.lt_trichotomy E 1075 with a | a | a
  · obtain ⟨s, hs⟩ : ∃ s, E + s = 1075 := ⟨1075 - E, by omega⟩
    have hsm : 2 ^ s ≤ m := Nat.le_trans (Nat.pow_le_pow_right (by decide) (by omega : s ≤ 52)) hm0
    rw [show (E : Int) - 1075 = -(s : Int) from by omega, show (-(s : Int)).toNat = 0 from by omega, show (- -(s : Int)).toNat = s from by omega, Nat.pow_zero, Nat.mul_one]
    refine (shift_neg b k n U m s w h (by omega) (by omega) hn hsm).mono ?_
    rintro e w' ⟨rfl, a, k2, U2, ha, hk2, hN, hv⟩
    refine ⟨rfl, k2, a, U2, hN, by omega, by omega, ?_⟩
    obtain ⟨g, _, _, h10, _⟩ := hN
    exact rnd_near m s U2 k2 a h10 hv
  · subst a
    refine (shift_zero b k n U w h.nm).mono ?_
    rintro e w' ⟨rfl, rfl⟩
    refine ⟨rfl, k, n, U, h.nm, ?_, by omega, ?_⟩
    · have := h.le; omega
    · rw [rnd_int h, show ((1075 : Nat) : Int) - 1075 = 0 from rfl, show (0 : Int).toNat = 0 from rfl, show (-(0 : Int)).toNat = 0 from rfl, Nat.pow_zero, Nat.mul_one]
  · obtain ⟨K, hK⟩ : ∃ K, E = 1075 + K := ⟨E - 1075, by omega⟩
    rw [show (E : Int) - 1075 = (K : Int) from by omega, Int.toNat_natCast, show (-(K : Int)).toNat = 0 from by omega, Nat.pow_zero]
    refine (shift_pos b k n U m K w h hC (by omega) (by omega) (by omega)).mono ?_
    rintro e w' ⟨rfl, k2, dp2, U2, h2⟩
    have hY : m * 2 ^ K < 2 ^ 1024 := by
      have h1 : m * 2 ^ K < 2 ^ 53 * 2 ^ K := Nat.mul_lt_mul_of_pos_right (by omega) (Nat.pow_pos (by decide))
      rw [← Nat.pow_add] at h1
      exact Nat.lt_of_lt_of_le h1 (Nat.pow_le_pow_right (by decide) (by omega))
    have hb := h2.bound hY
    have hle := h2.le
    exact ⟨rfl, k2, dp2, U2, h2.nm, by omega, by omega, rnd_int h2⟩
set_option maxHeartbeats 4000000 in
set_option maxRecDepth 100000 in
theorem ftoa_big (x E : Nat) (hE : E = x / 4503599627370496 % 2048) (hE0 : 1062 ≤ E) (hE1 : E ≤ 2046) (hx : x < 18446744073709551616) : FT x := by
  have h54 := ex54
  obtain ⟨M, hMe⟩ : ∃ M, M = x % 4503599627370496 := ⟨_, rfl⟩
  obtain ⟨m, hm⟩ : ∃ m, m = M + 4503599627370496 := ⟨_, rfl⟩
  have hM1 : M < 4503599627370496 := by omega
  have e1 : bits BinOp.and IntKind.i64 ((x : Int) / 4503599627370496) 2047 = E := by rw [i64_and2047]; omega
  have e2 : bits BinOp.and IntKind.u64 (x : Int) 4503599627370495 = M := by rw [u64_and52]; omega
  have e3 : bits BinOp.or IntKind.u64 (M : Int) 4503599627370496 = (m : Int) := by rw [u64_or52 M hM1, hm]; rfl
  have hm0 : 4503599627370496 ≤ m := by omega
  have hm1 : m < 9007199254740992 := by omega
  have HMN : Hid (MN x = rne (m * 2 ^ ((E : Int) - 1075).toNat * 1000000) (2 ^ (-((E : Int) - 1075)).toNat)) := Lib.hid (by
    unfold MN mantOf expOf
    rw [if_neg (by omega), if_neg (by omega), ← hMe, ← hm, ← hE])
  intro B w0 w v hst hT
  have KST := Lib.hid hst
  have KT := Lib.hid hT
  have hopt := hT.opt
  obtain ⟨neg, hng⟩ : ∃ neg, neg = ng x := ⟨_, rfl⟩
  rw [← hng]
  have hn' : ((x : Int) / 9223372036854775808 != 0) = neg := hng.symm
  obtain ⟨TX, hTX⟩ : ∃ TX, TX = tx (MN x) := ⟨_, rfl⟩
  rw [← hTX]
  have HTX := Lib.hid hTX
  clear hst hT hMe hng hm hTX hE
  go_enter Tryz.func50, Tryz.ntmps50
  go_wp2_with fail
  go_quiet (fail)
  go_wp2_with (go_at_call 62; go_in)
  have HD0 := Lib.hid (dn_new (w.drewN nq))
  have HB := Lib.hid (below_da w nq (.cells Tryz.zeroCells97 97))
  obtain ⟨w1, hw1⟩ : ∃ w1, w1 = (w.drewN nq).alloc (.cells Tryz.zeroCells97 97) := ⟨_, rfl⟩
  rw [← hw1] at HD0 HB
  rw [← hw1]
  clear hw1
  have HC : Hid (CheatsB w1 w.heap.size) := Lib.hid (by
    obtain ⟨tb, t1, t2⟩ := KT.out.ch
    have hlt : ∀ (a : Addr) (v : Value), w.cell? a = some v → a.block < w.heap.size := fun a v h => by
      rcases Nat.lt_or_ge a.block w.heap.size with h' | h'
      · exact h'
      · simp [World.cell?, Array.getElem?_eq_none h'] at h
    refine ⟨fun e => ?_, tb, fun e => ?_, cell_below HB.out t1, fun k h1k hk => ⟨cell_below HB.out (t2 k h1k hk).1, cell_below HB.out (t2 k h1k hk).2⟩⟩
    · have := hlt _ _ t1; simp at this; omega
    · have := hlt _ _ (t2 1 (by decide) (by decide)).1; simp at this; omega)
  refine (assign_c w.heap.size m w1 HD0.out (by omega) (by omega)).mono ?_
  rintro en w2 ⟨rfl, g, n, k, U, hkn, hn20, hDn, hDg, hU, hU10, hUk, hlow⟩
  have HH : Hid (Hl w1 w2 w.heap.size k n U m) := Lib.hid ⟨⟨g, hDn, hDg, hU10, hUk, low_of hlow hU hkn⟩, hkn, hU⟩
  clear hDn hDg hU hU10 hUk hlow
  have HC2 : Hid (CheatsB w2 w.heap.size) := Lib.hid (HC.out.grown (by obtain ⟨⟨g, h, _⟩, _⟩ := HH.out; exact h.1))
  go_wp2_with fail
  have HSh : Hid (Calls Tryz.prog 65 #[.pointer (some ⟨w.heap.size, 0, none⟩), .int .i64 ((E : Int) + -1023 - 52)] w2 fun e w' => e = .returned (.tuple #[]) ∧ Rd w1 w' w.heap.size (MN x)) := Lib.hid (by
    have h := shift_any w.heap.size k n U m E w2 ⟨HH.out.nm.here, HH.out.le, HH.out.eq⟩ HC2.out hn20 hm0 hm1 hE0 hE1
    rw [← HMN.out, show (E : Int) - 1075 = (E : Int) + -1023 - 52 from by omega] at h
    refine h.mono ?_
    rintro e w' ⟨rfl, k2, a2, U2, h1, h2⟩
    exact ⟨rfl, k2, a2, U2, HH.out.nm.join h1, h2⟩)
  refine HSh.out.mono ?_
  rintro en w3 ⟨rfl, k2, a2, U2, hN2, hk4, ha1, hrd⟩
  have c3 : w3.cell? ⟨w.heap.size, 801, none⟩ = some (.int .i64 a2) := by
    obtain ⟨g, h, _⟩ := hN2
    exact h.cp
  have HR : Hid (Calls Tryz.prog 66 #[.pointer (some ⟨w.heap.size, 0, none⟩), .int .i64 ((a2 : Int) + 6)] w3 fun e w' => e = .returned (.tuple #[]) ∧ ∃ k a U : Nat, Nm w1 w' w.heap.size k a U ∧ a ≤ 311 ∧ k ≤ a + 6 ∧ U * 10 ^ (a + 6 - k) = MN x) := Lib.hid (by
    refine (round10_c w.heap.size k2 a2 (a2 + 6) U2 w3 hN2.here rfl hk4 (by omega)).mono ?_
    rintro e w' ⟨rfl, k, a, U, h1, h2, h3, h4⟩
    exact ⟨rfl, k, a, U, hN2.join h1, by omega, h3, by rw [h4, hrd]⟩)
  clear hN2 hrd
  go_wp2_with fail
  refine HR.out.mono ?_
  rintro en w4 ⟨rfl, k5, a5, U5, hN5, ha5, hk5, hv5⟩
  have HN5 := Lib.hid hN5
  have HV5 := Lib.hid hv5
  clear hN5 hv5
  go_wp2_with fail
  have c4 : w4.cell? ⟨w.heap.size, 801, none⟩ = some (.int .i64 a5) := by
    obtain ⟨g, h, _⟩ := HN5.out
    exact h.cp
  have c5 : w4.cell? ⟨w.heap.size, 800, none⟩ = some (.int .i64 k5) := HN5.out.cn
  have KM : Hid (Calls Tryz.prog 57 #[v, .bool neg, .slice (some ⟨w.heap.size, 0, none⟩) 800 800, .int .i64 a5, .int .i64 k5, .int .i64 6, .int .u8 102, .bool false] w4.drew fun en w' =>
      ∃ v', en = .returned v' ∧ St B w0 none v' (sgn neg ++ TX) w') := Lib.hid (by
    have hk1 := HN5.out.pos
    obtain ⟨g, hD, hG, h10, hUk, hU0⟩ := HN5.out
    obtain ⟨hg, arr, ha, _, hat, _⟩ := hD.drew
    have hst3 := KST.out.enter HB.out hg (Nat.le_refl _) ha
    have h := fmt_c neg k5 U5 (MN x) (a5 : Int) hk1 hUk hU0 (by omega) (by omega) (by omega) (by rw [show ((a5 : Int) + 6 - k5).toNat = a5 + 6 - k5 from by omega]; exact HV5.out.symm) B w0 w4.drew w.heap.size 97 arr 800 (by omega) v (fun j hj => by rw [hat j (by omega), hG j hj, dgl_at U5 k5 j hj]; rfl) hst3
    rw [HTX.out]
    exact h)
  go_region_with (go_at_call 57; refine KM.out.mono ?_; rintro en w5 ⟨v5, rfl, hst5⟩)
  all_goals
    have HST := Lib.hid hst5
    clear hst5
    go_wp2_with fail
    go_ret
    exact ⟨_, rfl, HST.out⟩
theorem ftoa_any (x : Nat) (hx : x < 18446744073709551616) (hf : x % 9223372036854775808 < 9218868437227405312) : FT x := by
  obtain ⟨E, hE⟩ : ∃ E, E = x / 4503599627370496 % 2048 := ⟨_, rfl⟩
  by_cases h0 : E = 0
  · by_cases hM : x % 4503599627370496 = 0
    · exact ftoa_zero x (by omega) hM hx
    · exact ftoa_sub x (by omega) hM hx
  · rcases (by omega : E ≤ 999 ∨ (1000 ≤ E ∧ E ≤ 1022) ∨ (1023 ≤ E ∧ E ≤ 1061) ∨ (1062 ≤ E ∧ E ≤ 2046)) with a | a | a | a
    · exact ftoa_small x E hE (by omega) a hx
    · exact ftoa_fix2 x E hE a.1 a.2 hx
    · exact ftoa_fix1 x E hE a.1 a.2 hx
    · exact ftoa_big x E hE a.1 a.2 hx
end Go.Proofs.YtdbjoiojiibdgaaGreatDoor
