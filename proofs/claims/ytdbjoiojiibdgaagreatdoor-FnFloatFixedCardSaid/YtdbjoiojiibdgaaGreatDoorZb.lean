/-
  A part of the proof of FnFloatFixed (packed out of smaller texts by a program of this session; what the proof does not reach is left out).
-/
import Derived.Test.YtdbjoiojiibdgaaGreatDoorZ8
import Derived.Test.YtdbjoiojiibdgaaGreatDoorZa
import Derived.Test.YtdbjoiojiibdgaaGreatDoorZ6
import Ieee.Arith
import GoSem.Core.Float
import GoSem.Op.Unary
import Derived.WalkKit
import Derived.WalkLawsBesides
import Derived.Handy
import Derived.Laws.Externs
import Derived.Lib.Builder
import Derived.Lib.AppendStr
import Derived.Lib.UnsafeStr
import Derived.Laws.Cover2
import Derived.Deep.RegionWith
import Derived.Deep.DeepCutAuto
namespace Go.Proofs.YtdbjoiojiibdgaaGreatDoor
open Ieee
theorem read_max : double.read 9218868437227405311 = .number false 9007199254740991 971 := by decide +kernel
theorem read_fin (y : Nat) (h : y % 9223372036854775808 < 9218868437227405312) : ∃ s m i, double.read y = .number s m i ∧ m ≤ 9007199254740991 ∧ i ≤ 971 := by
  have hs : double.signWeight = 9223372036854775808 := by decide
  have hb : double.binade = 4503599627370496 := by decide
  have hi : double.infRung = 9218868437227405312 := by decide
  have hl : double.leastPlace = -1074 := by decide
  unfold Format.read
  simp only [hs, hb, hi, hl]
  split
  · exact ⟨_, _, _, rfl, by omega, by omega⟩
  · exact ⟨_, _, _, rfl, by omega, by omega⟩
theorem order_max (y : Nat) (h : y % 9223372036854775808 < 9218868437227405312) : double.order y 9218868437227405311 = some .lt ∨ double.order y 9218868437227405311 = some .eq := by
  obtain ⟨s, m, i, hr, hm, hi⟩ := read_fin y h
  unfold Format.order
  rw [hr, read_max]
  simp only [Datum.order]
  have hmin : min i 971 = i := by omega
  rw [hmin]
  have h0 : (i - i).toNat = 0 := by omega
  rw [h0]
  have hle : signed s m 0 ≤ signed false 9007199254740991 (971 - i).toNat := by
    unfold signed
    have hp : 1 ≤ 2 ^ (971 - i).toNat := Nat.one_le_two_pow
    have hq : 9007199254740991 ≤ 9007199254740991 * 2 ^ (971 - i).toNat := Nat.le_mul_of_pos_right _ hp
    simp only [Nat.shiftLeft_eq, Nat.pow_zero, Nat.mul_one, Bool.false_eq_true, if_false]
    split <;> omega
  rcases Int.lt_or_eq_of_le hle with h1 | h1
  · left
    exact congrArg some (Int.compare_eq_lt.2 h1)
  · right
    exact congrArg some (Int.compare_eq_eq.2 h1)
theorem order_self (y : Nat) (h : y % 9223372036854775808 < 9218868437227405312) : double.order y y = some .eq := by
  obtain ⟨s, m, i, hr, hm, hi⟩ := read_fin y h
  unfold Format.order
  rw [hr]
  simp only [Datum.order]
  exact congrArg some (Int.compare_eq_eq.2 rfl)
theorem read_nan (y : Nat) (h : 9218868437227405312 < y % 9223372036854775808) : ∃ s f, double.read y = .nan s f := by
  have hs : double.signWeight = 9223372036854775808 := by decide
  have hb : double.binade = 4503599627370496 := by decide
  have hi : double.infRung = 9218868437227405312 := by decide
  unfold Format.read
  simp only [hs, hb, hi]
  rw [if_neg (by omega), if_neg (by omega), if_neg (by omega)]
  exact ⟨_, _, rfl⟩
theorem order_nan (y z : Nat) (h : 9218868437227405312 < y % 9223372036854775808) : double.order y z = none := by
  obtain ⟨s, f, hr⟩ := read_nan y h
  unfold Format.order
  rw [hr]
  cases double.read z <;> rfl
end Go.Proofs.YtdbjoiojiibdgaaGreatDoor
namespace Go.Proofs.YtdbjoiojiibdgaaGreatDoor
open Go.RowKit
theorem size45 : (Tryz.prog.info? 45).map (·.size) = some 2 := by kernel_rfl
theorem lies45 : liesAt Tryz.prog Tryz.prog.depth 45 (2 / Tryz.prog.cellsOf 45) 0 45 1 = true := by kernel_rfl
theorem infoB : (Tryz.prog.info? 5).map (fun i => (i.zero, i.size, i.bytes)) = some (some (.int .u8 0), 1, 1) := by kernel_rfl
set_option maxRecDepth 100000 in
theorem copy_used (b : Nat) (w : World) (h0 : w.cell? ⟨b, 0, none⟩ = some (.pointer (some ⟨b, 0, none⟩))) :
    Calls Tryz.prog 40 #[.pointer (some ⟨b, 0, none⟩)] w fun e w' => e = .returned (.tuple #[]) ∧ w' = w := by
  obtain ⟨j, hj, _⟩ := Option.map_eq_some_iff.1 size45
  go_enter Tryz.func40, Tryz.ntmps40
  go_wp2
  rw [Lib.run_neq_ptr_same w _ Tryz.underlying43 hj]
  go_wp2
  go_end0
  exact ⟨rfl, rfl⟩
set_option maxHeartbeats 1000000 in
set_option maxRecDepth 100000 in
theorem copy_fresh (b : Nat) (w : World) (h0 : w.cell? ⟨b, 0, none⟩ = some (.pointer none)) (hsh : w.shape? b = some (45, 2)) (hfz : w.frozen? ⟨b, 0, none⟩ = false) :
    Calls Tryz.prog 40 #[.pointer (some ⟨b, 0, none⟩)] w fun e w' => e = .returned (.tuple #[]) ∧ w' = w.setCell ⟨b, 0, none⟩ (.pointer (some ⟨b, 0, none⟩)) := by
  obtain ⟨j, hj, hjs⟩ := Option.map_eq_some_iff.1 size45
  go_enter Tryz.func40, Tryz.ntmps40
  go_wp2
  rw [Lib.run_to_unsafe w ⟨b, 0, none⟩ Tryz.underlying43 Tryz.underlying75 hj (by rw [hjs]; decide) hsh (Nat.zero_lt_succ 1)]
  simp only [Result.andThen]
  rw [Oper.upon_value]
  go_wp2
  rw [run_callFunc_extern Tryz.func48 (by kernel_rfl) (by kernel_rfl) (by kernel_rfl) (e := Extern.AbiNoEscape.same) (by kernel_rfl)]
  rw [Lib.run_noEscape]
  simp only [Result.andThen]
  rw [Oper.upon_value]
  go_wp2
  rw [Lib.run_from_unsafe w ⟨b, 0, none⟩ Tryz.underlying75 Tryz.underlying43 hj hsh lies45]
  simp only [Result.andThen]
  rw [Oper.upon_value]
  go_wp2
  go_end0
  exact ⟨rfl, rfl⟩
theorem copyCheck_c (B b : Nat) (bs : List Value) (w : World) (h : Lib.IsBuilder 45 5 B b bs w) :
    Calls Tryz.prog 40 #[.pointer (some ⟨b, 0, none⟩)] w fun e w' => e = .returned (.tuple #[]) ∧ (Lib.BuilderAt 45 5 B b (.pointer (some ⟨b, 0, none⟩)) bs w' ∧ Below B w w') := by
  rcases h with h | h
  · refine (copy_fresh b w h.cell0 h.shape h.frozen0).mono ?_
    rintro e w' ⟨rfl, rfl⟩
    exact ⟨rfl, h.used _, (Below.refl B w).setCell (p := ⟨b, 0, none⟩) h.1 _⟩
  · refine (copy_used b w h.cell0).mono ?_
    rintro e w' ⟨rfl, rfl⟩
    exact ⟨rfl, h, Below.refl B _⟩
set_option maxHeartbeats 2000000 in
set_option maxRecDepth 100000 in
theorem writeString_c (B b : Nat) (bs : List Value) (s : ByteArray) (w : World) (h : Lib.IsBuilder 45 5 B b bs w) (hlen : bs.length + s.size ≤ 140737488355328) (hBw : B ≤ w.heap.size) :
    Calls Tryz.prog 29 #[.pointer (some ⟨b, 0, none⟩), .string s] w fun e w' => e = .returned (.tuple #[.int .i64 s.size, .nilIface]) ∧ (Lib.BuilderAt 45 5 B b (.pointer (some ⟨b, 0, none⟩)) (bs ++ Lib.strCells s) w' ∧ Below B w w') := by
  obtain ⟨i0, hi, hz0, hz1, hz2⟩ := info_parts infoB
  go_enter Tryz.func29, Tryz.ntmps29
  go_wp2_with fail
  refine (copyCheck_c B b bs _ h).mono ?_
  rintro e w1 ⟨rfl, h1, hb1⟩
  obtain ⟨hB, v, hbk, hown, hne⟩ := h1
  have c0 : w1.cell? ⟨b, 0, none⟩ = some (.pointer (some ⟨b, 0, none⟩)) := by rw [Lib.cell_of_heap hbk]; rfl
  have c1 : w1.cell? ⟨b, 1, none⟩ = some v := by rw [Lib.cell_of_heap hbk]; rfl
  go_wp2_with (at_builtin; refine Lib.wpList_append_own_string _ rfl _ _ 35 9 rfl B 5 i0 Tryz.underlying35 Tryz.underlying9 hi hz0 hz1 hz2 _ _ _ rfl hown s rfl ?c3 ?c4 ?c5 ?_)
  case c3 => unfold maxLen; omega
  case c4 => omega
  case c5 => have := hb1.size; omega
  intro v' w2 hown' hgrow _
  have hlt : b < w1.heap.size := by
    rcases Nat.lt_or_ge b w1.heap.size with h' | h'
    · exact h'
    · simp [Array.getElem?_eq_none h'] at hbk
  have hb2 : w2.heap[b]? = some (.cells #[.pointer (some ⟨b, 0, none⟩), v] 45 (0, 0)) := by
    rw [hgrow.block b hlt (fun e => hne e.symm)]
    exact hbk
  have d0 : w2.cell? ⟨b, 0, none⟩ = some (.pointer (some ⟨b, 0, none⟩)) := by rw [Lib.cell_of_heap hb2]; rfl
  have d1 : w2.cell? ⟨b, 1, none⟩ = some v := by rw [Lib.cell_of_heap hb2]; rfl
  have f1 : w2.frozen? ⟨b, 1, none⟩ = false := Lib.frozen_of_heap hb2 1
  obtain ⟨ao, n', cap, rfl⟩ : ∃ ao n' cap, v' = .slice ao n' cap := by
    rcases hown'.2 with ⟨hv, _⟩ | ⟨g, cap, cur, hv, _⟩
    · exact ⟨_, _, _, hv⟩
    · exact ⟨_, _, _, hv⟩
  go_wp2
  go_ret2
  refine ⟨rfl, ?_, ?_⟩
  · exact Lib.BuilderAt.put (T := 45) (e := 5) hB hb2 (bs' := bs ++ Lib.strCells s) (by simpa [Lib.strCells_length] using hown') (by decide)
  · exact (hb1.grown hgrow (by have := hb1.size; omega) (fun k hk => (hown.lt k hk).1)).setCell (p := ⟨b, 1, none⟩) hB _
end Go.Proofs.YtdbjoiojiibdgaaGreatDoor
namespace Go.Proofs.YtdbjoiojiibdgaaGreatDoor
open Go.RowKit
theorem e20 (b : Nat) (w : World) : (callFunc 7 #[.float .f64 b]).run Tryz.prog w = .ok (.value (.int .u64 b)) w := by
  rw [run_callFunc_extern (e := Extern.MathFloatBits.float64bits) Tryz.func7 (by kernel_rfl) (by kernel_rfl) (by kernel_rfl) (by kernel_rfl)]
  rfl
theorem e6 (b : Int) (w : World) : (callFunc 4 #[.int .u64 b]).run Tryz.prog w = .ok (.value (.float .f64 b.toNat)) w := by
  rw [run_callFunc_extern (e := Extern.MathFloatBits.float64frombits) Tryz.func4 (by kernel_rfl) (by kernel_rfl) (by kernel_rfl) (by kernel_rfl)]
  rfl
theorem andNot63 (x : Nat) : bits BinOp.andNot IntKind.u64 (x : Int) 9223372036854775808 = ((x % 9223372036854775808 : Nat) : Int) := by
  have h2 : (~~~ (BitVec.ofInt 64 9223372036854775808)).toNat = 2 ^ 63 - 1 := by decide
  have key : (BitVec.ofInt 64 (x : Int) &&& ~~~ BitVec.ofInt 64 9223372036854775808).toNat = x % 2 ^ 63 := by
    rw [BitVec.toNat_and, h2, Nat.and_two_pow_sub_one_eq_mod, BitVec.toNat_ofInt]
    omega
  show IntKind.u64.wrap ((BitVec.ofInt 64 (x : Int) &&& ~~~ BitVec.ofInt 64 9223372036854775808).toNat : Nat) = _
  rw [key, IntKind.wrap_u64]
  omega
set_option maxRecDepth 100000 in
theorem abs_c (x : Nat) (w : World) : Calls Tryz.prog 17 #[.float .f64 x] w fun e w' => e = .returned (.float .f64 (x % 9223372036854775808)) ∧ w = w' := by
  have h20 := e20
  have h6 := e6
  go_enter Tryz.func17, Tryz.ntmps17
  go_wp2
  go_ret
  refine ⟨?_, rfl⟩
  show Ending.returned (Value.float .f64 (bits BinOp.andNot IntKind.u64 (x : Int) 9223372036854775808).toNat) = _
  rw [andNot63]
  rfl
set_option maxRecDepth 100000 in
theorem nan_c (x : Nat) (w : World) : Calls Tryz.prog 9 #[.float .f64 x] w fun e w' => e = .returned (.bool (Ieee.double.order x x != some .eq)) ∧ w = w' := by
  go_enter Tryz.func9, Tryz.ntmps9
  go_wp2
  go_ret
  exact ⟨rfl, rfl⟩
end Go.Proofs.YtdbjoiojiibdgaaGreatDoor
namespace Go.Proofs.YtdbjoiojiibdgaaGreatDoor
open Go.RowKit
def TXT (x : Nat) : List Int := sgn (ng x) ++ tx (MN x)
def FF (x : Nat) : Prop := ∀ w : World, All w → Calls Tryz.prog 30 #[.float .f64 x, .int .u8 102, .int .i64 6, .int .i64 64] w fun e w' => e = .returned (.string (strOfNums (TXT x))) ∧ (strOfNums (TXT x)).size ≤ 100000 ∧ Below w.heap.size w w'
theorem conv_text {B : Nat} {w0 w : World} {v : Value} {l : List Int} (h : St B w0 none v l w) : (convert 35 9 v).run Tryz.prog w = .ok (.string (strOfNums l)) w := by
  rcases h.own.2 with ⟨rfl, hl⟩ | ⟨g, cap, cur, rfl, _, hg, _, _, _, ht⟩
  · have : l = [] := List.eq_nil_of_length_eq_zero hl
    subst this
    exact run_convert_bytes_nil (P := Tryz.prog) w 35 5 Tryz.underlying35 Tryz.underlying5 0 0 9 Tryz.underlying9
  · refine run_convert_bytes_arg (P := Tryz.prog) w 35 5 Tryz.underlying35 Tryz.underlying5 g 0 l.length cap l rfl (fun i hi => ?_) 9 Tryz.underlying9
    rw [Nat.zero_add, cell_of_row w g i cur 5 (0, 0) hg]
    have h1 : (l.map (Value.int .u8))[i]? = some (.int .u8 (l.getD i 0)) := by simp [List.getD, hi]
    rw [← ht, List.getElem?_take] at h1
    split at h1
    · simpa using h1
    · cases h1
def mk24 : Array Value := madeCells (Value.cells (.int .u8 0)) 24
theorem mk24_c : ∀ w : World, (Instr.makeSlice 35 (.int .i64 0) (.int .i64 24)).run Tryz.prog w = .ok (.slice (some ⟨w.heap.size, 0, none⟩) 0 24) (w.alloc (.cells mk24 5)) := fun w => by
  obtain ⟨i0, hi, hz0, hz1, hz2⟩ := info_parts info5
  have h := run_make (P := Tryz.prog) w 35 5 i0 (.int .u8 0) Tryz.underlying35 hi hz0 .i64 .i64 0 24 (by omega) (by omega) (by rw [hz2]; omega) (by omega)
  rw [hz1] at h
  exact h
theorem mk24_st (w : World) : St w.heap.size w none (.slice (some ⟨w.heap.size, 0, none⟩) 0 24) [] (w.alloc (.cells mk24 5)) :=
  ⟨World.ownsRow_made w mk24 24 (Nat.le_refl _) (by unfold maxLen; omega) (by simp [mk24, madeCells]), (Below.refl _ _).alloc (Nat.le_refl _) _, fun p hp => (by cases hp), by simp, by simp⟩
set_option maxRecDepth 100000 in
theorem ff_any (x : Nat) (hx : x < 18446744073709551616) (hf : x % 9223372036854775808 < 9218868437227405312) : FF x := by
  have HO := Lib.hid (ftoa_any x hx hf)
  clear hf hx
  intro w hT
  have hmk := mk24_c
  have hmx : max (10 : Int) 24 = 24 := by decide
  have KT := Lib.hid hT
  obtain ⟨TX, hTX⟩ : ∃ TX, TX = TXT x := ⟨_, rfl⟩
  have HTX := Lib.hid hTX
  rw [← hTX]
  clear hT hTX
  have HC : Hid (Calls Tryz.prog 50 #[.slice (some ⟨w.heap.size, 0, none⟩) 0 24, .float .f64 x, .int .u8 102, .int .i64 6] (w.alloc (.cells mk24 5)) fun e w' => ∃ v', e = .returned v' ∧ St w.heap.size w none v' TX w') := Lib.hid (by
    have h := HO.out w.heap.size w _ _ (mk24_st w) (KT.out.below ((Below.refl _ _).alloc (Nat.le_refl _) _))
    rw [HTX.out]
    exact h)
  go_enter Tryz.func30, Tryz.ntmps30
  go_wp2_with (go_at_call 41; go_in)
  refine HC.out.mono ?_
  rintro en w1 ⟨v1, rfl, hst⟩
  have hcv := conv_text hst
  have hbl := Lib.hid hst.bel
  have hln := Lib.hid hst.len
  clear hst
  go_wp2
  go_ret
  exact ⟨rfl, by rw [strOfNums_size]; exact hln.out, hbl.out⟩
theorem isB_below {B b : Nat} {bs : List Value} {w w' : World} (h : Lib.IsBuilder 45 5 B b bs w) (hb : Below w.heap.size w w') : Lib.IsBuilder 45 5 B b bs w' := by
  have key : ∀ p, Lib.BuilderAt 45 5 B b p bs w → Lib.BuilderAt 45 5 B b p bs w' := by
    rintro p ⟨hB, v, hv, hown, hne⟩
    exact ⟨hB, v, (hb.block b (Array.getElem?_eq_some_iff.1 hv).1).trans hv, hown.kept (row := none) ⟨hb.os, hb.tape, hb.output, hb.size, fun k hk _ => hb.block k hk⟩ (Classical.em _), hne⟩
  exact h.imp (key _) (key _)
set_option maxRecDepth 100000 in
theorem isfin_c (x : Nat) (t : Bool) (ht : (Ieee.double.order (x % 9223372036854775808) 9218868437227405311 == some .lt || Ieee.double.order (x % 9223372036854775808) 9218868437227405311 == some .eq) = t) (w : World) :
    Calls Tryz.prog 28 #[.float .f64 x] w fun e w' => e = .returned (.bool t) ∧ w = w' := by
  have HT := Lib.hid ht
  clear ht
  go_enter Tryz.func28, Tryz.ntmps28
  go_wp2_with (go_at_call 17; refine (abs_c _ _).mono ?_; rintro e w' ⟨rfl, rfl⟩)
  go_ret
  exact ⟨by rw [← HT.out]; rfl, rfl⟩
theorem order_fin (x : Nat) (hf : x % 9223372036854775808 < 9218868437227405312) : (Ieee.double.order (x % 9223372036854775808) 9218868437227405311 == some .lt || Ieee.double.order (x % 9223372036854775808) 9218868437227405311 == some .eq) = true := by
  rcases order_max (x % 9223372036854775808) (by omega) with h | h <;> rw [h] <;> rfl
set_option maxHeartbeats 2000000 in
set_option maxRecDepth 100000 in
theorem format_c (x : Nat) (s : ByteArray) (hs : s = strOfNums (TXT x)) (hff : FF x) (hf : x % 9223372036854775808 < 9218868437227405312) (B b : Nat) (w : World) (hB : Lib.IsBuilder 45 5 B b [] w) (hBw : B ≤ w.heap.size) (hT : All w) :
    Calls Tryz.prog 18 #[.float .f64 x, .pointer (some ⟨b, 0, none⟩), .int .u8 102] w fun e w' => e = .returned (.tuple #[]) ∧ Lib.IsBuilder 45 5 B b (Lib.byteCells s.data.toList) w' ∧ Below B w w' := by
  have HF : Hid (Calls Tryz.prog 30 #[.float .f64 x, .int .u8 102, .int .i64 6, .int .i64 64] w fun e w' => e = .returned (.string s) ∧ s.size ≤ 100000 ∧ Below w.heap.size w w') := Lib.hid (by rw [hs]; exact hff w hT)
  have HFin := Lib.hid (isfin_c x true (order_fin x hf))
  have HB := Lib.hid hB
  clear hff hB hT hf hs
  go_enter Tryz.func18, Tryz.ntmps18
  go_wp2_with (first
    | (go_at_call 28; refine (HFin.out _).mono ?_; rintro e w' ⟨rfl, rfl⟩)
    | (go_at_call 30; refine HF.out.mono ?_; rintro e w2 ⟨rfl, hs, hb2⟩))
  refine (writeString_c B b [] s _ (isB_below HB.out hb2) (by simp; omega) (by have := hb2.size; omega)).mono ?_
  rintro e w3 ⟨rfl, hB3, hb3⟩
  have KB3 := Lib.hid hB3
  have K3 := Lib.hid hb3
  have K2 := Lib.hid hb2
  clear hB3 hb3 hb2
  go_wp2_with fail
  go_returns
  refine ⟨rfl, .inr ?_, (K2.out.mono hBw).trans K3.out⟩
  simpa [Lib.strCells, Lib.byteCells] using KB3.out
set_option maxRecDepth 100000 in
theorem form_c (x : Nat) (hx : x < 18446744073709551616) (hf : x % 9223372036854775808 < 9218868437227405312) (w : World) (hT : All w) :
    Calls Tryz.prog 6 #[.int .u64 x, .int .u8 102] w fun e w' => e = .returned (.string (strOfNums (TXT x))) ∧ Below w.heap.size w w' := by
  have h4 := e6
  obtain ⟨s, hs⟩ : ∃ s, s = strOfNums (TXT x) := ⟨_, rfl⟩
  have HA0 : Below w.heap.size w (w.alloc (.cells #[.pointer none, .slice none 0 0] 45)) := (Below.refl _ _).alloc (Nat.le_refl _) _
  have HF := Lib.hid (format_c x s hs (ff_any x hx hf) hf _ _ _ (Lib.fresh_isBuilder 45 5 w) HA0.size (hT.below HA0))
  have HA := Lib.hid HA0
  rw [← hs]
  clear hT hs HA0
  go_enter Tryz.func6, Tryz.ntmps6
  go_wp2_with (first | (go_at_call 12; go_in) | (go_at_call 11; go_in))
  refine HF.out.mono ?_
  rintro e w2 ⟨rfl, hB2, hb2⟩
  have KB2 := Lib.hid hB2
  have K2 := Lib.hid hb2
  clear hB2 hb2
  go_wp2_with fail
  refine (Tryz.Builder_String_any _ _ s.data.toList _ KB2.out (Nat.le_trans HA.out.size K2.out.size)).mono ?_
  rintro e w3 ⟨rfl, hb3⟩
  have K3 := Lib.hid hb3
  clear hb3
  go_wp2_with fail
  go_ret
  exact ⟨rfl, (HA.out.trans K2.out).trans K3.out⟩
end Go.Proofs.YtdbjoiojiibdgaaGreatDoor
namespace Go.Proofs.YtdbjoiojiibdgaaGreatDoor
open Go.RowKit Go.Proofs.YtdbjoiojiibdgaaGreatDoorW.PrintWords Go.Proofs.YtdbjoiojiibdgaaGreatDoorW.PrintLast Go.Proofs.YtdbjoiojiibdgaaGreatDoorW.PrintMore
open PFixed
structure Sl (w : World) (A : Option Addr) (c : Nat) (l : List Int) (lo hi : Nat) : Prop where
  C : Kd.C (Kd.int .u8) w A l.length l
  len : l.length ≤ c
  rng : ∀ ad, A = some ad → 0 < l.length → lo ≤ ad.block ∧ ad.block < hi
theorem Sl.of_R {w : World} {base : Nat} {v : Value} {l : List Int} (h : Kd.R (Kd.int .u8) 5 w base (fun _ => True) v l) : ∃ A c, v = .slice A l.length c ∧ Sl w A c l base w.heap.size := by
  obtain ⟨A, c, rfl⟩ := Kd.R_slice h
  refine ⟨A, c, rfl, (Kd.R_reads' h).2.2, (Kd.R_reads' h).2.1, fun ad ha _ => ?_⟩
  subst ha
  exact ⟨Kd.R_base h _ rfl, Kd.R_lt h _ rfl⟩
theorem Sl.below {w w1 : World} {A : Option Addr} {c lo hi : Nat} {l : List Int} (h : Sl w A c l lo hi) (hb : Below w.heap.size w w1) : Sl w1 A c l lo hi := ⟨Kd.C_below h.C hb, h.len, h.rng⟩
theorem Sl.set {w : World} {A : Option Addr} {c lo hi : Nat} {l : List Int} (h : Sl w A c l lo hi) (g i : Nat) (u : Value) (hg : g < lo ∨ hi ≤ g) : Sl (w.setCell ⟨g, i, none⟩ u) A c l lo hi :=
  ⟨Kd.C_keep 0 h.C ((KeepBut.refl w g none).set_ i u) (fun ad ha hn => by have := h.rng ad ha hn; omega), h.len, h.rng⟩
def Gi (w : World) (g : Nat) (s : Bool) (v : Value) : Prop := w.heap[g]? = some (.cells #[.bool s, v] 37 (0, 0))
theorem Gi.below {w w1 : World} {g : Nat} {s : Bool} {v : Value} (h : Gi w g s v) (hb : Below w.heap.size w w1) : Gi w1 g s v := (hb.block g (Array.getElem?_eq_some_iff.1 h).1).trans h
theorem Gi.c0 {w : World} {g : Nat} {s : Bool} {v : Value} (h : Gi w g s v) : w.cell? ⟨g, 0, none⟩ = some (.bool s) := by rw [cell_of_row w g _ _ 37 (0, 0) h]; rfl
theorem Gi.c1 {w : World} {g : Nat} {s : Bool} {v : Value} (h : Gi w g s v) : w.cell? ⟨g, 1, none⟩ = some v := by rw [cell_of_row w g _ _ 37 (0, 0) h]; rfl
theorem Gi.fz {w : World} {g : Nat} {s : Bool} {v : Value} (h : Gi w g s v) (i : Nat) : w.frozen? ⟨g, i, none⟩ = false := frozen_of_row w g i _ 37 h
theorem Gi.put {w : World} {g : Nat} {s : Bool} {v : Value} (h : Gi w g s v) (s' : Bool) (v' : Value) : Gi ((w.setCell ⟨g, 0, none⟩ (.bool s')).setCell ⟨g, 1, none⟩ v') g s' v' :=
  heap_setCell_same _ g 1 _ 37 v' (heap_setCell_same w g 0 _ 37 _ h)
theorem Gi.far {w : World} {g : Nat} {s : Bool} {v : Value} (h : Gi w g s v) (g' i : Nat) (u : Value) (hg : g ≠ g') : Gi (w.setCell ⟨g', i, none⟩ u) g s v := (heap_setCell_other w ⟨g', i, none⟩ g u hg).trans h
theorem below_put {w0 w : World} {B g i : Nat} {u : Value} (h : Below B w0 w) (hg : B ≤ g) : Below B w0 (w.setCell ⟨g, i, none⟩ u) := h.setCell (p := ⟨g, i, none⟩) hg u
theorem Sl.mono {w : World} {A : Option Addr} {c lo hi lo2 hi2 : Nat} {l : List Int} (h : Sl w A c l lo hi) (h1 : lo2 ≤ lo) (h2 : hi ≤ hi2) : Sl w A c l lo2 hi2 :=
  ⟨h.C, h.len, fun ad ha hn => by have := h.rng ad ha hn; omega⟩
def Shf (k : Nat) (e : Int) (l1 la lb : List Int) : Prop := (0 < e ∧ spec_Int_Lsh.f k false l1 e = some (false, la) ∧ lb = [1]) ∨ (e ≤ 0 ∧ la = l1 ∧ spec_Int_Lsh.f k false [1] (-e) = some (false, lb))
def Off (g4 g8 lo hi : Nat) : Prop := (g4 < lo ∧ hi ≤ g8) ∨ g8 + 1 < lo
theorem Off.g8 {g4 g8 lo hi : Nat} (h : Off g4 g8 lo hi) : g8 < lo ∨ hi ≤ g8 := by
  rcases h with h | h <;> omega
set_option maxHeartbeats 4000000 in
set_option maxRecDepth 100000 in
theorem scaled_walk (x m : Nat) (e : Int) (k1 k2 k3 k4 : Nat) (t1 l1 la lb l3 l4 : List Int) (hpc : ∀ w : World, Calls Tryz.prog 16 #[.float .f64 x] w fun en w' => en = .returned (.tuple #[.bool ((x : Int) / 9223372036854775808 == 1), .int .u64 m, .int .i64 e]) ∧ w = w') (he0 : -2000 ≤ e) (he1 : e ≤ 2000)
    (ht1 : spec_bytesOf.f k1 (m : Int) = some t1) (hk1 : spec_Of.f k1 false t1 = some (false, l1)) (hsh : Shf k2 e l1 la lb) (hk3 : spec_Int_Mul.f k3 false la false [15, 66, 64] = some (false, l3)) (hk4 : spec_near.f k4 false l3 false lb = some (false, l4)) (w : World) :
    Calls Tryz.prog 14 #[.float .f64 x, .int .i64 6] w fun en w' => ∃ v, en = .returned (.agg #[.bool false, v]) ∧ (∃ A c, v = .slice A l4.length c ∧ Kd.C (Kd.int .u8) w' A l4.length l4 ∧ l4.length ≤ c) ∧ Below w.heap.size w w' := by
  have hsm := small_one 20 (Nat.le_refl _)
  have htn := tens_ev 60 (Nat.le_refl _)
  have HP := Lib.hid hpc
  have T1 := Lib.hid ht1
  have T2 := Lib.hid hk1
  have T3 := Lib.hid hsm
  have T4 := Lib.hid hsh
  have T5 := Lib.hid htn
  have T6 := Lib.hid hk3
  have T7 := Lib.hid hk4
  clear hpc ht1 hk1 hsm hsh htn hk3 hk4
  go_enter Tryz.func14, Tryz.ntmps14
  go_wp2_with (go_at_call 16; refine (HP.out _).mono ?_; rintro e w' ⟨rfl, rfl⟩)
  have G4 : Hid (Gi (w.alloc (.cells #[.bool false, .slice none 0 0] 37)) w.heap.size false (.slice none 0 0)) := Lib.hid (heap_alloc_new w (.cells #[.bool false, .slice none 0 0] 37))
  have B1 : Hid (Below w.heap.size w (w.alloc (.cells #[.bool false, .slice none 0 0] 37))) := Lib.hid ((Below.refl _ _).alloc (Nat.le_refl _) _)
  obtain ⟨w1, hw1⟩ : ∃ w1, w1 = w.alloc (.cells #[.bool false, .slice none 0 0] 37) := ⟨_, rfl⟩
  rw [← hw1] at G4 B1 ⊢
  have z1 : w.heap.size < w1.heap.size := by rw [hw1]; simp
  clear hw1
  refine (spec_bytesOf.calls k1 m t1 w1 T1.out).mono ?_
  rintro e w2 ⟨v2, rfl, hR, hb⟩
  obtain ⟨A2, c2, rfl, hS⟩ := Sl.of_R hR
  have S2 := Lib.hid hS
  have G4b : Hid (Gi w2 w.heap.size false (.slice none 0 0)) := Lib.hid (G4.out.below hb)
  have B2 : Hid (Below w.heap.size w w2) := Lib.hid (B1.out.trans (hb.mono (Nat.le_of_lt z1)))
  have z2 : w.heap.size < w2.heap.size := Nat.lt_of_lt_of_le z1 hb.size
  clear G4 B1 hR hb hS z1
  go_wp2_with fail
  refine (spec_Of.calls k1 false A2 c2 t1 false l1 w2 S2.out.C S2.out.len T2.out).mono ?_
  rintro e w3 ⟨v3, rfl, hR, hb⟩
  obtain ⟨A3, c3, rfl, hS⟩ := Sl.of_R hR
  have S3 := Lib.hid hS
  have G4 : Hid (Gi w3 w.heap.size false (.slice none 0 0)) := Lib.hid (G4b.out.below hb)
  have B3 : Hid (Below w.heap.size w w3) := Lib.hid (B2.out.trans (hb.mono (Nat.le_of_lt z2)))
  have z3 : w2.heap.size ≤ w3.heap.size := hb.size
  clear G4b B2 hR hb hS S2
  go_wp2_with fail
  refine (spec_Small.calls 20 1 false [1] w3 T3.out).mono ?_
  rintro e w4 ⟨v4, rfl, hR, hb⟩
  obtain ⟨A4, c4, rfl, hS⟩ := Sl.of_R hR
  have S4 := Lib.hid hS
  have S3b := Lib.hid (S3.out.below hb)
  have G4b : Hid (Gi w4 w.heap.size false (.slice none 0 0)) := Lib.hid (G4.out.below hb)
  have B4 : Hid (Below w.heap.size w w4) := Lib.hid (B3.out.trans (hb.mono (by omega)))
  have z4 : w3.heap.size ≤ w4.heap.size := hb.size
  clear G4 B3 hR hb hS S3
  go_upto_if 21 with fail
  have b45 : Hid (Below w4.heap.size w4 ((w4.alloc (.cells #[.bool false, .slice A3 l1.length c3] 37)).alloc (.cells #[.bool false, .slice A4 1 c4] 37))) := Lib.hid (((Below.refl _ _).alloc (Nat.le_refl _) _).alloc (by simp) _)
  have G8 : Hid (Gi ((w4.alloc (.cells #[.bool false, .slice A3 l1.length c3] 37)).alloc (.cells #[.bool false, .slice A4 1 c4] 37)) w4.heap.size false (.slice A3 l1.length c3)) := Lib.hid ((Below.heap_alloc _ _ _ (by simp)).trans (heap_alloc_new w4 (.cells #[.bool false, .slice A3 l1.length c3] 37)))
  have G9 : Hid (Gi ((w4.alloc (.cells #[.bool false, .slice A3 l1.length c3] 37)).alloc (.cells #[.bool false, .slice A4 1 c4] 37)) (w4.heap.size + 1) false (.slice A4 1 c4)) := Lib.hid (by
    have := heap_alloc_new (w4.alloc (.cells #[.bool false, .slice A3 l1.length c3] 37)) (.cells #[.bool false, .slice A4 1 c4] 37)
    rw [show (w4.alloc (.cells #[.bool false, .slice A3 l1.length c3] 37)).heap.size = w4.heap.size + 1 from by simp] at this
    exact this)
  have z5 : ((w4.alloc (.cells #[.bool false, .slice A3 l1.length c3] 37)).alloc (.cells #[.bool false, .slice A4 1 c4] 37)).heap.size = w4.heap.size + 2 := by simp
  obtain ⟨w5, hw5⟩ : ∃ w5, w5 = (w4.alloc (.cells #[.bool false, .slice A3 l1.length c3] 37)).alloc (.cells #[.bool false, .slice A4 1 c4] 37) := ⟨_, rfl⟩
  rw [← hw5] at b45 G8 G9 z5 ⊢
  clear hw5
  have S3 := Lib.hid (S3b.out.below b45.out)
  have S4b := Lib.hid (S4.out.below b45.out)
  have G4 : Hid (Gi w5 w.heap.size false (.slice none 0 0)) := Lib.hid (G4b.out.below b45.out)
  have B5 : Hid (Below w.heap.size w w5) := Lib.hid (B4.out.trans (b45.out.mono (by omega)))
  clear S3b S4 G4b B4 b45
  go_cut [] (fun wx => ∃ Aa ca lo hi Ab cb lo' hi', Hid (Gi wx w.heap.size false (.slice none 0 0) ∧ Gi wx w4.heap.size false (.slice Aa la.length ca) ∧ Gi wx (w4.heap.size + 1) false (.slice Ab lb.length cb) ∧ Sl wx Aa ca la lo hi ∧ Off w.heap.size w4.heap.size lo hi ∧ Sl wx Ab cb lb lo' hi' ∧ Off w.heap.size w4.heap.size lo' hi' ∧ Below w.heap.size w wx ∧ w4.heap.size + 2 ≤ wx.heap.size))
  case first =>
    rcases T4.out with ⟨hpos, hL, hlb⟩ | ⟨hpos, hla, hL⟩
    · subst hlb
      have hd : decide ((0 : Int) < e) = true := decide_eq_true hpos
      have d0 := G8.out.c0
      have d1 := G8.out.c1
      go_wp2_with fail
      refine (spec_Int_Lsh.calls k2 false A3 c3 l1 e false la w5 S3.out.C S3.out.len hL).mono ?_
      rintro en w6 ⟨v6, rfl, hR, hb⟩
      obtain ⟨A6, c6, rfl, hS⟩ := Sl.of_R hR
      have S6 := Lib.hid hS
      have z6 : w5.heap.size ≤ w6.heap.size := hb.size
      have G4b : Hid (Gi w6 w.heap.size false (.slice none 0 0)) := Lib.hid (G4.out.below hb)
      have G8b := Lib.hid (G8.out.below hb)
      have G9b := Lib.hid (G9.out.below hb)
      have SK := Lib.hid (S4b.out.below hb)
      have B6 : Hid (Below w.heap.size w w6) := Lib.hid (B5.out.trans (hb.mono (by omega)))
      clear G4 G8 G9 B5 hR hb hS d0 d1
      have d0 := G8b.out.c0
      have d1 := G8b.out.c1
      have f0 := G8b.out.fz 0
      have f1 := G8b.out.fz 1
      go_wp2_with fail
      go_meet
      case rel =>
        exact ⟨A6, c6, _, _, A4, c4, _, _, Lib.hid ⟨(G4b.out.far _ _ _ (by omega)).far _ _ _ (by omega), G8b.out.put _ _, (G9b.out.far _ _ _ (by omega)).far _ _ _ (by omega), (S6.out.set _ _ _ (by omega)).set _ _ _ (by omega), Or.inr (by omega), (SK.out.set _ _ _ (by omega)).set _ _ _ (by omega), Or.inl (by omega), below_put (below_put B6.out (by omega)) (by omega), by simp; omega⟩⟩
    · subst hla
      have hd : decide ((0 : Int) < e) = false := decide_eq_false (by omega)
      have d0 := G9.out.c0
      have d1 := G9.out.c1
      go_wp2_with fail
      refine (spec_Int_Lsh.calls k2 false A4 c4 [1] (-e) false lb w5 S4b.out.C S4b.out.len hL).mono ?_
      rintro en w6 ⟨v6, rfl, hR, hb⟩
      obtain ⟨A6, c6, rfl, hS⟩ := Sl.of_R hR
      have S6 := Lib.hid hS
      have z6 : w5.heap.size ≤ w6.heap.size := hb.size
      have G4b : Hid (Gi w6 w.heap.size false (.slice none 0 0)) := Lib.hid (G4.out.below hb)
      have G8b := Lib.hid (G8.out.below hb)
      have G9b := Lib.hid (G9.out.below hb)
      have SK := Lib.hid (S3.out.below hb)
      have B6 : Hid (Below w.heap.size w w6) := Lib.hid (B5.out.trans (hb.mono (by omega)))
      clear G4 G8 G9 B5 hR hb hS d0 d1
      have d0 := G9b.out.c0
      have d1 := G9b.out.c1
      have f0 := G9b.out.fz 0
      have f1 := G9b.out.fz 1
      go_wp2_with fail
      go_meet
      case rel =>
        exact ⟨A3, c3, _, _, A6, c6, _, _, Lib.hid ⟨(G4b.out.far _ _ _ (by omega)).far _ _ _ (by omega), (G8b.out.far _ _ _ (by omega)).far _ _ _ (by omega), G9b.out.put _ _, (SK.out.set _ _ _ (by omega)).set _ _ _ (by omega), Or.inl (by omega), (S6.out.set _ _ _ (by omega)).set _ _ _ (by omega), Or.inr (by omega), below_put (below_put B6.out (by omega)) (by omega), by simp; omega⟩⟩
  case rest =>
    obtain ⟨Aa, ca, lo, hi, Ab, cb, lo', hi', HH⟩ := hcut
    have HB0 := Lib.hid (Below.refl wc.heap.size wc).drew
    have d0 := HH.out.2.1.c0
    have d1 := HH.out.2.1.c1
    go_upto_region 7 with fail
    go_cut [] (fun wx => ∃ A8 c8, Hid (Gi wx w.heap.size false (.slice none 0 0) ∧ Gi wx w4.heap.size false (.slice A8 l3.length c8) ∧ Gi wx (w4.heap.size + 1) false (.slice Ab lb.length cb) ∧ Sl wx A8 c8 l3 (w4.heap.size + 2) wx.heap.size ∧ Sl wx Ab cb lb lo' hi' ∧ Off w.heap.size w4.heap.size lo' hi' ∧ Below w.heap.size w wx ∧ w4.heap.size + 2 ≤ wx.heap.size))
    case first =>
      go_region_with (first
        | (go_at_call 25; refine (spec_frontTens.calls 60 6 false [15, 66, 64] _ T5.out).mono ?_; rintro en w7 ⟨v7, rfl, hR, hb⟩; obtain ⟨A7, c7, rfl, hS7⟩ := Sl.of_R hR; have HB7 := Lib.hid (HB0.out.trans hb); have S7 := Lib.hid hS7; have z7 : wc.heap.size ≤ w7.heap.size := HB7.out.size; clear hR hb hS7; have d70 := (HH.out.2.1.below HB7.out).c0; have d71 := (HH.out.2.1.below HB7.out).c1)
        | (go_at_call 24; refine (spec_Int_Mul.calls k3 false Aa ca la false A7 c7 [15, 66, 64] false l3 _ (HH.out.2.2.2.1.below HB7.out).C HH.out.2.2.2.1.len S7.out.C S7.out.len T6.out).mono ?_; rintro en w8 ⟨v8, rfl, hR, hb⟩; obtain ⟨A8, c8, rfl, hS8⟩ := Sl.of_R hR; have HB8 := Lib.hid (HB7.out.trans (hb.mono z7)); have S8 := Lib.hid hS8; have z8 : w7.heap.size ≤ w8.heap.size := hb.size; clear hR hb hS8; have d80 := (HH.out.2.1.below HB8.out).c0; have d81 := (HH.out.2.1.below HB8.out).c1; have f80 := (HH.out.2.1.below HB8.out).fz 0; have f81 := (HH.out.2.1.below HB8.out).fz 1))
      all_goals
        go_wp2_with fail
        go_meet
        obtain ⟨h1, h2, h3, h4, h5, h6, h7, h8, h9⟩ := HH.out
        have hz : wc.heap.size ≤ w8.heap.size := HB8.out.size
        exact ⟨A8, c8, Lib.hid ⟨((h1.below HB8.out).far _ _ _ (by omega)).far _ _ _ (by omega), (h2.below HB8.out).put _ _, ((h3.below HB8.out).far _ _ _ (by omega)).far _ _ _ (by omega), ((S8.out.set _ _ _ (by omega)).set _ _ _ (by omega)).mono (by omega) (by simp), ((h6.below HB8.out).set _ _ _ h7.g8).set _ _ _ h7.g8, h7, below_put (below_put (h8.trans (HB8.out.mono (by omega))) (by omega)) (by omega), by simp; omega⟩⟩
    case rest =>
      clear HH HB0 d0 d1
      obtain ⟨A8, c8, HH⟩ := hcut
      have d0 := HH.out.2.1.c0
      have d1 := HH.out.2.1.c1
      have d2 := HH.out.2.2.1.c0
      have d3 := HH.out.2.2.1.c1
      go_wp2_with fail
      refine (spec_near.calls k4 false A8 c8 l3 false Ab cb lb false l4 _ HH.out.2.2.2.1.C HH.out.2.2.2.1.len HH.out.2.2.2.2.1.C HH.out.2.2.2.2.1.len T7.out).mono ?_
      rintro en w9 ⟨v9, rfl, hR, hb⟩
      obtain ⟨A9, c9, rfl, hS⟩ := Sl.of_R hR
      have G4 := Lib.hid (HH.out.1.below hb)
      have S9 := Lib.hid hS
      have HB9 := Lib.hid hb
      clear hR hb hS d0 d1 d2 d3
      have d0 := G4.out.c0
      have d1 := G4.out.c1
      have f0 := G4.out.fz 0
      have f1 := G4.out.fz 1
      go_wp2_with fail
      refine bodyPost_ret (results_cell_row rfl _ _ w.heap.size 37 #[.bool false, .slice A9 l4.length c9] (0, 0) _ rfl (G4.out.put false (.slice A9 l4.length c9)) Tryz.underlying37 rfl (by kernel_rfl)) rfl ?_
      obtain ⟨h1, h2, h3, h4, h5, h6, h7, h8⟩ := HH.out
      have hz := HB9.out.size
      have h := (S9.out.set w.heap.size 0 (.bool false) (by omega)).set w.heap.size 1 (.slice A9 l4.length c9) (by omega)
      exact ⟨_, rfl, ⟨A9, c9, rfl, h.C, h.len⟩, below_put (below_put (h7.trans (HB9.out.mono (by omega))) (Nat.le_refl _)) (Nat.le_refl _)⟩
end Go.Proofs.YtdbjoiojiibdgaaGreatDoor
namespace Go.Proofs.YtdbjoiojiibdgaaGreatDoor
open Go.RowKit Go.Proofs.YtdbjoiojiibdgaaGreatDoorW.PrintWords Go.Proofs.YtdbjoiojiibdgaaGreatDoorW.PrintLast Go.Proofs.YtdbjoiojiibdgaaGreatDoorW.PrintMore
open PFixed
theorem exp_range (x : Nat) (hf : x % 9223372036854775808 < 9218868437227405312) : -1074 ≤ expOf x ∧ expOf x ≤ 971 := by
  unfold expOf
  split <;> omega
theorem rne_le (X B : Nat) : rne X B ≤ X + 1 := by
  unfold rne
  have := Nat.div_le_self X B
  split <;> omega
theorem lt_more {X p N : Nat} (h1 : N ≤ X + 1) (h2 : X < p) (h3 : 0 < p) : N < p * 256 := by omega
def Scl (x : Nat) (l : List Int) : Prop := ∀ w : World, Calls Tryz.prog 14 #[.float .f64 x, .int .i64 6] w fun en w' => ∃ v, en = .returned (.agg #[.bool false, v]) ∧ (∃ A c, v = .slice A l.length c ∧ Kd.C (Kd.int .u8) w' A l.length l ∧ l.length ≤ c) ∧ Below w.heap.size w w'
set_option exponentiation.threshold 2000 in
theorem scaled_c (x : Nat) (hf : x % 9223372036854775808 < 9218868437227405312) : ∃ l, Can l (MN x) ∧ l.length ≤ 300 ∧ Scl x l := by
  obtain ⟨he0, he1⟩ := exp_range x hf
  have hm : mantOf x < 9007199254740992 := by unfold mantOf; split <;> omega
  have hpc := parts_c x
  have hMN : MN x = rne (mantOf x * 2 ^ (expOf x).toNat * 1000000) (2 ^ (-(expOf x)).toNat) := rfl
  obtain ⟨m, hme⟩ : ∃ m, m = mantOf x := ⟨_, rfl⟩
  obtain ⟨e, hee⟩ : ∃ e, e = expOf x := ⟨_, rfl⟩
  rw [← hme] at hm hpc hMN
  rw [← hee] at he0 he1 hpc hMN
  obtain ⟨l1, ⟨k1, hk1⟩, hc1, hl1⟩ := m_can (u := m) (by omega)
  obtain ⟨t1, ht1, hk1⟩ := Option.bind_eq_some_iff.1 hk1
  have main : ∀ (k2 : Nat) (la lb : List Int) (A B : Nat), Shf k2 e l1 la lb → Can la A → Can lb B → 0 < B → A < 256 ^ 200 → B < 256 ^ 200 → MN x = rne (A * 1000000) B → ∃ l, Can l (MN x) ∧ l.length ≤ 300 ∧ Scl x l := by
    intro k2 la lb A B hsh hca hcb hB hA hB2 hR
    have hla : la.length ≤ 200 := hca.len_le hA
    have hlb : lb.length ≤ 200 := hcb.len_le hB2
    obtain ⟨l3, he3, hc3⟩ := mul_ev hca can_tens (by omega) (by decide)
    obtain ⟨k3, hk3⟩ := ev_at he3
    have hA3 : A * 1000000 < 256 ^ 203 := by
      rw [show 203 = 200 + 3 from rfl, Nat.pow_add]
      exact Nat.mul_lt_mul'' hA (by decide)
    have hl3 : l3.length ≤ 203 := hc3.len_le hA3
    obtain ⟨l4, he4, hc4⟩ := near_ev hc3 hcb hB (by omega) (by omega)
    obtain ⟨k4, hk4⟩ := ev_at he4
    have hl4 : l4.length ≤ 204 := hc4.len_le (by
      have h1 := rne_le (A * 1000000) B
      rw [show 204 = 203 + 1 from rfl, Nat.pow_succ]
      exact lt_more h1 hA3 (Nat.pow_pos (by decide)))
    refine ⟨l4, hR ▸ hc4, by omega, fun w => ?_⟩
    exact scaled_walk x m e k1 k2 k3 k4 t1 l1 la lb l3 l4 hpc (by omega) (by omega) ht1 hk1 hsh hk3 hk4 w
  have p200 : 2 ^ 1024 < 256 ^ 200 := pow2_lt (by decide)
  have p201 : 2 ^ 1100 < 256 ^ 200 := pow2_lt (by decide)
  by_cases hpos : 0 < e
  · obtain ⟨n, rfl⟩ := Int.eq_ofNat_of_zero_le (by omega : 0 ≤ e)
    obtain ⟨l2, he2, hc2⟩ := lsh_ev hc1 (by omega) n (by omega)
    obtain ⟨k2, hk2⟩ := ev_at he2
    refine main k2 l2 [1] (m * 2 ^ n) 1 (Or.inl ⟨hpos, hk2, rfl⟩) hc2 can_one (by decide) ?_ (Nat.one_lt_pow (by decide) (by decide)) ?_
    · have h1 : m * 2 ^ n < 2 ^ 53 * 2 ^ n := Nat.mul_lt_mul_of_pos_right (by omega) (Nat.pow_pos (by decide))
      rw [← Nat.pow_add] at h1
      exact Nat.lt_trans (Nat.lt_of_lt_of_le h1 (Nat.pow_le_pow_right (by decide) (by omega : 53 + n ≤ 1024))) p200
    · rw [hMN, Int.toNat_natCast, show (-(n : Int)).toNat = 0 from by omega, Nat.pow_zero]
  · obtain ⟨n, hn⟩ := Int.eq_ofNat_of_zero_le (by omega : 0 ≤ -e)
    obtain ⟨l2, he2, hc2⟩ := lsh_ev can_one (by decide) n (by omega)
    obtain ⟨k2, hk2⟩ := ev_at he2
    rw [Nat.one_mul] at hc2
    rw [← hn] at hk2
    refine main k2 l1 l2 m (2 ^ n) (Or.inr ⟨by omega, rfl, hk2⟩) hc1 hc2 (Nat.pow_pos (by decide)) (Nat.lt_trans (by omega : m < 2 ^ 53) (pow2_lt (by decide))) ?_ ?_
    · exact Nat.lt_of_le_of_lt (Nat.pow_le_pow_right (by decide) (by omega : n ≤ 1100)) p201
    · rw [hMN, hn, Int.toNat_natCast, show e.toNat = 0 from by omega, Nat.pow_zero, Nat.mul_one]
end Go.Proofs.YtdbjoiojiibdgaaGreatDoor
namespace Go.Proofs.YtdbjoiojiibdgaaGreatDoor
open Go.RowKit Go.Proofs.YtdbjoiojiibdgaaGreatDoorW.PrintWords Go.Proofs.YtdbjoiojiibdgaaGreatDoorW.PrintLast Go.Proofs.YtdbjoiojiibdgaaGreatDoorW.PrintMore
open PFixed
theorem son_append (a b : List Int) : strOfNums (a ++ b) = strOfNums a ++ strOfNums b := by
  apply ByteArray.ext
  simp [strOfNums, ByteArray.data_append]
theorem son_extract (l : List Int) (i j : Nat) : (strOfNums l).extract i j = strOfNums ((l.take j).drop i) := by
  apply ByteArray.ext
  apply Array.ext'
  simp [strOfNums, List.map_take, List.map_drop, List.extract_eq_take_drop, List.drop_take]
theorem son_rep (n : Nat) : strOfNums (List.replicate n 48) = ⟨(List.replicate n (48 : UInt8)).toArray⟩ := by
  apply ByteArray.ext
  simp [strOfNums]
set_option exponentiation.threshold 2000 in
theorem dle_le (N : Nat) (h : N < 256 ^ 300) : (dle N).length ≤ 1000 := by
  by_cases h0 : N = 0
  · rw [h0, dle, dif_pos rfl]; decide
  · obtain ⟨_, _, a⟩ := dle_law N
    obtain ⟨a, b⟩ := a h0
    rcases Nat.lt_or_ge 1000 (dle N).length with c | c
    · exfalso
      have h1 : 10 ^ 1000 ≤ 10 ^ ((dle N).length - 1) := Nat.pow_le_pow_right (by decide) (by omega)
      have h2 : 256 ^ 300 ≤ 10 ^ 1000 := by decide +kernel
      exact absurd (Nat.lt_of_lt_of_le h (Nat.le_trans h2 h1)) (Nat.not_lt.2 a)
    · exact c
def D7 (N : Nat) : List Int := dgl N (max (dle N).length 7)
set_option exponentiation.threshold 2000 in
theorem can_lt {l : List Int} {N : Nat} (hc : Can l N) (hl : l.length ≤ 300) : N < 256 ^ 300 := by
  have h1 : N < 256 ^ l.length := by
    have := val_lt hc.byt
    rwa [hc.val] at this
  exact Nat.lt_of_lt_of_le h1 (Nat.pow_le_pow_right (by decide) hl)
theorem text_ev {l : List Int} {N : Nat} (hc : Can l N) (hl : l.length ≤ 300) : ∃ k s k', spec_Int_Text.f k false l = some s ∧ spec_padded.f k' s 7 = some (strOfNums (D7 N)) := by
  have hN := can_lt hc hl
  have key : ∀ s : ByteArray, s.size ≤ 1000 → (⟨(List.replicate (7 - s.size) (48 : UInt8)).toArray⟩ : ByteArray) ++ s = strOfNums (D7 N) → ∃ k', spec_padded.f k' s 7 = some (strOfNums (D7 N)) := by
    intro s hs he
    obtain ⟨k', hk⟩ := ev_at (pad_ev 7 (by decide) _ s rfl (by omega))
    refine ⟨k', ?_⟩
    rw [← he]
    exact hk
  by_cases h0 : N = 0
  · subst h0
    have hnil : l = [] := List.eq_nil_of_length_eq_zero (hc.zero_iff.2 rfl)
    subst hnil
    obtain ⟨k', hk'⟩ := key ⟨#[48]⟩ (by decide) (by
      have e : D7 0 = List.replicate 6 48 ++ [48] := by
        unfold D7
        rw [dle, dif_pos rfl, dgl_zero]
        rfl
      rw [e, son_append, son_rep]
      rfl)
    exact ⟨20, ⟨#[48]⟩, k', by kernel_rfl, hk'⟩
  · have hd := dle_le N hN
    obtain ⟨k, hk⟩ := ev_at (base_ev hc (by omega) (by omega) h0)
    obtain ⟨e1, e2, _⟩ := dle_law N
    obtain ⟨k', hk'⟩ := key (strOfNums (dle N).reverse) (by rw [strOfNums_size, List.length_reverse]; exact hd) (by
      rw [strOfNums_size, List.length_reverse, ← son_rep, ← son_append, e1]
      unfold D7
      congr 1
      have : max (dle N).length 7 = (7 - (dle N).length) + (dle N).length := by omega
      rw [this, dgl_lead _ _ N e2])
    exact ⟨k, _, k', hk, hk'⟩
theorem D7_len (N : Nat) : 7 ≤ (D7 N).length := by
  unfold D7
  rw [dgl_len]
  omega
theorem tx_D7 (N : Nat) : tx N = (D7 N).take ((D7 N).length - 6) ++ [46] ++ (D7 N).drop ((D7 N).length - 6) := by
  unfold tx D7
  rw [dgl_len]
theorem son_46 : strOfNums [46] = ⟨#[46]⟩ := by
  apply ByteArray.ext
  simp [strOfNums]
theorem son_45 : strOfNums [45] = ⟨#[45]⟩ := by
  apply ByteArray.ext
  simp [strOfNums]
theorem he_law (l : List Int) : (strOfNums l).extract 0 (l.length - 6) ++ ⟨#[46]⟩ ++ (strOfNums l).extract (l.length - 6) l.length = strOfNums (l.take (l.length - 6) ++ [46] ++ l.drop (l.length - 6)) := by
  rw [son_append, son_append, son_extract, son_extract, List.drop_zero, List.take_length, son_46]
theorem hr_law (c : Bool) (l : List Int) : strOfNums (sgn c ++ l) = if c = true then ⟨#[45]⟩ ++ strOfNums l else strOfNums l := by
  cases c
  · rw [if_neg (by decide)]
    unfold sgn
    rw [if_neg (by decide), List.nil_append]
  · rw [if_pos rfl]
    unfold sgn
    rw [if_pos rfl, son_append, son_45]
set_option maxHeartbeats 2000000 in
set_option maxRecDepth 100000 in
theorem fixed_c (x : Nat) (hx : x < 18446744073709551616) (hf : x % 9223372036854775808 < 9218868437227405312) (w : World) :
    Calls Tryz.prog 8 #[.float .f64 x] w fun e w' => e = .returned (.string (strOfNums (TXT x))) ∧ Below w.heap.size w w' := by
  obtain ⟨l, hc, hl, hs⟩ := scaled_c x hf
  obtain ⟨k, s, k', ht, hp⟩ := text_ev hc hl
  have HS := Lib.hid (hs w)
  have HT := Lib.hid ht
  have HPC := Lib.hid (parts_c x)
  have h7 := D7_len (MN x)
  have hsz : (strOfNums (D7 (MN x))).size = (D7 (MN x)).length := strOfNums_size _
  have HE : Hid ((strOfNums (D7 (MN x))).extract 0 ((strOfNums (D7 (MN x))).size - 6) ++ ⟨#[46]⟩ ++ (strOfNums (D7 (MN x))).extract ((strOfNums (D7 (MN x))).size - 6) (strOfNums (D7 (MN x))).size = strOfNums (tx (MN x))) := Lib.hid (by
    rw [hsz, tx_D7]
    exact he_law _)
  obtain ⟨S, hS⟩ : ∃ S, S = strOfNums (D7 (MN x)) := ⟨_, rfl⟩
  rw [← hS] at hp HE hsz
  have hS7 : 7 ≤ S.size := by rw [hsz]; exact h7
  have hS9 : S.size ≤ 1000 := by
    rw [hsz]
    have := dle_le _ (can_lt hc hl)
    unfold D7
    rw [dgl_len]
    exact Nat.max_le.2 ⟨this, by decide⟩
  have HP := Lib.hid hp
  obtain ⟨V, hV⟩ : ∃ V, V = strOfNums (tx (MN x)) := ⟨_, rfl⟩
  rw [← hV] at HE
  have HR : Hid (strOfNums (TXT x) = if ng x = true then ⟨#[45]⟩ ++ V else V) := Lib.hid (by
    rw [hV]
    exact hr_law _ _)
  have hng : ((x : Int) / 9223372036854775808 == 1) = ng x := by
    unfold ng
    rcases (by omega : (x : Int) / 9223372036854775808 = 0 ∨ (x : Int) / 9223372036854775808 = 1) with e | e <;> rw [e] <;> rfl
  rw [hng] at HPC
  obtain ⟨L, hL⟩ : ∃ L, L = S.size - 6 := ⟨_, rfl⟩
  rw [← hL] at HE
  have hLi : (S.size : Int) - 6 = (L : Int) := by omega
  have hLle : L ≤ S.size := by omega
  rw [HR.out]
  clear hL HR hng hV hS hp hsz h7 ht hs hl hc
  cases hneg : ng x
  · rw [hneg] at HPC
    rw [if_neg (by decide)]
    go_enter Tryz.func8, Tryz.ntmps8
    go_wp2_with fail
    refine HS.out.mono ?_
    rintro en w2 ⟨v, rfl, ⟨A, c, rfl, hC, hlen⟩, hb⟩
    have KC := Lib.hid hC
    have KB := Lib.hid hb
    clear hC hb
    go_wp2_with fail
    refine (spec_Int_Text.calls k false A c l s w2 KC.out hlen HT.out).mono ?_
    rintro en w3 ⟨rfl, hb⟩
    have KB3 := Lib.hid hb
    clear hb
    go_wp2_with fail
    refine (spec_padded.calls k' s 7 S w3 HP.out).mono ?_
    rintro en w4 ⟨rfl, hd⟩
    have KD := Lib.hid hd.below
    clear hd
    go_wp2_with fail
    go_quiet (fail)
    go_wp2_with fail
    refine (HPC.out _).mono ?_
    rintro en w5 ⟨rfl, rfl⟩
    go_wp2_with fail
    go_ret
    refine ⟨?_, ?_⟩
    · rw [← HE.out]
      rfl
    · exact (drewN_below nq).mp ((KB.out.trans (KB3.out.mono KB.out.size)).trans (KD.out.mono (Nat.le_trans KB.out.size KB3.out.size)))
  · rw [hneg] at HPC
    rw [if_pos rfl]
    go_enter Tryz.func8, Tryz.ntmps8
    go_wp2_with fail
    refine HS.out.mono ?_
    rintro en w2 ⟨v, rfl, ⟨A, c, rfl, hC, hlen⟩, hb⟩
    have KC := Lib.hid hC
    have KB := Lib.hid hb
    clear hC hb
    go_wp2_with fail
    refine (spec_Int_Text.calls k false A c l s w2 KC.out hlen HT.out).mono ?_
    rintro en w3 ⟨rfl, hb⟩
    have KB3 := Lib.hid hb
    clear hb
    go_wp2_with fail
    refine (spec_padded.calls k' s 7 S w3 HP.out).mono ?_
    rintro en w4 ⟨rfl, hd⟩
    have KD := Lib.hid hd.below
    clear hd
    go_wp2_with fail
    go_quiet (fail)
    go_wp2_with fail
    refine (HPC.out _).mono ?_
    rintro en w5 ⟨rfl, rfl⟩
    go_wp2_with fail
    go_ret
    refine ⟨?_, ?_⟩
    · rw [← HE.out]
      rfl
    · exact (drewN_below nq).mp ((KB.out.trans (KB3.out.mono KB.out.size)).trans (KD.out.mono (Nat.le_trans KB.out.size KB3.out.size)))
end Go.Proofs.YtdbjoiojiibdgaaGreatDoor
namespace Go.Proofs.YtdbjoiojiibdgaaGreatDoor
open Go.RowKit
theorem isnan_c (x : Nat) (t : Bool) (ht : (Ieee.double.order x x != some .eq) = t) (w : World) : Calls Tryz.prog 9 #[.float .f64 x] w fun e w' => e = .returned (.bool t) ∧ w = w' := by
  rw [← ht]; exact nan_c x w
set_option maxRecDepth 100000 in
theorem inf_c0 (x : Nat) (t : Bool) (ht : (Ieee.double.order (x % 9223372036854775808) 9218868437227405311 == some .gt) = t) (w : World) : Calls Tryz.prog 10 #[.float .f64 x, .int .i64 0] w fun e w' => e = .returned (.bool t) ∧ w = w' := by
  have HT := Lib.hid ht
  clear ht
  go_enter Tryz.func10, Tryz.ntmps10
  go_wp2_with (go_at_call 17; refine (abs_c _ _).mono ?_; rintro e w' ⟨rfl, rfl⟩)
  go_ret
  exact ⟨by rw [← HT.out]; rfl, rfl⟩
set_option maxRecDepth 100000 in
theorem finite_c (x : Nat) (n t : Bool) (hn : (Ieee.double.order x x != some .eq) = n) (ht : (Ieee.double.order (x % 9223372036854775808) 9218868437227405311 == some .gt) = t) (w : World) : Calls Tryz.prog 5 #[.float .f64 x] w fun e w' => e = .returned (.bool (!n && !t)) ∧ w = w' := by
  have HN := Lib.hid (isnan_c x n hn)
  have HT := Lib.hid (inf_c0 x t ht)
  clear hn ht
  cases n
  · cases t
    · go_enter Tryz.func5, Tryz.ntmps5
      go_wp2_with (first | (go_at_call 9; refine (HN.out _).mono ?_; rintro e w' ⟨rfl, rfl⟩) | (go_at_call 10; refine (HT.out _).mono ?_; rintro e w' ⟨rfl, rfl⟩))
      go_ret
      exact ⟨rfl, rfl⟩
    · go_enter Tryz.func5, Tryz.ntmps5
      go_wp2_with (first | (go_at_call 9; refine (HN.out _).mono ?_; rintro e w' ⟨rfl, rfl⟩) | (go_at_call 10; refine (HT.out _).mono ?_; rintro e w' ⟨rfl, rfl⟩))
      go_ret
      exact ⟨rfl, rfl⟩
  · go_enter Tryz.func5, Tryz.ntmps5
    go_wp2_with (first | (go_at_call 9; refine (HN.out _).mono ?_; rintro e w' ⟨rfl, rfl⟩) | (go_at_call 10; refine (HT.out _).mono ?_; rintro e w' ⟨rfl, rfl⟩))
    go_ret
    exact ⟨rfl, rfl⟩
theorem fin_yes (x : Nat) (hf : x % 9223372036854775808 < 9218868437227405312) (w : World) : Calls Tryz.prog 5 #[.float .f64 x] w fun e w' => e = .returned (.bool true) ∧ w = w' := by
  refine finite_c x false false ?_ ?_ w
  · rw [order_self x hf]; rfl
  · rcases order_max (x % 9223372036854775808) (by omega) with h | h <;> rw [h] <;> rfl
theorem order_inf : Ieee.double.order 9218868437227405312 9218868437227405311 = some .gt := by decide +kernel
theorem fin_no (x : Nat) (hf : 9218868437227405312 ≤ x % 9223372036854775808) (w : World) : Calls Tryz.prog 5 #[.float .f64 x] w fun e w' => e = .returned (.bool false) ∧ w = w' := by
  by_cases h : x % 9223372036854775808 = 9218868437227405312
  · obtain ⟨n, hn⟩ : ∃ n, n = (Ieee.double.order x x != some .eq) := ⟨_, rfl⟩
    have := finite_c x n true hn.symm (by rw [h, order_inf]; rfl) w
    simpa using this
  · obtain ⟨t, ht⟩ : ∃ t, t = (Ieee.double.order (x % 9223372036854775808) 9218868437227405311 == some .gt) := ⟨_, rfl⟩
    have := finite_c x true t (by rw [order_nan x x (by omega)]; rfl) ht.symm w
    simpa using this
theorem same_c (y : Nat) (hy : y < 18446744073709551616) (hf : y % 9223372036854775808 < 9218868437227405312) : (∀ w : World, All w → Calls Tryz.prog 6 #[.int .u64 y, .int .u8 102] w fun e w' => e = .returned (.string (strOfNums (TXT y))) ∧ Below w.heap.size w w') ∧ ∀ w : World, Calls Tryz.prog 8 #[.float .f64 y] w fun e w' => e = .returned (.string (strOfNums (TXT y))) ∧ Below w.heap.size w w' :=
  ⟨fun w hT => form_c y hy hf w hT, fun w => fixed_c y hy hf w⟩
set_option maxHeartbeats 1000000 in
set_option maxRecDepth 100000 in
theorem law_c (x : Nat) (hx : x < 18446744073709551616) (w : World) (hT : All w) : Calls Tryz.prog 3 #[.int .u64 x] w fun e w' => e = .returned (.bool true) ∧ Below w.heap.size w w' := by
  have h4 := e6
  have h7 := ex7
  have KT := Lib.hid hT
  clear hT
  by_cases hf : x % 9223372036854775808 < 9218868437227405312
  · have HF := Lib.hid (fin_yes x hf)
    have HS := Lib.hid (same_c x hx hf)
    obtain ⟨T, hTe⟩ : ∃ T, T = strOfNums (TXT x) := ⟨_, rfl⟩
    rw [← hTe] at HS
    clear hTe
    go_enter Tryz.func3, Tryz.ntmps3
    go_wp2_with fail
    refine (HF.out _).mono ?_
    rintro e w' ⟨rfl, rfl⟩
    go_wp2_with fail
    refine (HS.out.1 _ KT.out).mono ?_
    rintro e w2 ⟨rfl, hb2⟩
    have K2 := Lib.hid hb2
    clear hb2
    go_wp2_with fail
    refine (HS.out.2 _).mono ?_
    rintro e w3 ⟨rfl, hb3⟩
    have K3 := Lib.hid hb3
    clear hb3
    go_wp2_with fail
    go_ret
    exact ⟨rfl, K2.out.trans (K3.out.mono K2.out.size)⟩
  · have HF := Lib.hid (fin_no x (by omega))
    have HS := Lib.hid (same_c 4602678819172646912 (by decide) (by decide))
    obtain ⟨T, hTe⟩ : ∃ T, T = strOfNums (TXT 4602678819172646912) := ⟨_, rfl⟩
    rw [← hTe] at HS
    clear hTe
    go_enter Tryz.func3, Tryz.ntmps3
    go_wp2_with fail
    refine (HF.out _).mono ?_
    rintro e w' ⟨rfl, rfl⟩
    go_wp2_with fail
    refine (HS.out.1 _ KT.out).mono ?_
    rintro e w2 ⟨rfl, hb2⟩
    have K2 := Lib.hid hb2
    clear hb2
    go_wp2_with fail
    refine (HS.out.2 _).mono ?_
    rintro e w3 ⟨rfl, hb3⟩
    have K3 := Lib.hid hb3
    clear hb3
    go_wp2_with fail
    go_ret
    exact ⟨rfl, K2.out.trans (K3.out.mono K2.out.size)⟩
end Go.Proofs.YtdbjoiojiibdgaaGreatDoor
