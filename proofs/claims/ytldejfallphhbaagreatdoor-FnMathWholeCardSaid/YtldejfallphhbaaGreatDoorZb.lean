/-
  A part of the proof of FnMathWhole (packed out of smaller texts by a program of this session; what the proof does not reach is left out).
-/
import Derived.Test.YtldejfallphhbaaGreatDoorZ9
import Derived.Test.YtldejfallphhbaaGreatDoorZa
import Derived.Stop.Asserts
import Derived.Laws.Externs
import Derived.Laws.Cover2
namespace Go.Proofs.YtldejfallphhbaaGreatDoor
set_option linter.unusedVariables false
open Go.RowKit
theorem as_112_153 (v : Value) (w : World) : (Instr.typeAssert (.iface 112 v) 20 153 true).run Tryz.prog w = .ok (.tuple #[.nilIface, .bool false]) w := run_typeAssert_lacksB Tryz.underlying153 (by kernel_rfl) (by kernel_rfl) v 20 w
theorem as_118_153 (v : Value) (w : World) : (Instr.typeAssert (.iface 118 v) 20 153 true).run Tryz.prog w = .ok (.tuple #[.iface 118 v, .bool true]) w := run_typeAssert_hasB Tryz.underlying153 (by kernel_rfl) v 20 w
theorem as_112 (v : Value) (w : World) : (Instr.typeAssert (.iface 112 v) 20 112 true).run Tryz.prog w = .ok (.tuple #[v, .bool true]) w := by kernel_rfl
theorem as_74 (v : Value) (w : World) : (Instr.typeAssert (.iface 74 v) 45 74 true).run Tryz.prog w = .ok (.tuple #[v, .bool true]) w := by kernel_rfl
theorem as_76 (v : Value) (w : World) : (Instr.typeAssert (.iface 76 v) 45 76 true).run Tryz.prog w = .ok (.tuple #[v, .bool true]) w := by kernel_rfl
theorem as_76_74 (v : Value) (w : World) : (Instr.typeAssert (.iface 76 v) 45 74 true).run Tryz.prog w = .ok (.tuple #[.agg #[.int .i64 0, .pointer none], .bool false]) w := by kernel_rfl
theorem as_74_68 (v : Value) (w : World) : (Instr.typeAssert (.iface 74 v) 45 68 true).run Tryz.prog w = .ok (.tuple #[.int .u8 0, .bool false]) w := by kernel_rfl
theorem as_76_68 (v : Value) (w : World) : (Instr.typeAssert (.iface 76 v) 45 68 true).run Tryz.prog w = .ok (.tuple #[.int .u8 0, .bool false]) w := by kernel_rfl
theorem as_74_69 (v : Value) (w : World) : (Instr.typeAssert (.iface 74 v) 45 69 true).run Tryz.prog w = .ok (.tuple #[.bool false, .bool false]) w := by kernel_rfl
theorem as_76_69 (v : Value) (w : World) : (Instr.typeAssert (.iface 76 v) 45 69 true).run Tryz.prog w = .ok (.tuple #[.bool false, .bool false]) w := by kernel_rfl
theorem chk_c (s : ByteArray) (A B : Option Addr) (w : World) : Calls Tryz.prog 96 #[.string s, .slice A 1 1, .slice none 0 0, .int .i64 1, .int .i64 1] w fun e w' => e = .returned .nilIface ∧ w' = w := by
  go_enter Tryz.func96, Tryz.ntmps96
  go_wp2_with fail
  go_returns
  exact ⟨rfl, rfl⟩
set_option maxRecDepth 100000 in
theorem unp_c (t : TypeId) (v : Value) (p : Nat) (w : World) (hB : Blk w p 1) : Calls Tryz.prog 114 #[.iface t v, .iface 112 (.pointer (some ⟨p, 0, none⟩))] w fun e w' => e = .returned .nilIface ∧ w' = w.setCell ⟨p, 0, none⟩ (.iface t v) := by
  have fz := hB.fz 0
  obtain ⟨v0, hv0⟩ := hB.here 0 (by decide)
  have a1 := as_112
  go_enter Tryz.func114, Tryz.ntmps114
  go_wp2_with fail
  go_returns
  exact ⟨rfl, rfl⟩
theorem unparg_c (t : TypeId) (v : Value) (p : Nat) (w : World) (hB : Blk w p 1) : Calls Tryz.prog 97 #[.iface t v, .iface 112 (.pointer (some ⟨p, 0, none⟩))] w fun e w' => e = .returned .nilIface ∧ w' = w.setCell ⟨p, 0, none⟩ (.iface t v) := by
  have K := Lib.hid (unp_c t v p w hB)
  have a1 := as_112_153
  clear hB
  go_enter Tryz.func97, Tryz.ntmps97
  go_wp2_with fail
  refine K.out.mono ?_
  rintro e w' ⟨rfl, rfl⟩
  go_wp2_with fail
  go_returns
  exact ⟨rfl, rfl⟩
set_option maxRecDepth 100000 in
theorem upos_c (s : ByteArray) (t : TypeId) (v : Value) (g h p : Nat) (w : World) (hB : Blk w p 1) (hg : w.cell? ⟨g, 0, none⟩ = some (.iface t v)) (hh : w.cell? ⟨h, 0, none⟩ = some (.iface 112 (.pointer (some ⟨p, 0, none⟩)))) :
    Calls Tryz.prog 73 #[.string s, .slice (some ⟨g, 0, none⟩) 1 1, .slice none 0 0, .int .i64 1, .slice (some ⟨h, 0, none⟩) 1 1] w fun e w' => e = .returned .nilIface ∧ w' = w.setCell ⟨p, 0, none⟩ (.iface t v) := by
  have K := Lib.hid (chk_c s (some ⟨g, 0, none⟩) none w)
  have K2 := Lib.hid (unparg_c t v p w hB)
  clear hB
  go_enter Tryz.func73, Tryz.ntmps73
  go_wp2_with fail
  refine K.out.mono ?_
  rintro e w' ⟨rfl, rfl⟩
  go_wp2_with fail
  go_loopw [27] (fun v27 wr => (v27 = .int .i64 0 ∧ wr = w') ∨ (v27 = .int .i64 1 ∧ wr = w'.setCell ⟨p, 0, none⟩ (.iface t v))) (fun v27 _ => 1 - (intOf v27).toNat)
  case atStart => exact Or.inl ⟨rfl, rfl⟩
  case round =>
    rcases hrel with ⟨rfl, rfl⟩ | ⟨rfl, rfl⟩
    · go_wp2_with fail
      refine K2.out.mono ?_
      rintro e w2 ⟨rfl, rfl⟩
      go_wp2_with fail
      go_roundw
      case rel => right; simp
      case measure => simp [intOf]
    · go_wp2_with fail
      go_returns
      exact ⟨rfl, rfl⟩
end Go.Proofs.YtldejfallphhbaaGreatDoor
namespace Go.Proofs.YtldejfallphhbaaGreatDoor
set_option linter.unusedVariables false
open Go.RowKit Ieee
theorem read_max : double.read 9218868437227405311 = .number false 9007199254740991 971 := by decide +kernel
theorem read_fin (y : Nat) (h : y % 9223372036854775808 < 9218868437227405312) : ∃ s m i, double.read y = .number s m i ∧ m ≤ 9007199254740991 ∧ i ≤ 971 := by
  have hs : double.signWeight = 9223372036854775808 := by decide
  have hb : double.binade = 4503599627370496 := by decide
  have hi : double.infRung = 9218868437227405312 := by decide
  have hl : double.leastPlace = -1074 := by decide
  unfold Format.read
  simp only [hs, hb, hi, hl]
  split
  · exact ⟨_, _, _, rfl, by omega, by omega⟩
  · exact ⟨_, _, _, rfl, by omega, by omega⟩
theorem order_max (y : Nat) (h : y % 9223372036854775808 < 9218868437227405312) : double.order y 9218868437227405311 = some .lt ∨ double.order y 9218868437227405311 = some .eq := by
  obtain ⟨s, m, i, hr, hm, hi⟩ := read_fin y h
  unfold Format.order
  rw [hr, read_max]
  simp only [Datum.order]
  have hmin : min i 971 = i := by omega
  rw [hmin]
  have h0 : (i - i).toNat = 0 := by omega
  rw [h0]
  have hle : signed s m 0 ≤ signed false 9007199254740991 (971 - i).toNat := by
    unfold signed
    have hp : 1 ≤ 2 ^ (971 - i).toNat := Nat.one_le_two_pow
    have hq : 9007199254740991 ≤ 9007199254740991 * 2 ^ (971 - i).toNat := Nat.le_mul_of_pos_right _ hp
    simp only [Nat.shiftLeft_eq, Nat.pow_zero, Nat.mul_one, Bool.false_eq_true, if_false]
    split <;> omega
  rcases Int.lt_or_eq_of_le hle with h1 | h1
  · left
    exact congrArg some (Int.compare_eq_lt.2 h1)
  · right
    exact congrArg some (Int.compare_eq_eq.2 h1)
theorem order_self (y : Nat) (h : y % 9223372036854775808 < 9218868437227405312) : double.order y y = some .eq := by
  obtain ⟨s, m, i, hr, hm, hi⟩ := read_fin y h
  unfold Format.order
  rw [hr]
  simp only [Datum.order]
  exact congrArg some (Int.compare_eq_eq.2 rfl)
theorem read_nan (y : Nat) (h : 9218868437227405312 < y % 9223372036854775808) : ∃ s f, double.read y = .nan s f := by
  have hs : double.signWeight = 9223372036854775808 := by decide
  have hb : double.binade = 4503599627370496 := by decide
  have hi : double.infRung = 9218868437227405312 := by decide
  unfold Format.read
  simp only [hs, hb, hi]
  rw [if_neg (by omega), if_neg (by omega), if_neg (by omega)]
  exact ⟨_, _, rfl⟩
theorem order_nan (y z : Nat) (h : 9218868437227405312 < y % 9223372036854775808) : double.order y z = none := by
  obtain ⟨s, f, hr⟩ := read_nan y h
  unfold Format.order
  rw [hr]
  cases double.read z <;> rfl
theorem andNot63 (x : Nat) : bits BinOp.andNot IntKind.u64 (x : Int) 9223372036854775808 = ((x % 9223372036854775808 : Nat) : Int) := by
  have h2 : (~~~ (BitVec.ofInt 64 9223372036854775808)).toNat = 2 ^ 63 - 1 := by decide
  have key : (BitVec.ofInt 64 (x : Int) &&& ~~~ BitVec.ofInt 64 9223372036854775808).toNat = x % 2 ^ 63 := by
    rw [BitVec.toNat_and, h2, Nat.and_two_pow_sub_one_eq_mod, BitVec.toNat_ofInt]
    omega
  show IntKind.u64.wrap ((BitVec.ofInt 64 (x : Int) &&& ~~~ BitVec.ofInt 64 9223372036854775808).toNat : Nat) = _
  rw [key, IntKind.wrap_u64]
  omega
theorem e59 (b : Nat) (w : World) : (callFunc 59 #[.float .f64 b]).run Tryz.prog w = .ok (.value (.int .u64 b)) w := by
  rw [run_callFunc_extern (e := Extern.MathFloatBits.float64bits) Tryz.func59 (by kernel_rfl) (by kernel_rfl) (by kernel_rfl) (by kernel_rfl)]
  rfl
theorem e4 (b : Int) (w : World) : (callFunc 4 #[.int .u64 b]).run Tryz.prog w = .ok (.value (.float .f64 b.toNat)) w := by
  rw [run_callFunc_extern (e := Extern.MathFloatBits.float64frombits) Tryz.func4 (by kernel_rfl) (by kernel_rfl) (by kernel_rfl) (by kernel_rfl)]
  rfl
theorem arch_num (nm : String) (way : Ieee.Toward) (x : Nat) (s : Bool) (m : Nat) (i : Int) (hd : FloatKind.f64.decode x = .number s m i) (w : World) : (Extern.MathFloor.toIntegral nm way #[.float .f64 x]).run Tryz.prog w = .ok (.float .f64 (Ieee.double.write ((Ieee.Datum.number s m i).integral way))) w := by
  delta Extern.MathFloor.toIntegral
  delta Extern.MathFloor.toIntegral.match_2
  dsimp only
  rw [dif_pos (show #[Value.float FloatKind.f64 x].size = 1 from rfl)]
  have e : ∀ h1 h2, #[Value.float FloatKind.f64 x].getLit (n := 1) 0 h1 h2 = Value.float FloatKind.f64 x := fun _ _ => rfl
  rw [e]
  delta Extern.MathFloor.toIntegral._sparseCasesOn_2
  dsimp only
  delta Extern.MathFloor.toIntegral._sparseCasesOn_3
  dsimp only
  rw [hd]
  rfl
theorem arch_run (nm : String) (way : Ieee.Toward) (x : Nat) (hf : Fl.Fin x) (w : World) : (Extern.MathFloor.toIntegral nm way #[.float .f64 x]).run Tryz.prog w = .ok (.float .f64 (Ieee.double.write ((Ieee.double.read x).integral way))) w := by
  obtain ⟨m, i, hr, _⟩ := Fl.read_fin x hf
  rw [hr]
  exact arch_num nm way x _ m i hr w
theorem e100 (x : Nat) (hf : Fl.Fin x) (w : World) : (callFunc 100 #[.float .f64 x]).run Tryz.prog w = .ok (.value (.float .f64 (Ieee.double.write ((Ieee.double.read x).integral .up)))) w := by
  rw [run_callFunc_extern (e := Extern.MathFloor.toIntegral "math.archCeil" .up) Tryz.func100 (by kernel_rfl) (by kernel_rfl) (by kernel_rfl) (by kernel_rfl), arch_run _ _ x hf]
  rfl
theorem e102 (x : Nat) (hf : Fl.Fin x) (w : World) : (callFunc 102 #[.float .f64 x]).run Tryz.prog w = .ok (.value (.float .f64 (Ieee.double.write ((Ieee.double.read x).integral .down)))) w := by
  rw [run_callFunc_extern (e := Extern.MathFloor.toIntegral "math.archFloor" .down) Tryz.func102 (by kernel_rfl) (by kernel_rfl) (by kernel_rfl) (by kernel_rfl), arch_run _ _ x hf]
  rfl
theorem e56 (x : Nat) (hf : Fl.Fin x) (w : World) : (callFunc 56 #[.float .f64 x]).run Tryz.prog w = .ok (.value (.float .f64 (Ieee.double.write ((Ieee.double.read x).integral .zero)))) w := by
  rw [run_callFunc_extern (e := Extern.MathFloor.toIntegral "math.archTrunc" .zero) Tryz.func56 (by kernel_rfl) (by kernel_rfl) (by kernel_rfl) (by kernel_rfl), arch_run _ _ x hf]
  rfl
set_option maxRecDepth 100000 in
theorem ceil_c (x : Nat) (hf : Fl.Fin x) (w : World) : Calls Tryz.prog 75 #[.float .f64 x] w fun e w' => e = .returned (.float .f64 (Ieee.double.write ((Ieee.double.read x).integral .up))) ∧ w' = w := by
  have h := e100 x hf
  go_enter Tryz.func75, Tryz.ntmps75
  go_wp2_with fail
  go_returns
  exact ⟨rfl, rfl⟩
set_option maxRecDepth 100000 in
theorem floor_c (x : Nat) (hf : Fl.Fin x) (w : World) : Calls Tryz.prog 77 #[.float .f64 x] w fun e w' => e = .returned (.float .f64 (Ieee.double.write ((Ieee.double.read x).integral .down))) ∧ w' = w := by
  have h := e102 x hf
  go_enter Tryz.func77, Tryz.ntmps77
  go_wp2_with fail
  go_returns
  exact ⟨rfl, rfl⟩
set_option maxRecDepth 100000 in
theorem trunc_c (x : Nat) (hf : Fl.Fin x) (w : World) : Calls Tryz.prog 31 #[.float .f64 x] w fun e w' => e = .returned (.float .f64 (Ieee.double.write ((Ieee.double.read x).integral .zero))) ∧ w' = w := by
  have h := e56 x hf
  go_enter Tryz.func31, Tryz.ntmps31
  go_wp2_with fail
  go_returns
  exact ⟨rfl, rfl⟩
set_option maxRecDepth 100000 in
theorem abs_c (x : Nat) (w : World) : Calls Tryz.prog 39 #[.float .f64 x] w fun e w' => e = .returned (.float .f64 (x % 9223372036854775808)) ∧ w = w' := by
  have h20 := e59
  have h6 := e4
  go_enter Tryz.func39, Tryz.ntmps39
  go_wp2
  go_ret
  refine ⟨?_, rfl⟩
  show Ending.returned (Value.float .f64 (bits BinOp.andNot IntKind.u64 (x : Int) 9223372036854775808).toNat) = _
  rw [andNot63]
  rfl
set_option maxRecDepth 100000 in
theorem nan_c (x : Nat) (w : World) : Calls Tryz.prog 16 #[.float .f64 x] w fun e w' => e = .returned (.bool (Ieee.double.order x x != some .eq)) ∧ w = w' := by
  go_enter Tryz.func16, Tryz.ntmps16
  go_wp2
  go_ret
  exact ⟨rfl, rfl⟩
theorem isnan_c (x : Nat) (t : Bool) (ht : (Ieee.double.order x x != some .eq) = t) (w : World) : Calls Tryz.prog 16 #[.float .f64 x] w fun e w' => e = .returned (.bool t) ∧ w = w' := by
  rw [← ht]; exact nan_c x w
set_option maxRecDepth 100000 in
theorem inf_c0 (x : Nat) (t : Bool) (ht : (Ieee.double.order (x % 9223372036854775808) 9218868437227405311 == some .gt) = t) (w : World) : Calls Tryz.prog 17 #[.float .f64 x, .int .i64 0] w fun e w' => e = .returned (.bool t) ∧ w = w' := by
  have HT := Lib.hid ht
  clear ht
  go_enter Tryz.func17, Tryz.ntmps17
  go_wp2_with (go_at_call 39; refine (abs_c _ _).mono ?_; rintro e w' ⟨rfl, rfl⟩)
  go_ret
  exact ⟨by rw [← HT.out]; rfl, rfl⟩
set_option maxRecDepth 100000 in
theorem finite_c (x : Nat) (n t : Bool) (hn : (Ieee.double.order x x != some .eq) = n) (ht : (Ieee.double.order (x % 9223372036854775808) 9218868437227405311 == some .gt) = t) (w : World) : Calls Tryz.prog 7 #[.float .f64 x] w fun e w' => e = .returned (.bool (!n && !t)) ∧ w = w' := by
  have HN := Lib.hid (isnan_c x n hn)
  have HT := Lib.hid (inf_c0 x t ht)
  clear hn ht
  cases n
  · cases t
    · go_enter Tryz.func7, Tryz.ntmps7
      go_wp2_with (first | (go_at_call 16; refine (HN.out _).mono ?_; rintro e w' ⟨rfl, rfl⟩) | (go_at_call 17; refine (HT.out _).mono ?_; rintro e w' ⟨rfl, rfl⟩))
      go_ret
      exact ⟨rfl, rfl⟩
    · go_enter Tryz.func7, Tryz.ntmps7
      go_wp2_with (first | (go_at_call 16; refine (HN.out _).mono ?_; rintro e w' ⟨rfl, rfl⟩) | (go_at_call 17; refine (HT.out _).mono ?_; rintro e w' ⟨rfl, rfl⟩))
      go_ret
      exact ⟨rfl, rfl⟩
  · go_enter Tryz.func7, Tryz.ntmps7
    go_wp2_with (first | (go_at_call 16; refine (HN.out _).mono ?_; rintro e w' ⟨rfl, rfl⟩) | (go_at_call 17; refine (HT.out _).mono ?_; rintro e w' ⟨rfl, rfl⟩))
    go_ret
    exact ⟨rfl, rfl⟩
theorem fin_yes (x : Nat) (hf : x % 9223372036854775808 < 9218868437227405312) (w : World) : Calls Tryz.prog 7 #[.float .f64 x] w fun e w' => e = .returned (.bool true) ∧ w = w' := by
  refine finite_c x false false ?_ ?_ w
  · rw [order_self x hf]; rfl
  · rcases order_max (x % 9223372036854775808) (by omega) with h | h <;> rw [h] <;> rfl
theorem order_inf : Ieee.double.order 9218868437227405312 9218868437227405311 = some .gt := by decide +kernel
theorem fin_no (x : Nat) (hf : 9218868437227405312 ≤ x % 9223372036854775808) (w : World) : Calls Tryz.prog 7 #[.float .f64 x] w fun e w' => e = .returned (.bool false) ∧ w = w' := by
  by_cases h : x % 9223372036854775808 = 9218868437227405312
  · obtain ⟨n, hn⟩ : ∃ n, n = (Ieee.double.order x x != some .eq) := ⟨_, rfl⟩
    have := finite_c x n true hn.symm (by rw [h, order_inf]; rfl) w
    simpa using this
  · obtain ⟨t, ht⟩ : ∃ t, t = (Ieee.double.order (x % 9223372036854775808) 9218868437227405311 == some .gt) := ⟨_, rfl⟩
    have := finite_c x true t (by rw [order_nan x x (by omega)]; rfl) ht.symm w
    simpa using this
end Go.Proofs.YtldejfallphhbaaGreatDoor
namespace Go.Proofs.YtldejfallphhbaaGreatDoor
set_option linter.unusedVariables false
open Go.RowKit
theorem u64_and52 (n : Int) : bits .and .u64 n 4503599627370495 = n % 4503599627370496 := by
  have h127 : (BitVec.ofInt 64 4503599627370495).toNat = 2 ^ 52 - 1 := by decide
  have key : (BitVec.ofInt 64 n &&& BitVec.ofInt 64 4503599627370495).toNat = (n % ((2 ^ 64 : Nat) : Int)).toNat % 2 ^ 52 := by
    rw [BitVec.toNat_and, BitVec.toNat_ofInt, h127, Nat.and_two_pow_sub_one_eq_mod]
  show IntKind.u64.wrap ((BitVec.ofInt 64 n &&& BitVec.ofInt 64 4503599627370495).toNat : Nat) = n % 4503599627370496
  rw [key, IntKind.wrap_u64]
  omega
theorem u64_or52 (n : Nat) (h : n < 4503599627370496) : bits .or .u64 (n : Int) 4503599627370496 = n + 4503599627370496 := by
  have h1 : (BitVec.ofInt 64 (n : Int)).toNat = n := by
    rw [BitVec.toNat_ofInt]; omega
  have h2 : (BitVec.ofInt 64 4503599627370496).toNat = 2 ^ 52 * 1 := by decide
  have key : (BitVec.ofInt 64 (n : Int) ||| BitVec.ofInt 64 4503599627370496).toNat = 2 ^ 52 * 1 + n := by
    rw [BitVec.toNat_or, h1, h2, Nat.or_comm, ← Nat.two_pow_add_eq_or_of_lt (by omega)]
  show IntKind.u64.wrap ((BitVec.ofInt 64 (n : Int) ||| BitVec.ofInt 64 4503599627370496).toNat : Nat) = n + 4503599627370496
  rw [key, IntKind.wrap_u64]
  omega
theorem u64_and2047 (n : Int) : bits .and .u64 n 2047 = n % 2048 := by
  have h127 : (BitVec.ofInt 64 2047).toNat = 2 ^ 11 - 1 := by decide
  have key : (BitVec.ofInt 64 n &&& BitVec.ofInt 64 2047).toNat = (n % ((2 ^ 64 : Nat) : Int)).toNat % 2 ^ 11 := by
    rw [BitVec.toNat_and, BitVec.toNat_ofInt, h127, Nat.and_two_pow_sub_one_eq_mod]
  show IntKind.u64.wrap ((BitVec.ofInt 64 n &&& BitVec.ofInt 64 2047).toNat : Nat) = n % 2048
  rw [key, IntKind.wrap_u64]
  omega
def mantOf (x : Nat) : Nat := if x / 4503599627370496 % 2048 = 0 then x % 4503599627370496 else x % 4503599627370496 + 4503599627370496
def expOf (x : Nat) : Int := if x / 4503599627370496 % 2048 = 0 then -1074 else ((x / 4503599627370496 % 2048 : Nat) : Int) - 1075
set_option maxRecDepth 100000 in
theorem parts_c (x : Nat) (w : World) : Calls Tryz.prog 53 #[.float .f64 x] w fun e w' => e = .returned (.tuple #[.bool ((x : Int) / 9223372036854775808 == 1), .int .u64 (mantOf x), .int .i64 (expOf x)]) ∧ w = w' := by
  have h7 := e59
  obtain ⟨E, hE⟩ : ∃ E, E = x / 4503599627370496 % 2048 := ⟨_, rfl⟩
  obtain ⟨M, hM⟩ : ∃ M, M = x % 4503599627370496 := ⟨_, rfl⟩
  have hM1 : M < 4503599627370496 := by omega
  have e1 : bits BinOp.and IntKind.u64 ((x : Int) / 4503599627370496) 2047 = E := by
    have h := u64_and2047 ((x : Int) / 4503599627370496)
    rw [h]; omega
  have e2 : bits BinOp.and IntKind.u64 (x : Int) 4503599627370495 = M := by rw [u64_and52]; omega
  have e3 : bits BinOp.or IntKind.u64 (M : Int) 4503599627370496 = M + 4503599627370496 := u64_or52 M hM1
  by_cases h0 : E = 0
  · subst h0
    have r1 : Hid (mantOf x = M ∧ expOf x = -1074) := Lib.hid ⟨by unfold mantOf; rw [if_pos hE.symm, hM], by unfold expOf; rw [if_pos hE.symm]⟩
    clear hE hM
    go_enter Tryz.func53, Tryz.ntmps53
    go_wp2
    go_returns
    exact ⟨by rw [r1.out.1, r1.out.2]; rfl, rfl⟩
  · have hz : ((E : Int) == 0) = false := by simp; omega
    have hE2 : E < 2048 := by omega
    have r1 : Hid (mantOf x = M + 4503599627370496 ∧ expOf x = (E : Int) - 1075) := Lib.hid ⟨by unfold mantOf; rw [if_neg (by omega), hM], by unfold expOf; rw [if_neg (by omega), hE]⟩
    clear hE hM
    go_enter Tryz.func53, Tryz.ntmps53
    go_wp2
    go_returns
    exact ⟨by rw [r1.out.1, r1.out.2]; rfl, rfl⟩
end Go.Proofs.YtldejfallphhbaaGreatDoor
