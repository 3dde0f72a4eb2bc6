/-
  A part of the proof of FnFloatTextIs: the bodyless functions, the tables below a block, numDigits.
-/
import Derived.Test.YtniiphdbajjldaaDoorG
import Derived.Laws.Externs
import Derived.Lib.ItoaLen
import Derived.Deep.RegionWith
namespace Go.Proofs.YtniiphdbajjldaaDoor
open Go.RowKit
theorem ex26 (b : Nat) (w : World) : (callFunc 26 #[.float .f64 b]).run Tryd.prog w = .ok (.value (.int .u64 b)) w := by
  rw [run_callFunc_extern (e := Extern.MathFloatBits.float64bits) Tryd.func26 (by kernel_rfl) (by kernel_rfl) (by kernel_rfl) (by kernel_rfl)]
  rfl
theorem ex20 (b : Nat) (w : World) : (callFunc 20 #[.float .f64 b]).run Tryd.prog w = .ok (.value (.int .u64 b)) w := by
  rw [run_callFunc_extern (e := Extern.MathFloatBits.float64bits) Tryd.func20 (by kernel_rfl) (by kernel_rfl) (by kernel_rfl) (by kernel_rfl)]
  rfl
theorem ex6 (b : Int) (w : World) : (callFunc 6 #[.int .u64 b]).run Tryd.prog w = .ok (.value (.float .f64 b.toNat)) w := by
  rw [run_callFunc_extern (e := Extern.MathFloatBits.float64frombits) Tryd.func6 (by kernel_rfl) (by kernel_rfl) (by kernel_rfl) (by kernel_rfl)]
  rfl
theorem i64_and2047 (n : Int) : bits .and .i64 n 2047 = n % 2048 := by
  have h127 : (BitVec.ofInt 64 2047).toNat = 2 ^ 11 - 1 := by decide
  have key : (BitVec.ofInt 64 n &&& BitVec.ofInt 64 2047).toNat = (n % ((2 ^ 64 : Nat) : Int)).toNat % 2 ^ 11 := by
    rw [BitVec.toNat_and, BitVec.toNat_ofInt, h127, Nat.and_two_pow_sub_one_eq_mod]
  show IntKind.i64.wrap ((BitVec.ofInt 64 n &&& BitVec.ofInt 64 2047).toNat : Nat) = n % 2048
  rw [key, IntKind.wrap_i64]
  omega
theorem u64_and52 (n : Int) : bits .and .u64 n 4503599627370495 = n % 4503599627370496 := by
  have h127 : (BitVec.ofInt 64 4503599627370495).toNat = 2 ^ 52 - 1 := by decide
  have key : (BitVec.ofInt 64 n &&& BitVec.ofInt 64 4503599627370495).toNat = (n % ((2 ^ 64 : Nat) : Int)).toNat % 2 ^ 52 := by
    rw [BitVec.toNat_and, BitVec.toNat_ofInt, h127, Nat.and_two_pow_sub_one_eq_mod]
  show IntKind.u64.wrap ((BitVec.ofInt 64 n &&& BitVec.ofInt 64 4503599627370495).toNat : Nat) = n % 4503599627370496
  rw [key, IntKind.wrap_u64]
  omega
theorem u64_or52 (n : Nat) (h : n < 4503599627370496) : bits .or .u64 (n : Int) 4503599627370496 = n + 4503599627370496 := by
  have h1 : (BitVec.ofInt 64 (n : Int)).toNat = n := by
    rw [BitVec.toNat_ofInt]; omega
  have h2 : (BitVec.ofInt 64 4503599627370496).toNat = 2 ^ 52 * 1 := by decide
  have key : (BitVec.ofInt 64 (n : Int) ||| BitVec.ofInt 64 4503599627370496).toNat = 2 ^ 52 * 1 + n := by
    rw [BitVec.toNat_or, h1, h2, Nat.or_comm, ← Nat.two_pow_add_eq_or_of_lt (by omega)]
  show IntKind.u64.wrap ((BitVec.ofInt 64 (n : Int) ||| BitVec.ofInt 64 4503599627370496).toNat : Nat) = n + 4503599627370496
  rw [key, IntKind.wrap_u64]
  omega

def Tabs (w : World) : Prop := PowTab w ∧ Lib.TabIs Tryd.prog w "internal/strconv.uint64pow10" .u64 Lib.pow10Tab


theorem Tabs.below {w w' : World} (h : Tabs w) (hb : Below w.heap.size w w') : Tabs w' := by
  obtain ⟨⟨hz, hp⟩, ht⟩ := h
  refine ⟨⟨Nat.le_trans hz hb.size, fun i hi => ?_⟩, ?_⟩
  · obtain ⟨a, b⟩ := hp i hi
    have h4 : 4 < w.heap.size := by omega
    exact ⟨(hb.cell (p := ⟨4, _, none⟩) h4).trans a, (hb.cell (p := ⟨4, _, none⟩) h4).trans b⟩
  · unfold Lib.TabIs at ht ⊢
    rw [← ht]
    have hg : Tryd.prog.globalNamed "internal/strconv.uint64pow10" = some 2 := by kernel_rfl
    have h2 := hb.block 2 (by omega)
    simp only [World.var?, hg, Option.bind_some, h2]
theorem bitLen_pos (x : Nat) (h0 : x ≠ 0) (h : x < 18446744073709551616) : 1 ≤ Lib.bitLen x ∧ 2 ^ (Lib.bitLen x - 1) ≤ x ∧ x < 2 ^ Lib.bitLen x := Lib.bitLenAux_bounds 64 x h h0
theorem bitLen_53 (M : Nat) (h : M < 4503599627370496) : Lib.bitLen ((M : Int) + 4503599627370496).toNat = 53 := by
  have e : ((M : Int) + 4503599627370496).toNat = M + 4503599627370496 := by omega
  rw [e, Lib.bitLen_shift 52 _ (by omega) (by omega)]
  have : (M + 4503599627370496) / 2 ^ 52 = 1 := by omega
  rw [this]
  rfl
def SF (m e : Int) : Prop := ∃ d p : Int, U64 d ∧ -400 ≤ p ∧ p ≤ 400 ∧ ∀ w : World, PowTab w →
    Calls Tryd.prog 39 #[.int .u64 m, .int .i64 e] w fun en w' => en = .returned (.tuple #[.int .u64 d, .int .i64 p]) ∧ Below w.heap.size w w'
theorem sf_normal (E M : Nat) (hE0 : 1 ≤ E) (hE1 : E ≤ 2046) (hM : M < 4503599627370496) : SF (((M : Int) + 4503599627370496) * 2048) ((E : Int) + -1023 - 11 - 52) := by
  by_cases h0 : M = 0
  · subst h0
    rw [show (((0 : Nat) : Int) + 4503599627370496) * 2048 = 9223372036854775808 from by decide]
    by_cases h1 : E = 1
    · exact short_4 _ (by omega)
    · exact short_1 _ (by omega) (by omega)
  · exact short_2 _ _ (by omega) (by omega) (by omega) (by omega) (by simp; omega)
theorem numDigits_ex (D : Nat) (h : D < 18446744073709551616) : ∃ nd : Nat, nd ≤ 20 ∧ D < 10 ^ nd ∧ ∀ w : World, Tabs w → Calls Tryd.prog 33 #[.int .u64 D] w fun e w' => e = .returned (.int .i64 nd) ∧ w = w' := by
  by_cases h0 : D = 0
  · subst h0
    refine ⟨0, by omega, by omega, fun w hT => ?_⟩
    have hc : w.cell? ⟨2, 0, none⟩ = some (.int .u64 1) := by
      have := hT.2.cell (g := 2) (by kernel_rfl) 0 (by rw [Lib.pow10Tab_length]; omega)
      rw [this, Lib.pow10Tab_at 0 (by omega)]
      rfl
    have hbl : Lib.bitLen (0 : Int).toNat = 0 := by decide
    go_enter Tryd.func33, Tryd.ntmps33
    go_wp2_with fail
    refine (Tryd.bits_Len64 _ _ (by omega) (by omega)).mono ?_
    rintro e w' ⟨rfl, rfl⟩
    rw [hbl]
    go_wp2
    go_ret
    exact ⟨rfl, rfl⟩
  · refine ⟨Lib.nDigits D, Lib.nDigits_le20 D h, Lib.lt_pow_nDigits D, fun w hT => (Tryd.internal_strconv_numDigits D (by omega) h w hT.2).mono fun e w' ⟨h1, h2⟩ => ⟨h1, h2.symm⟩⟩
theorem St.enter {B : Nat} {w0 w w2 w3 : World} {v : Value} {l : List Int} {sb : Nat} {arr : Array Value} (h : St B w0 none v l w) (hb : Below w.heap.size w w2) (hg : w2.grownBy w3 (some sb)) (hsb : w.heap.size ≤ sb)
    (ha : w3.heap[sb]? = some (.cells arr 56 (0, 0))) : St B w0 (some (sb, arr)) v l w3 := by
  have hb3 : Below w.heap.size w w3 := ⟨hg.os.trans hb.os, hg.tape.trans hb.tape, hg.output.trans hb.output, Nat.le_trans hb.size hg.size, fun k hk => (hg.block k (Nat.lt_of_lt_of_le hk hb.size) (fun e => by have := Option.some.inj e; omega)).trans (hb.block k hk)⟩
  refine ⟨h.own.kept (row := none) ⟨hb3.os, hb3.tape, hb3.output, hb3.size, fun k hk _ => hb3.block k hk⟩ (Classical.em _), h.bel.trans (hb3.mono h.size), ?_, Nat.le_trans h.size hb3.size, h.len⟩
  intro p hp
  obtain rfl := Option.some.inj hp
  refine ⟨ha, fun e => ?_⟩
  have := (h.own.lt _ e).2
  simp only at this
  omega
theorem St.leave {B : Nat} {w0 w : World} {v : Value} {l : List Int} {D : Option (Nat × Array Value)} (h : St B w0 D v l w) : St B w0 none v l w :=
  ⟨h.own, h.bel, fun p hp => (by cases hp), h.size, h.len⟩
end Go.Proofs.YtniiphdbajjldaaDoor
