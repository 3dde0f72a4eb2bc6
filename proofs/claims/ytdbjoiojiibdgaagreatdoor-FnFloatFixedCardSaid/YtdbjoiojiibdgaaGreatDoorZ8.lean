/-
  A part of the proof of FnFloatFixed (packed out of smaller texts by a program of this session; what the proof does not reach is left out).
-/
import Derived.Test.YtdbjoiojiibdgaaGreatDoorProg
import Derived.Test.YtdbjoiojiibdgaaGreatDoorZ6
import Derived.Test.YtdbjoiojiibdgaaGreatDoorZ7
import Derived.Test.YtdbjoiojiibdgaaGreatDoorZ7b
import Derived.Shelf.Strings.Builder1
import Derived.Shelf.Strconv.Itoa0
import Derived.Shelf.Strconv.Itoa1
import Derived.Shelf.LaysM
import Derived.Shelf.Strconv.Itoa2
import Derived.Shelf.Bits.Mul64
import Derived.WalkKit
import Derived.WalkLawsBesides
import Derived.WalkSpells
import Derived.Lib.Hide
import Derived.PlainAid
import Derived.Handy
import Derived.BigQuiet
import Derived.Deep.QuietTactic
import GoSem.PinnedTables
import Derived.Lib.ItoaLen
import Derived.Laws.Externs
import Derived.Laws.BitsLemmas
import Derived.Laws.Bits64
import Derived.Below
namespace Go.Proofs
open Go.Shelf
def Tryz.lays169_ren : Go.Shelf.Ren := ⟨fun | 169 => 19 | n => n, fun | 70 => 43 | 9 => 9 | 0 => 0 | 72 => 45 | 37 => 35 | 127 => 61 | 3 => 3 | 5 => 5 | n => n, fun | n => n⟩
theorem Tryz.lays169 : Go.Proofs.Lays.n169 Tryz.prog Tryz.lays169_ren := {
  mixed := by kernel_rfl
  f169 := Tryz.func19.trans (congrArg some (by kernel_rfl))
  t0 := Tryz.underlying0
  a0 := Tryz.isAgg0
  z0 := Tryz.sizeOf0
  v0 := Tryz.zeroValue0
  t3 := Tryz.underlying3
  a3 := Tryz.isAgg3
  z3 := Tryz.sizeOf3
  v3 := Tryz.zeroValue3
  t9 := Tryz.underlying9
  a9 := Tryz.isAgg9
  z9 := Tryz.sizeOf9
  v9 := Tryz.zeroValue9
  t37 := Tryz.underlying35
  a37 := Tryz.isAgg35
  z37 := Tryz.sizeOf35
  v37 := Tryz.zeroValue35
  t70 := Tryz.underlying43
  a70 := Tryz.isAgg43
  z70 := Tryz.sizeOf43
  v70 := Tryz.zeroValue43
  t72 := Tryz.underlying45
  a72 := Tryz.isAgg45
  z72 := Tryz.sizeOf45
  v72 := Tryz.zeroValue45
  t127 := Tryz.underlying61
  a127 := Tryz.isAgg61
  z127 := Tryz.sizeOf61
  v127 := Tryz.zeroValue61 }
theorem Tryz.Builder_Extra_169 : Builder.Extra Tryz.prog Tryz.lays169_ren := {
  sizeBuilder := by kernel_rfl
  liesBuilder := by kernel_rfl
  t5 := Tryz.underlying5
  a5 := Tryz.isAgg5
  z5 := Tryz.sizeOf5
  v5 := Tryz.zeroValue5
  infoByte := by kernel_rfl
  cellsByte := by kernel_rfl
  sizeByte := by kernel_rfl
  neB5 := by decide }
open Go.RowKit in
theorem Tryz.Builder_String_any (B b : Nat) (l : List UInt8) (w : World) (h : Lib.IsBuilder 45 5 B b (Lib.byteCells l) w) (hBw : B ≤ w.heap.size) :
    Calls Tryz.prog 19 #[.pointer (some ⟨b, 0, none⟩)] w fun e w' => e = .returned (.string ⟨l.toArray⟩) ∧ Below B w w' := Any.Builder_String_any Tryz.lays169 Tryz.Builder_Extra_169 B b l w h hBw
def Tryz.lays129_ren : Go.Shelf.Ren := ⟨fun | 129 => 58 | n => n, fun | 53 => 22 | 3 => 3 | 4 => 4 | 46 => 54 | 5 => 5 | 9 => 9 | n => n, fun | n => n⟩
theorem Tryz.lays129 : Go.Proofs.Lays.n129 Tryz.prog Tryz.lays129_ren := {
  mixed := by kernel_rfl
  f129 := Tryz.func58.trans (congrArg some (by kernel_rfl))
  t3 := Tryz.underlying3
  a3 := Tryz.isAgg3
  z3 := Tryz.sizeOf3
  v3 := Tryz.zeroValue3
  t4 := Tryz.underlying4
  a4 := Tryz.isAgg4
  z4 := Tryz.sizeOf4
  v4 := Tryz.zeroValue4
  t5 := Tryz.underlying5
  a5 := Tryz.isAgg5
  z5 := Tryz.sizeOf5
  v5 := Tryz.zeroValue5
  t9 := Tryz.underlying9
  a9 := Tryz.isAgg9
  z9 := Tryz.sizeOf9
  v9 := Tryz.zeroValue9
  t46 := Tryz.underlying54
  a46 := Tryz.isAgg54
  z46 := Tryz.sizeOf54
  v46 := Tryz.zeroValue54
  t53 := Tryz.underlying22
  a53 := Tryz.isAgg22
  z53 := Tryz.sizeOf22
  v53 := Tryz.zeroValue22 }
theorem Tryz.bits_Len64 (x : Int) (w : World) (h0 : 0 ≤ x) (h1 : x ≤ 18446744073709551615) :
    Calls Tryz.prog 58 #[.int .u64 x] w fun e w' => e = .returned (.int .i64 (Lib.bitLen x.toNat)) ∧ w' = w := Any.bits_Len64 Tryz.lays129 x w h0 h1
def Tryz.laysM284_ren : Go.Shelf.Ren := ⟨fun | 284 => 61 | 129 => 58 | 317 => 62 | 318 => 80 | n => n, fun | 53 => 22 | 3 => 3 | 212 => 112 | 0 => 0 | 4 => 4 | 46 => 54 | 5 => 5 | 9 => 9 | n => n, fun | 17 => 3 | n => n⟩
theorem Tryz.laysM284 : Go.Proofs.LaysM.n284 Tryz.prog Tryz.laysM284_ren := {
  mixed := by kernel_rfl
  f129 := Tryz.func58.trans (congrArg some (by kernel_rfl))
  f284 := Tryz.func61.trans (congrArg some (by kernel_rfl))
  f317 := Tryz.func62.trans (congrArg some (by kernel_rfl))
  f318 := Tryz.func80.trans (congrArg some (by kernel_rfl))
  t0 := Tryz.underlying0
  a0 := Tryz.isAgg0
  z0 := Tryz.sizeOf0
  v0 := Tryz.zeroValue0
  t3 := Tryz.underlying3
  a3 := Tryz.isAgg3
  z3 := Tryz.sizeOf3
  v3 := Tryz.zeroValue3
  t4 := Tryz.underlying4
  a4 := Tryz.isAgg4
  z4 := Tryz.sizeOf4
  v4 := Tryz.zeroValue4
  t5 := Tryz.underlying5
  a5 := Tryz.isAgg5
  z5 := Tryz.sizeOf5
  v5 := Tryz.zeroValue5
  t9 := Tryz.underlying9
  a9 := Tryz.isAgg9
  z9 := Tryz.sizeOf9
  v9 := Tryz.zeroValue9
  t46 := Tryz.underlying54
  a46 := Tryz.isAgg54
  z46 := Tryz.sizeOf54
  v46 := Tryz.zeroValue54
  t53 := Tryz.underlying22
  a53 := Tryz.isAgg22
  z53 := Tryz.sizeOf22
  v53 := Tryz.zeroValue22
  t212 := Tryz.underlying112
  a212 := Tryz.isAgg112
  z212 := Tryz.sizeOf112
  v212 := Tryz.zeroValue112
  g17 := by kernel_rfl
  i0 := by kernel_rfl
  i3 := by kernel_rfl
  i4 := by kernel_rfl
  i5 := by kernel_rfl
  i9 := by kernel_rfl
  i46 := by kernel_rfl
  i53 := by kernel_rfl
  i212 := by kernel_rfl
  m17 := by kernel_rfl }
open Go.Lib in
theorem Tryz.internal_strconv_numDigits (u : Nat) (h1 : 1 ≤ u) (h2 : u < 18446744073709551616) (w : World) (htab : Lib.TabIs Tryz.prog w "internal/strconv.uint64pow10" .u64 Lib.pow10Tab) :
    Calls Tryz.prog 61 #[.int .u64 u] w fun e w' => e = .returned (.int .i64 (Lib.nDigits u)) ∧ w' = w := Any.internal_strconv_numDigits Tryz.laysM284 u h1 h2 w htab
def Tryz.lays285_ren : Go.Shelf.Ren := ⟨fun | 285 => 79 | n => n, fun | 37 => 35 | 53 => 22 | 3 => 3 | 4 => 4 | 51 => 80 | 9 => 9 | 5 => 5 | 0 => 0 | n => n, fun | n => n⟩
theorem Tryz.lays285 : Go.Proofs.Lays.n285 Tryz.prog Tryz.lays285_ren := {
  mixed := by kernel_rfl
  f285 := Tryz.func79.trans (congrArg some (by kernel_rfl))
  t0 := Tryz.underlying0
  a0 := Tryz.isAgg0
  z0 := Tryz.sizeOf0
  v0 := Tryz.zeroValue0
  t3 := Tryz.underlying3
  a3 := Tryz.isAgg3
  z3 := Tryz.sizeOf3
  v3 := Tryz.zeroValue3
  t4 := Tryz.underlying4
  a4 := Tryz.isAgg4
  z4 := Tryz.sizeOf4
  v4 := Tryz.zeroValue4
  t5 := Tryz.underlying5
  a5 := Tryz.isAgg5
  z5 := Tryz.sizeOf5
  v5 := Tryz.zeroValue5
  t9 := Tryz.underlying9
  a9 := Tryz.isAgg9
  z9 := Tryz.sizeOf9
  v9 := Tryz.zeroValue9
  t37 := Tryz.underlying35
  a37 := Tryz.isAgg35
  z37 := Tryz.sizeOf35
  v37 := Tryz.zeroValue35
  t51 := Tryz.underlying80
  a51 := Tryz.isAgg80
  z51 := Tryz.sizeOf80
  v51 := Tryz.zeroValue80
  t53 := Tryz.underlying22
  a53 := Tryz.isAgg22
  z53 := Tryz.sizeOf22
  v53 := Tryz.zeroValue22 }
open Go.RowKit Go.Sort Go.Lib in
theorem Tryz.internal_strconv_formatBase10 (blk off cap : Nat) (u : Nat) (d : Array UInt8) (w : World) (hH : Holds (fun (b : UInt8) => Value.int .u8 (b.toNat : Int)) w blk off d) (hu : u < 10 ^ d.size) (hu64 : u < 18446744073709551616) (hsz : d.size < 4611686018427387904) :
    Calls Tryz.prog 79 #[.slice (some ⟨blk, off, none⟩) d.size cap, .int .u64 u] w fun e w' =>
      e = .returned (.tuple #[]) ∧ ∃ (n v' : Nat) (dk : Array UInt8), w' = (putRow (fun (b : UInt8) => Value.int .u8 (b.toNat : Int)) w blk off dk).drewN n ∧ FmtInv d.size u 0 v' dk := Any.internal_strconv_formatBase10 Tryz.lays285 blk off cap u d w hH hu hu64 hsz
def Tryz.lays264_ren : Go.Shelf.Ren := ⟨fun | 264 => 91 | n => n, fun | 53 => 22 | 46 => 54 | n => n, fun | n => n⟩
theorem Tryz.lays264 : Go.Proofs.Lays.n264 Tryz.prog Tryz.lays264_ren := {
  mixed := by kernel_rfl
  f264 := Tryz.func91.trans (congrArg some (by kernel_rfl))
  t46 := Tryz.underlying54
  a46 := Tryz.isAgg54
  z46 := Tryz.sizeOf54
  v46 := Tryz.zeroValue54
  t53 := Tryz.underlying22
  a53 := Tryz.isAgg22
  z53 := Tryz.sizeOf22
  v53 := Tryz.zeroValue22 }
open Go.RowKit Go.Lib in
theorem Tryz.bits_Mul64 (x y : Nat) (hx : x < 18446744073709551616) (hy : y < 18446744073709551616) (w : World) :
    Calls Tryz.prog 91 #[.int .u64 x, .int .u64 y] w fun e w' => e = .returned (.tuple #[.int .u64 ((x * y / 18446744073709551616 : Nat) : Int), .int .u64 ((x * y % 18446744073709551616 : Nat) : Int)]) ∧ w' = w := Any.bits_Mul64 Tryz.lays264 x y hx hy w
end Go.Proofs
namespace Go.Proofs.YtdbjoiojiibdgaaGreatDoor
open Go.RowKit
theorem i64_and63 (n : Int) : bits .and .i64 n 63 = n % 64 := by
  have h127 : (BitVec.ofInt 64 63).toNat = 2 ^ 6 - 1 := by decide
  have key : (BitVec.ofInt 64 n &&& BitVec.ofInt 64 63).toNat = (n % ((2 ^ 64 : Nat) : Int)).toNat % 2 ^ 6 := by
    rw [BitVec.toNat_and, BitVec.toNat_ofInt, h127, Nat.and_two_pow_sub_one_eq_mod]
  show IntKind.i64.wrap ((BitVec.ofInt 64 n &&& BitVec.ofInt 64 63).toNat : Nat) = n % 64
  rw [key, IntKind.wrap_i64]
  omega
def b2u (b : Bool) : Int := if b then 1 else 0
theorem bool2u (b : Bool) (w : World) : Calls Tryz.prog 92 #[.bool b] w fun e w' => e = .returned (.int .u64 (b2u b)) ∧ w = w' := by
  cases b
  · go_enter Tryz.func92, Tryz.ntmps92
    go_wp2
    go_ret
    exact ⟨rfl, rfl⟩
  · go_enter Tryz.func92, Tryz.ntmps92
    go_wp2
    go_ret
    exact ⟨rfl, rfl⟩
end Go.Proofs.YtdbjoiojiibdgaaGreatDoor
namespace Go.Proofs.YtdbjoiojiibdgaaGreatDoor
open Go.RowKit
def ph (i : Nat) : Int := (Pinned.pow10Rows.getD i (0, 0)).1
def pl (i : Nat) : Int := (Pinned.pow10Rows.getD i (0, 0)).2
def PowTab (w : World) : Prop := 8 ≤ w.heap.size ∧ ∀ i : Nat, i < 696 → w.cell? ⟨4, i * 2, none⟩ = some (.int .u64 (ph i)) ∧ w.cell? ⟨4, i * 2 + 1, none⟩ = some (.int .u64 (pl i))
set_option maxHeartbeats 400000 in
theorem prescale_any (e p lp : Int) (w : World) (h0 : -348 ≤ p) (h1 : p < 348) (he : -2000 ≤ e) (he1 : e ≤ 2000) (hl : -2000 ≤ lp) (hl1 : lp ≤ 2000) (hP : PowTab w) :
    Calls Tryz.prog 72 #[.pointer (some ⟨w.heap.size, 0, none⟩), .int .i64 e, .int .i64 p, .int .i64 lp] (w.alloc (.cells #[.int .u64 0, .int .u64 0, .int .i64 0] 104)) fun en w' =>
      en = .returned (.tuple #[]) ∧ w' = w.alloc (.cells #[.int .u64 (ph (p + 348).toNat), .int .u64 (pl (p + 348).toNat), .int .i64 (-(e + lp + 3))] 104) := by
  obtain ⟨hz, hP⟩ := hP
  obtain ⟨c0, c1⟩ := hP (p + 348).toNat (by omega)
  clear hP
  have d0 : ∀ o, (w.alloc o).cell? ⟨4, (p + 348).toNat * 2, none⟩ = some (.int .u64 (ph (p + 348).toNat)) := fun o => ((Below.refl w.heap.size w).alloc (Nat.le_refl _) o).cell (p := ⟨4, _, none⟩) (by simp; omega) ▸ c0
  have d1 : ∀ o, (w.alloc o).cell? ⟨4, (p + 348).toNat * 2 + 1, none⟩ = some (.int .u64 (pl (p + 348).toNat)) := fun o => ((Below.refl w.heap.size w).alloc (Nat.le_refl _) o).cell (p := ⟨4, _, none⟩) (by simp; omega) ▸ c1
  clear c0 c1
  go_enter Tryz.func72, Tryz.ntmps72
  go_wp2
  go_returns
  exact ⟨rfl, rfl⟩
theorem cells3 (w : World) (a b c : Value) (t : TypeId) : (w.alloc (.cells #[a, b, c] t)).cell? ⟨w.heap.size, 0, none⟩ = some a ∧ (w.alloc (.cells #[a, b, c] t)).cell? ⟨w.heap.size, 1, none⟩ = some b ∧ (w.alloc (.cells #[a, b, c] t)).cell? ⟨w.heap.size, 2, none⟩ = some c := by
  refine ⟨?_, ?_, ?_⟩ <;> (rw [World.cell?_alloc_new]; rfl)
end Go.Proofs.YtdbjoiojiibdgaaGreatDoor
namespace Go.Proofs.YtdbjoiojiibdgaaGreatDoor
open Go.RowKit
def uz (P S : Nat) : Nat := if P % S = 0 then P / S else P / S / 2 * 2 + 1
theorem uz_mul (P S c : Nat) (hc : 0 < c) : uz (P * c) (S * c) = uz P S := by
  unfold uz
  rw [Nat.mul_mod_mul_right, Nat.mul_div_mul_right _ _ hc]
  by_cases h : P % S = 0
  · rw [if_pos h, if_pos (by rw [h, Nat.zero_mul])]
  · rw [if_neg h, if_neg (by
      intro e
      rcases Nat.mul_eq_zero.1 e with a | a
      · exact h a
      · omega)]
theorem uz_le (P S : Nat) : uz P S ≤ P / S + 1 := by
  unfold uz
  split <;> omega
theorem uz_div (P S : Nat) (hS : 0 < S) : uz P (S * 10) = if uz P S % 10 = 0 then uz P S / 10 else uz P S / 10 / 2 * 2 + 1 := by
  have h1 : P / (S * 10) = P / S / 10 := (Nat.div_div_eq_div_mul P S 10).symm
  have h2 : P % (S * 10) = P % S + S * (P / S % 10) := by rw [Nat.mod_mul]
  unfold uz
  rw [h1, h2]
  obtain ⟨q, hq⟩ : ∃ q, q = P / S := ⟨_, rfl⟩
  obtain ⟨r, hr⟩ : ∃ r, r = P % S := ⟨_, rfl⟩
  rw [← hq, ← hr]
  by_cases h : r = 0
  · rw [if_pos h]
    by_cases hq0 : q % 10 = 0
    · rw [if_pos (by rw [h, hq0]; rfl), if_pos hq0]
    · rw [if_neg hq0, if_neg (by
        intro e
        have : S * (q % 10) = 0 := by omega
        rcases Nat.mul_eq_zero.1 this with a | a <;> omega)]
  · rw [if_neg h, if_neg (by omega)]
    by_cases h10 : (q / 2 * 2 + 1) % 10 = 0
    · omega
    · rw [if_neg h10]
      omega
theorem rne_uz (A B : Nat) (hB : 0 < B) : (uz (4 * A) B + 1 + uz (4 * A) B / 4 % 2) / 4 = rne A B := by
  have hq : A = B * (A / B) + A % B := (Nat.div_add_mod A B).symm
  have hr : A % B < B := Nat.mod_lt _ hB
  obtain ⟨q, hqe⟩ : ∃ q, q = A / B := ⟨_, rfl⟩
  obtain ⟨r, hre⟩ : ∃ r, r = A % B := ⟨_, rfl⟩
  unfold rne
  rw [← hqe, ← hre] at hq ⊢
  rw [← hre] at hr
  have h4 : 4 * A = 4 * r + B * (4 * q) := by
    rw [hq, Nat.mul_add, Nat.mul_left_comm, Nat.add_comm]
  have hd : 4 * A / B = 4 * r / B + 4 * q := by rw [h4, Nat.add_mul_div_left _ _ hB]
  have hm : 4 * A % B = 4 * r % B := by rw [h4, Nat.add_mul_mod_self_left]
  obtain ⟨k, hk⟩ : ∃ k, k = 4 * r / B := ⟨_, rfl⟩
  obtain ⟨t, ht⟩ : ∃ t, t = 4 * r % B := ⟨_, rfl⟩
  have hkt : 4 * r = B * k + t := by rw [hk, ht]; exact (Nat.div_add_mod _ _).symm
  have htB : t < B := by rw [ht]; exact Nat.mod_lt _ hB
  have hk4 : k < 4 := by rw [hk, Nat.div_lt_iff_lt_mul hB]; omega
  have hu : uz (4 * A) B = if t = 0 then k + 4 * q else (k + 4 * q) / 2 * 2 + 1 := by
    unfold uz
    rw [hd, hm, ← hk, ← ht]
  rw [hu]
  clear hu hd hm hk ht hqe hre hq h4
  have hcase : k = 0 ∨ k = 1 ∨ k = 2 ∨ k = 3 := by omega
  rcases hcase with rfl | rfl | rfl | rfl
  all_goals (split <;> split <;> omega)
theorem or1 (y : Nat) (h : y < 18446744073709551616) : bits .or .u64 (y : Int) 1 = ((y / 2 * 2 + 1 : Nat) : Int) := by
  have h1 : (BitVec.ofInt 64 (y : Int)).toNat = y := by rw [BitVec.toNat_ofInt]; omega
  have h2 : (BitVec.ofInt 64 1).toNat = 1 := by decide
  have key : (BitVec.ofInt 64 (y : Int) ||| BitVec.ofInt 64 1).toNat = y / 2 * 2 + 1 := by
    rw [BitVec.toNat_or, h1, h2]
    apply Nat.eq_of_testBit_eq
    intro i
    rw [Nat.testBit_or]
    cases i with
    | zero => simp [Nat.testBit_zero]
    | succ i => rw [Nat.testBit_succ, Nat.testBit_succ, Nat.testBit_succ, show (y / 2 * 2 + 1) / 2 = y / 2 from by omega]; simp
  show IntKind.u64.wrap ((BitVec.ofInt 64 (y : Int) ||| BitVec.ofInt 64 1).toNat : Nat) = _
  rw [key, IntKind.wrap_u64]
  omega
theorem or0 (y : Nat) (h : y < 18446744073709551616) : bits .or .u64 (y : Int) 0 = (y : Int) := by
  have h1 : (BitVec.ofInt 64 (y : Int)).toNat = y := by rw [BitVec.toNat_ofInt]; omega
  have h2 : (BitVec.ofInt 64 0).toNat = 0 := by decide
  have key : (BitVec.ofInt 64 (y : Int) ||| BitVec.ofInt 64 0).toNat = y := by
    rw [BitVec.toNat_or, h1, h2, Nat.or_zero]
  show IntKind.u64.wrap ((BitVec.ofInt 64 (y : Int) ||| BitVec.ofInt 64 0).toNat : Nat) = _
  rw [key, IntKind.wrap_u64]
  omega
theorem and1 (y : Nat) (h : y < 18446744073709551616) : bits .and .u64 (y : Int) 1 = ((y % 2 : Nat) : Int) := by
  have h1 : (BitVec.ofInt 64 (y : Int)).toNat = y := by rw [BitVec.toNat_ofInt]; omega
  have h2 : (BitVec.ofInt 64 1).toNat = 2 ^ 1 - 1 := by decide
  have key : (BitVec.ofInt 64 (y : Int) &&& BitVec.ofInt 64 1).toNat = y % 2 := by
    rw [BitVec.toNat_and, h1, h2, Nat.and_two_pow_sub_one_eq_mod]
  show IntKind.u64.wrap ((BitVec.ofInt 64 (y : Int) &&& BitVec.ofInt 64 1).toNat : Nat) = _
  rw [key, IntKind.wrap_u64]
  omega
theorem or_b (y : Nat) (c : Bool) (h : y < 18446744073709551616) : bits .or .u64 (y : Int) (b2u c) = ((if c = true then y / 2 * 2 + 1 else y : Nat) : Int) := by
  cases c
  · exact or0 y h
  · exact or1 y h
end Go.Proofs.YtdbjoiojiibdgaaGreatDoor
namespace Go.Proofs.YtdbjoiojiibdgaaGreatDoor
open Go.RowKit
theorem bool2u93 (b : Bool) (w : World) : Calls Tryz.prog 93 #[.bool b] w fun e w' => e = .returned (.int .u64 (b2u b)) ∧ w' = w := by
  cases b
  · go_enter Tryz.func93, Tryz.ntmps93
    go_wp2
    go_ret
    exact ⟨rfl, rfl⟩
  · go_enter Tryz.func93, Tryz.ntmps93
    go_wp2
    go_ret
    exact ⟨rfl, rfl⟩
theorem mul_n (x y : Nat) (hx : x < 18446744073709551616) (hy : y < 18446744073709551616) (w : World) : Calls Tryz.prog 91 #[.int .u64 x, .int .u64 y] w fun e w' => e = .returned (.tuple #[.int .u64 (x * y / 18446744073709551616 : Nat), .int .u64 (x * y % 18446744073709551616 : Nat)]) ∧ w = w' :=
  (Tryz.bits_Mul64 x y hx hy w).mono fun e w' ⟨h1, h2⟩ => ⟨h1, h2.symm⟩
theorem uz_pow (x hi s : Nat) : uz (x * hi) (18446744073709551616 * 2 ^ s) = if x * hi / 18446744073709551616 % 2 ^ s = 0 ∧ x * hi % 18446744073709551616 = 0 then x * hi / 18446744073709551616 / 2 ^ s else x * hi / 18446744073709551616 / 2 ^ s / 2 * 2 + 1 := by
  unfold uz
  rw [← Nat.div_div_eq_div_mul, Nat.mod_mul]
  by_cases h : x * hi / 18446744073709551616 % 2 ^ s = 0 ∧ x * hi % 18446744073709551616 = 0
  · rw [if_pos h, if_pos (by rw [h.1, h.2])]
  · rw [if_neg h, if_neg (by omega)]
set_option maxHeartbeats 400000 in
theorem uscale_z (x hi s : Nat) (hx : x < 18446744073709551616) (hh : hi < 18446744073709551616) (hs : s < 64) (hm1 : x * hi % 18446744073709551616 ≠ 1) (w : World) (b : Nat)
    (c0 : w.cell? ⟨b, 0, none⟩ = some (.int .u64 hi)) (c1 : w.cell? ⟨b, 1, none⟩ = some (.int .u64 0)) (c2 : w.cell? ⟨b, 2, none⟩ = some (.int .i64 s)) :
    Calls Tryz.prog 74 #[.int .u64 x, .pointer (some ⟨b, 0, none⟩)] w fun e w' => e = .returned (.int .u64 (uz (x * hi) (18446744073709551616 * 2 ^ s) : Nat)) ∧ ∃ n, w' = w.drewN n := by
  have H1 := Lib.hid (mul_n x hi hx hh)
  have H2 : Hid (∀ w : World, Calls Tryz.prog 91 #[.int .u64 x, .int .u64 0] w fun e w' => e = .returned (.tuple #[.int .u64 0, .int .u64 0]) ∧ w = w') := Lib.hid (fun w => (mul_n x 0 hx (by decide) w).mono (fun _ _ h => by rw [Nat.mul_zero] at h; exact h))
  rw [uz_pow]
  have hhb : x * hi / 18446744073709551616 < 18446744073709551616 := by
    rw [Nat.div_lt_iff_lt_mul (by decide)]
    exact Nat.mul_lt_mul'' hx hh
  obtain ⟨a, ha⟩ : ∃ a, a = x * hi / 18446744073709551616 := ⟨_, rfl⟩
  obtain ⟨m, hm⟩ : ∃ m, m = x * hi % 18446744073709551616 := ⟨_, rfl⟩
  rw [← ha, ← hm] at H1 ⊢
  rw [← ha] at hhb
  rw [← hm] at hm1
  have hm64 : m < 18446744073709551616 := by omega
  have hand : bits .and .i64 (s : Int) 63 = s := by rw [i64_and63]; omega
  obtain ⟨p, hp⟩ : ∃ p, p = 2 ^ s := ⟨_, rfl⟩
  have hp0 : 0 < p := by rw [hp]; exact Nat.pow_pos (by decide)
  have hpi : (2 : Int) ^ s = (p : Int) := by rw [hp]; exact (Int.natCast_pow 2 s).symm
  rw [← hp]
  have hq : (a : Int) / (p : Int) = ((a / p : Nat) : Int) := rfl
  have hap : a / p * p ≤ a := Nat.div_mul_le_self a p
  have hmod : a = a / p * p + a % p := by have := Nat.div_add_mod a p; rw [Nat.mul_comm] at this; exact this.symm
  have hle : a / p ≤ a := Nat.div_le_self a p
  obtain ⟨q, hqe⟩ : ∃ q, q = a / p := ⟨_, rfl⟩
  rw [← hqe] at hq hap hmod hle ⊢
  have hqp : (q : Int) * (p : Int) = ((q * p : Nat) : Int) := (Int.natCast_mul q p).symm
  obtain ⟨qp, hqpe⟩ : ∃ qp, qp = q * p := ⟨_, rfl⟩
  rw [← hqpe] at hqp hap hmod
  have hw : IntKind.u64.wrap ((qp : Nat) : Int) = qp := by rw [IntKind.wrap_u64]; omega
  by_cases hc : a % p = 0
  · have hqa : qp = a := by omega
    have hne : ((qp : Int) != (a : Int)) = false := by rw [hqa]; simp
    have hR : Hid (bits .or .u64 (q : Int) (b2u (decide ((1 : Int) < (m : Int)))) = ((if a % p = 0 ∧ m = 0 then q else q / 2 * 2 + 1 : Nat) : Int)) := Lib.hid (by
      rw [show decide ((1 : Int) < (m : Int)) = decide (1 < m) from by rw [decide_eq_decide]; omega, or_b q _ (by omega)]
      have : (if decide (1 < m) = true then q / 2 * 2 + 1 else q) = if a % p = 0 ∧ m = 0 then q else q / 2 * 2 + 1 := by
        by_cases h0 : m = 0
        · rw [if_neg (by simp; omega), if_pos ⟨hc, h0⟩]
        · rw [if_pos (by simp; omega), if_neg (fun h => h0 h.2)]
      rw [this])
    obtain ⟨R, hRe⟩ : ∃ R, R = if a % p = 0 ∧ m = 0 then q else q / 2 * 2 + 1 := ⟨_, rfl⟩
    rw [← hRe] at hR ⊢
    clear ha hm hp hqe hmod hqa hqpe hRe
    go_enter Tryz.func74, Tryz.ntmps74
    go_wp2_with fail
    refine (H1.out _).mono ?_
    rintro e w' ⟨rfl, rfl⟩
    go_wp2_with fail
    refine (H2.out _).mono ?_
    rintro e w' ⟨rfl, rfl⟩
    go_wp2_with fail
    refine (bool2u _ _).mono ?_
    rintro e w' ⟨rfl, rfl⟩
    go_wp2_with fail
    have hA : IntKind.u64.wrap ((a : Int) - b2u (decide ((m : Int) < 0))) = a := by
      rw [decide_eq_false (by omega)]
      show IntKind.u64.wrap ((a : Int) - 0) = a
      rw [IntKind.wrap_u64]; omega
    rw [hA]
    clear hA
    go_quiet ((go_at_call 92; exact Calls.quiet_of_same ((bool2u _ _).mono fun _ _ h => ⟨h.1, h.2.symm⟩)))
    go_wp2_with fail
    go_ret
    refine ⟨?_, _, rfl⟩
    rw [← hR.out]
    rfl
  · have hne : ((qp : Int) != (a : Int)) = true := by simp; omega
    have hR : Hid (bits .or .u64 (q : Int) 1 = ((if a % p = 0 ∧ m = 0 then q else q / 2 * 2 + 1 : Nat) : Int)) := Lib.hid (by
      rw [or1 q (by omega), if_neg (fun h => hc h.1)])
    obtain ⟨R, hRe⟩ : ∃ R, R = if a % p = 0 ∧ m = 0 then q else q / 2 * 2 + 1 := ⟨_, rfl⟩
    rw [← hRe] at hR ⊢
    clear ha hm hp hqe hmod hqpe hRe
    go_enter Tryz.func74, Tryz.ntmps74
    go_wp2_with fail
    refine (H1.out _).mono ?_
    rintro e w' ⟨rfl, rfl⟩
    go_wp2_with fail
    go_ret
    refine ⟨?_, 0, rfl⟩
    rw [← hR.out]
    rfl
theorem unmin_c (x : Nat) (h1 : 1 ≤ x) (h2 : x ≤ 1000000000000000000) (w : World) : Calls Tryz.prog 81 #[.int .u64 x] w fun e w' => e = .returned (.int .u64 (x * 4 - 2 : Int)) ∧ w = w' := by
  go_enter Tryz.func81, Tryz.ntmps81
  go_wp2_with fail
  go_ret
  exact ⟨rfl, rfl⟩
theorem round_n (u : Nat) (hu : u < 18446744073709551610) (w : World) : Calls Tryz.prog 78 #[.int .u64 u] w fun e w' => e = .returned (.int .u64 ((u + 1 + u / 4 % 2) / 4 : Nat)) ∧ w = w' := by
  have h1 := and1 (u / 4) (by omega)
  have h2 : ((u / 4 : Nat) : Int) = (u : Int) / 4 := rfl
  rw [h2] at h1
  obtain ⟨t, ht⟩ : ∃ t, t = u / 4 % 2 := ⟨_, rfl⟩
  rw [← ht] at h1 ⊢
  have ht1 : t ≤ 1 := by omega
  obtain ⟨R, hR⟩ : ∃ R, R = (u + 1 + t) / 4 := ⟨_, rfl⟩
  have HR : Hid ((((u : Int) + 1 + t) / 4) = (R : Int)) := Lib.hid (by rw [hR]; rfl)
  rw [← hR]
  clear hR ht h2
  go_enter Tryz.func78, Tryz.ntmps78
  go_wp2_with fail
  go_ret
  refine ⟨?_, rfl⟩
  rw [← HR.out]
  rfl
theorem div_n (u : Nat) (hu : u < 18446744073709551616) (w : World) : Calls Tryz.prog 82 #[.int .u64 u, .int .u64 10] w fun e w' => e = .returned (.int .u64 (if u % 10 = 0 then u / 10 else u / 10 / 2 * 2 + 1 : Nat)) ∧ ∃ n, w' = w.drewN n := by
  have h1 := and1 u hu
  obtain ⟨R, hRe⟩ : ∃ R, R = if u % 10 = 0 then u / 10 else u / 10 / 2 * 2 + 1 := ⟨_, rfl⟩
  obtain ⟨t, ht⟩ : ∃ t, t = u % 2 := ⟨_, rfl⟩
  rw [← ht] at h1
  obtain ⟨y, hy⟩ : ∃ y, y = if t = 1 then u / 10 / 2 * 2 + 1 else u / 10 := ⟨_, rfl⟩
  have h2 : bits .or .u64 ((u : Int) / 10) (t : Int) = (y : Int) := by
    rw [show (u : Int) / 10 = ((u / 10 : Nat) : Int) from rfl, hy]
    rcases Nat.mod_two_eq_zero_or_one u with e | e
    · rw [ht, e, if_neg (by decide)]
      exact or0 (u / 10) (by omega)
    · rw [ht, e, if_pos rfl]
      exact or1 (u / 10) (by omega)
  have hyu : y < 18446744073709551616 := by rw [hy]; split <;> omega
  obtain ⟨c, hc⟩ : ∃ c, ((u : Int) % 10 != 0) = c := ⟨_, rfl⟩
  have hR : Hid (bits .or .u64 (y : Int) (b2u c) = (R : Int)) := Lib.hid (by
    rw [or_b y c hyu, hRe]
    congr 1
    by_cases h0 : u % 10 = 0
    · have : c = false := by rw [← hc, show (u : Int) % 10 = ((u % 10 : Nat) : Int) from rfl, h0]; rfl
      rw [this, if_pos h0, if_neg (by decide), hy, if_neg (by omega)]
    · have : c = true := by rw [← hc]; simp; omega
      rw [this, if_neg h0, if_pos rfl, hy]
      split <;> omega)
  rw [← hRe]
  clear hRe ht hy hyu
  go_enter Tryz.func82, Tryz.ntmps82
  go_wp2_with fail
  go_quiet ((go_at_call 93; exact Calls.quiet_of_same (bool2u93 _ _)))
  go_wp2_with fail
  go_ret
  refine ⟨?_, _, rfl⟩
  rw [← hR.out]
  rfl
end Go.Proofs.YtdbjoiojiibdgaaGreatDoor
namespace Go.Proofs.YtdbjoiojiibdgaaGreatDoor
open Go.RowKit
def Tabs (w : World) : Prop := PowTab w ∧ Lib.TabIs Tryz.prog w "internal/strconv.uint64pow10" .u64 Lib.pow10Tab
theorem Tabs.ten {w : World} (h : Tabs w) (n : Nat) (hn : n ≤ 18) : w.cell? ⟨3, n, none⟩ = some (.int .u64 ((10 ^ n : Nat) : Int)) := by
  have := h.2.cell (g := 3) (by kernel_rfl) n (by rw [Lib.pow10Tab_length]; omega)
  rw [this, Lib.pow10Tab_at n (by omega)]
theorem ph6 : ph 354 = 17592186044416000000 ∧ pl 354 = 0 ∧ ph 355 = 10995116277760000000 ∧ pl 355 = 0 := by
  unfold ph pl
  decide +kernel
set_option maxHeartbeats 1000000 in
set_option maxRecDepth 100000 in
theorem fw6 (M t n : Nat) (hM0 : 4503599627370496 ≤ M) (hM : M < 9007199254740992) (ht0 : 14 ≤ t) (ht1 : t ≤ 75) (hn0 : 1 ≤ n) (hn1 : n ≤ 18) (hp : (n : Int) - 1 - (52 - (t : Int)) * 78913 / 262144 = 6)
    (hlt : uz (4 * (M * 1000000)) (2 ^ t) < 4 * 10 ^ n - 2) (w : World) (hT : Tabs w) :
    Calls Tryz.prog 63 #[.int .u64 (M * 2048 : Nat), .int .i64 (-(t : Int) - 11), .int .i64 n, .int .i64 6, .int .u8 102] w fun e w' =>
      e = .returned (.tuple #[.int .u64 (rne (M * 1000000) (2 ^ t) : Nat), .int .i64 (-6)]) ∧ Below w.heap.size w w' := by
  have hx : M * 2048 < 18446744073709551616 := by omega
  obtain ⟨x, hxe⟩ : ∃ x, x = M * 2048 := ⟨_, rfl⟩
  have hu : uz (x * 17592186044416000000) (18446744073709551616 * 2 ^ (t - 11)) = uz (4 * (M * 1000000)) (2 ^ t) := by
    have e1 : x * 17592186044416000000 = 4 * (M * 1000000) * 9007199254740992 := by omega
    have e2 : 18446744073709551616 * 2 ^ (t - 11) = 2 ^ t * 9007199254740992 := by
      rw [show 18446744073709551616 = 2 ^ 64 from by decide, show 9007199254740992 = 2 ^ 53 from by decide, ← Nat.pow_add, ← Nat.pow_add, show 64 + (t - 11) = t + 53 from by omega]
    rw [e1, e2]
    exact uz_mul _ _ _ (by decide)
  have hnp : 10 ^ n ≤ 10 ^ 18 := Nat.pow_le_pow_right (by decide) hn1
  have hn1p : 0 < 10 ^ n := Nat.pow_pos (by decide)
  have HR := Lib.hid (rne_uz (M * 1000000) (2 ^ t) (Nat.pow_pos (by decide)))
  obtain ⟨u, hue⟩ : ∃ u, u = uz (4 * (M * 1000000)) (2 ^ t) := ⟨_, rfl⟩
  obtain ⟨N, hN⟩ : ∃ N, N = rne (M * 1000000) (2 ^ t) := ⟨_, rfl⟩
  rw [← hue] at hu hlt HR
  rw [← hN] at HR ⊢
  rw [← hxe] at hx ⊢
  obtain ⟨T, hTe⟩ : ∃ T, T = 10 ^ n := ⟨_, rfl⟩
  have hc3 := hT.ten n hn1
  rw [← hTe] at hc3 hlt hnp hn1p
  obtain ⟨sn, hsn⟩ : ∃ sn, sn = t - 11 := ⟨_, rfl⟩
  obtain ⟨hph, hpl, _, _⟩ := ph6
  have KU : Hid (Calls Tryz.prog 74 #[.int .u64 x, .pointer (some ⟨w.heap.size, 0, none⟩)] (w.alloc (.cells #[.int .u64 17592186044416000000, .int .u64 0, .int .i64 sn] 104)) fun e w' => e = .returned (.int .u64 u) ∧ ∃ n, w' = (w.alloc (.cells #[.int .u64 17592186044416000000, .int .u64 0, .int .i64 sn] 104)).drewN n) := Lib.hid (by
    obtain ⟨k0, k1, k2⟩ := cells3 w (.int .u64 17592186044416000000) (.int .u64 0) (.int .i64 sn) 104
    have h := uscale_z x 17592186044416000000 sn hx (by decide) (by omega) (by omega) _ _ k0 k1 k2
    rw [hsn, hu, ← hsn] at h
    exact h)
  have KR := Lib.hid (round_n u (by omega))
  rw [HR.out] at KR
  have KP : Hid (Calls Tryz.prog 72 #[.pointer (some ⟨w.heap.size, 0, none⟩), .int .i64 (-(t : Int) - 11), .int .i64 6, .int .i64 19] (w.alloc (.cells #[.int .u64 0, .int .u64 0, .int .i64 0] 104)) fun en w' =>
      en = .returned (.tuple #[]) ∧ w' = w.alloc (.cells #[.int .u64 17592186044416000000, .int .u64 0, .int .i64 sn] 104)) := Lib.hid (by
    have h := prescale_any (-(t : Int) - 11) 6 19 w (by decide) (by decide) (by omega) (by omega) (by decide) (by decide) hT.1
    rw [show ((6 : Int) + 348).toNat = 354 from rfl, hph, hpl, show -(-(t : Int) - 11 + 19 + 3) = (sn : Int) from by omega] at h
    exact h)
  have hcmp : decide ((T : Int) * 4 - 2 ≤ (u : Int)) = false := decide_eq_false (by omega)
  have KM := Lib.hid (unmin_c T (by omega) (by omega))
  have hb3 : 3 < w.heap.size := by have := hT.1.1; omega
  have hp' : (n : Int) - 1 - (-(t : Int) - 11 + 63) * 78913 / 262144 = 6 := by omega
  have hc3' : ∀ o m, ((w.alloc o).drewN m).cell? ⟨3, n, none⟩ = some (.int .u64 T) := fun o m => (((Below.refl w.heap.size w).alloc (Nat.le_refl _) o).cell (p := ⟨3, _, none⟩) (by simp; omega)).trans hc3
  have hc3a : ∀ o, (w.alloc o).cell? ⟨3, n, none⟩ = some (.int .u64 T) := fun o => hc3' o 0
  have hwp : ∀ k : Int, -2000 ≤ k → k ≤ 2000 → IntKind.i64.wrap (k * 78913) = k * 78913 := fun k h1 h2 => by rw [IntKind.wrap_i64]; omega
  have KB : Hid (∀ o m, Below w.heap.size w ((w.alloc o).drewN m)) := Lib.hid (fun o m => by rw [← drewN_below]; exact (Below.refl _ _).alloc (Nat.le_refl _) _)
  clear hT hu hN hue hTe hxe HR hlt hp hsn hph hpl
  go_enter Tryz.func63, Tryz.ntmps63
  go_wp2_with (first | (go_at_call 62; go_in) | (go_at_call 73; go_in))
  refine KP.out.mono ?_
  rintro en w' ⟨rfl, rfl⟩
  go_wp2_with fail
  refine KU.out.mono ?_
  rintro en w' ⟨rfl, m, rfl⟩
  go_wp2_with fail
  refine (KM.out _).mono ?_
  rintro en w' ⟨rfl, rfl⟩
  go_wp2_with fail
  refine wp_loop_rounds 1 ?_
  rw [rounds_succ]
  go_wp2_with fail
  refine (KR.out _).mono ?_
  rintro en w' ⟨rfl, rfl⟩
  go_wp2_with fail
  go_returns
  exact ⟨rfl, KB.out _ _⟩
set_option maxHeartbeats 1000000 in
set_option maxRecDepth 100000 in
theorem fw7 (M t n : Nat) (hM0 : 4503599627370496 ≤ M) (hM : M < 9007199254740992) (ht0 : 15 ≤ t) (ht1 : t ≤ 75) (hn0 : 1 ≤ n) (hn1 : n ≤ 18) (hp : (n : Int) - 1 - (52 - (t : Int)) * 78913 / 262144 = 7)
    (w : World) (hT : Tabs w) :
    Calls Tryz.prog 63 #[.int .u64 (M * 2048 : Nat), .int .i64 (-(t : Int) - 11), .int .i64 n, .int .i64 6, .int .u8 102] w fun e w' =>
      e = .returned (.tuple #[.int .u64 (rne (M * 1000000) (2 ^ t) : Nat), .int .i64 (-6)]) ∧ Below w.heap.size w w' := by
  have hx : M * 2048 < 18446744073709551616 := by omega
  obtain ⟨x, hxe⟩ : ∃ x, x = M * 2048 := ⟨_, rfl⟩
  have hu : uz (x * 10995116277760000000) (18446744073709551616 * 2 ^ (t - 15)) = uz (4 * (M * 10000000)) (2 ^ t) := by
    have e1 : x * 10995116277760000000 = 4 * (M * 10000000) * 562949953421312 := by omega
    have e2 : 18446744073709551616 * 2 ^ (t - 15) = 2 ^ t * 562949953421312 := by
      rw [show 18446744073709551616 = 2 ^ 64 from by decide, show 562949953421312 = 2 ^ 49 from by decide, ← Nat.pow_add, ← Nat.pow_add, show 64 + (t - 15) = t + 49 from by omega]
    rw [e1, e2]
    exact uz_mul _ _ _ (by decide)
  have hnp : 10 ^ n ≤ 10 ^ 18 := Nat.pow_le_pow_right (by decide) hn1
  have hn1p : 0 < 10 ^ n := Nat.pow_pos (by decide)
  have HR := Lib.hid (rne_uz (M * 1000000) (2 ^ t) (Nat.pow_pos (by decide)))
  obtain ⟨u, hue⟩ : ∃ u, u = uz (4 * (M * 10000000)) (2 ^ t) := ⟨_, rfl⟩
  obtain ⟨N, hN⟩ : ∃ N, N = rne (M * 1000000) (2 ^ t) := ⟨_, rfl⟩
  rw [← hue] at hu
  rw [← hN] at HR ⊢
  rw [← hxe] at hx ⊢
  obtain ⟨T, hTe⟩ : ∃ T, T = 10 ^ n := ⟨_, rfl⟩
  have hc3 := hT.ten n hn1
  rw [← hTe] at hc3 hnp hn1p
  obtain ⟨sn, hsn⟩ : ∃ sn, sn = t - 15 := ⟨_, rfl⟩
  obtain ⟨_, _, hph, hpl⟩ := ph6
  have KU : Hid (Calls Tryz.prog 74 #[.int .u64 x, .pointer (some ⟨w.heap.size, 0, none⟩)] (w.alloc (.cells #[.int .u64 10995116277760000000, .int .u64 0, .int .i64 sn] 104)) fun e w' => e = .returned (.int .u64 u) ∧ ∃ n, w' = (w.alloc (.cells #[.int .u64 10995116277760000000, .int .u64 0, .int .i64 sn] 104)).drewN n) := Lib.hid (by
    obtain ⟨k0, k1, k2⟩ := cells3 w (.int .u64 10995116277760000000) (.int .u64 0) (.int .i64 sn) 104
    have h := uscale_z x 10995116277760000000 sn hx (by decide) (by omega) (by omega) _ _ k0 k1 k2
    rw [hsn, hu, ← hsn] at h
    exact h)
  have hu64 : u < 18446744073709551616 := by
    rw [← hu]
    have h1 : x * 10995116277760000000 / (18446744073709551616 * 2 ^ (t - 15)) < 18446744073709551616 := by
      rw [← Nat.div_div_eq_div_mul]
      exact Nat.lt_of_le_of_lt (Nat.div_le_self _ _) (by omega)
    unfold uz
    split <;> omega
  have hdiv : (if u % 10 = 0 then u / 10 else u / 10 / 2 * 2 + 1) = uz (4 * (M * 1000000)) (2 ^ t) := by
    rw [hue, ← uz_div _ _ (Nat.pow_pos (by decide)), show 4 * (M * 10000000) = 4 * (M * 1000000) * 10 from by omega]
    exact uz_mul _ _ _ (by decide)
  have KD := Lib.hid (div_n u hu64)
  rw [hdiv] at KD
  obtain ⟨u2, hu2⟩ : ∃ u2, u2 = uz (4 * (M * 1000000)) (2 ^ t) := ⟨_, rfl⟩
  rw [← hu2] at KD hdiv HR
  have hu2b : u2 ≤ 18446744073709551616 / 10 + 1 := by rw [← hdiv]; split <;> omega
  have KR := Lib.hid (round_n u2 (by omega))
  rw [HR.out] at KR
  have KP : Hid (Calls Tryz.prog 72 #[.pointer (some ⟨w.heap.size, 0, none⟩), .int .i64 (-(t : Int) - 11), .int .i64 7, .int .i64 23] (w.alloc (.cells #[.int .u64 0, .int .u64 0, .int .i64 0] 104)) fun en w' =>
      en = .returned (.tuple #[]) ∧ w' = w.alloc (.cells #[.int .u64 10995116277760000000, .int .u64 0, .int .i64 sn] 104)) := Lib.hid (by
    have h := prescale_any (-(t : Int) - 11) 7 23 w (by decide) (by decide) (by omega) (by omega) (by decide) (by decide) hT.1
    rw [show ((7 : Int) + 348).toNat = 355 from rfl, hph, hpl, show -(-(t : Int) - 11 + 23 + 3) = (sn : Int) from by omega] at h
    exact h)
  have KM := Lib.hid (unmin_c T (by omega) (by omega))
  have hb3 : 3 < w.heap.size := by have := hT.1.1; omega
  have hp' : (n : Int) - 1 - (-(t : Int) - 11 + 63) * 78913 / 262144 = 7 := by omega
  have hc3' : ∀ o m, ((w.alloc o).drewN m).cell? ⟨3, n, none⟩ = some (.int .u64 T) := fun o m => (((Below.refl w.heap.size w).alloc (Nat.le_refl _) o).cell (p := ⟨3, _, none⟩) (by simp; omega)).trans hc3
  have hc3a : ∀ o, (w.alloc o).cell? ⟨3, n, none⟩ = some (.int .u64 T) := fun o => hc3' o 0
  have hwp : ∀ k : Int, -2000 ≤ k → k ≤ 2000 → IntKind.i64.wrap (k * 78913) = k * 78913 := fun k h1 h2 => by rw [IntKind.wrap_i64]; omega
  have KB : Hid (∀ o m, Below w.heap.size w ((w.alloc o).drewN m)) := Lib.hid (fun o m => by rw [← drewN_below]; exact (Below.refl _ _).alloc (Nat.le_refl _) _)
  clear hT hu hN hue hTe hxe HR hp hsn hph hpl hdiv hu2
  go_enter Tryz.func63, Tryz.ntmps63
  go_wp2_with (first | (go_at_call 62; go_in) | (go_at_call 73; go_in))
  refine KP.out.mono ?_
  rintro en w' ⟨rfl, rfl⟩
  go_wp2_with fail
  refine KU.out.mono ?_
  rintro en w' ⟨rfl, m, rfl⟩
  go_wp2_with fail
  refine (KM.out _).mono ?_
  rintro en w' ⟨rfl, rfl⟩
  by_cases hge : (T : Int) * 4 - 2 ≤ (u : Int)
  · have hcmp : decide ((T : Int) * 4 - 2 ≤ (u : Int)) = true := decide_eq_true hge
    go_wp2_with fail
    refine (KD.out _).mono ?_
    rintro en w' ⟨rfl, m2, rfl⟩
    go_wp2_with fail
    refine wp_loop_rounds 1 ?_
    rw [rounds_succ]
    go_wp2_with fail
    refine (KR.out _).mono ?_
    rintro en w' ⟨rfl, rfl⟩
    go_wp2_with fail
    go_returns
    exact ⟨rfl, by first | exact KB.out _ _ | (simp only [World.drewN_drewN]; exact KB.out _ _)⟩
  · have hcmp : decide ((T : Int) * 4 - 2 ≤ (u : Int)) = false := decide_eq_false hge
    go_wp2_with fail
    refine wp_loop_rounds 2 ?_
    rw [rounds_succ]
    go_wp2_with fail
    refine (KD.out _).mono ?_
    rintro en w' ⟨rfl, m2, rfl⟩
    go_wp2_with fail
    rw [rounds_succ]
    go_wp2_with fail
    refine (KR.out _).mono ?_
    rintro en w' ⟨rfl, rfl⟩
    go_wp2_with fail
    go_returns
    exact ⟨rfl, by first | exact KB.out _ _ | (simp only [World.drewN_drewN]; exact KB.out _ _)⟩
def want (t : Nat) : Int := if t ≤ 52 then 7 + (53 - (t : Int)) * 78913 / 262144 else 7 - ((t : Int) - 52) * 78913 / 262144
theorem ten_two : ∀ e : Nat, e < 39 → 2 ^ (e + 1) < 10 ^ (1 + (e + 1) * 78913 / 262144) := by decide +kernel
theorem fw_c (M t n : Nat) (hM0 : 4503599627370496 ≤ M) (hM : M < 9007199254740992) (ht0 : 14 ≤ t) (ht1 : t ≤ 75) (hn : (n : Int) = want t) (w : World) (hT : Tabs w) :
    Calls Tryz.prog 63 #[.int .u64 (M * 2048 : Nat), .int .i64 (-(t : Int) - 11), .int .i64 n, .int .i64 6, .int .u8 102] w fun e w' =>
      e = .returned (.tuple #[.int .u64 (rne (M * 1000000) (2 ^ t) : Nat), .int .i64 (-6)]) ∧ Below w.heap.size w w' := by
  unfold want at hn
  have hn0 : 1 ≤ n ∧ n ≤ 18 := by split at hn <;> omega
  have hp : (n : Int) - 1 - (52 - (t : Int)) * 78913 / 262144 = 6 ∨ ((n : Int) - 1 - (52 - (t : Int)) * 78913 / 262144 = 7 ∧ 15 ≤ t) := by split at hn <;> omega
  rcases hp with hp | ⟨hp, ht⟩
  · refine fw6 M t n hM0 hM ht0 ht1 hn0.1 hn0.2 hp ?_ w hT
    have ht52 : t ≤ 52 := by
      rcases Nat.lt_or_ge 52 t with a | a
      · rw [if_neg (by omega)] at hn; omega
      · exact a
    rw [if_pos ht52] at hn
    obtain ⟨e, he⟩ : ∃ e, t + e = 52 := ⟨52 - t, by omega⟩
    have hk := ten_two e (by omega)
    have hn7 : n = 6 + (1 + (e + 1) * 78913 / 262144) := by omega
    rw [hn7, Nat.pow_add]
    obtain ⟨K, hK⟩ : ∃ K, K = 10 ^ (1 + (e + 1) * 78913 / 262144) := ⟨_, rfl⟩
    rw [← hK] at hk ⊢
    have hle := uz_le (4 * (M * 1000000)) (2 ^ t)
    have h1 : 4 * (M * 1000000) / 2 ^ t ≤ 4000000 * 2 ^ (e + 1) := by
      apply Nat.le_of_lt_succ
      rw [Nat.div_lt_iff_lt_mul (Nat.pow_pos (by decide))]
      have e1 : (4000000 * 2 ^ (e + 1)).succ * 2 ^ t = 4000000 * 9007199254740992 + 2 ^ t := by
        rw [Nat.succ_mul, Nat.mul_assoc, ← Nat.pow_add, show e + 1 + t = 53 from by omega]
      have : 0 < 2 ^ t := Nat.pow_pos (by decide)
      omega
    omega
  · exact fw7 M t n hM0 hM ht ht1 hn0.1 hn0.2 hp w hT
end Go.Proofs.YtdbjoiojiibdgaaGreatDoor
namespace Go.Proofs.YtdbjoiojiibdgaaGreatDoor
open Go.RowKit Go.Sort
def zeros24 : Array Value := Array.replicate 24 (.int .u8 0)
theorem zeros_at (j : Nat) (h : j < 24) : zeros24[j]? = some (.int .u8 0) := by
  unfold zeros24
  rw [Array.getElem?_replicate, if_pos h]
theorem ten_pos' (n : Nat) : 0 < 10 ^ n := Nat.pow_pos (by decide)
theorem dg_nat (d j : Nat) : ((Lib.dg d j).toNat : Int) = ((48 + d / 10 ^ j % 10 : Nat) : Int) := by
  unfold Lib.dg
  congr 1
  rw [UInt8.toNat_ofNat']
  omega
theorem fb10 (sb nd d : Nat) (w : World) (hn : nd ≤ 24) (hd : d < 10 ^ nd) (hd64 : d < 18446744073709551616) (hb : w.heap[sb]? = some (.cells zeros24 92 (0, 0))) :
    Calls Tryz.prog 79 #[.slice (some ⟨sb, 0, none⟩) nd 24, .int .u64 d] w fun e w' =>
      e = .returned (.tuple #[]) ∧ w.grownBy w' (some sb) ∧ ∃ arr, w'.heap[sb]? = some (.cells arr 92 (0, 0)) ∧ arr.size = 24 ∧ ∀ j, j < nd → arr[j]? = some (.int .u8 ((48 + d / 10 ^ (nd - 1 - j) % 10 : Nat) : Int)) := by
  have hsz : (Array.replicate nd (0 : UInt8)).size = nd := by simp
  have hH : Holds (fun (b : UInt8) => Value.int .u8 (b.toNat : Int)) w sb 0 (Array.replicate nd (0 : UInt8)) := by
    intro j hj
    rw [hsz] at hj
    constructor
    · rw [cell_of_row w sb _ zeros24 92 (0, 0) hb]
      rw [Nat.zero_add, zeros_at j (by omega), getElem!_pos _ j (by rw [hsz]; exact hj)]
      simp
    · simp [World.frozen?, hb]
  have h := Tryz.internal_strconv_formatBase10 sb 0 24 d (Array.replicate nd (0 : UInt8)) w hH (by rw [hsz]; exact hd) hd64 (by rw [hsz]; omega)
  rw [hsz] at h
  refine h.mono ?_
  rintro e w' ⟨rfl, n, v', dk, rfl, hinv⟩
  refine ⟨rfl, ⟨rfl, rfl, rfl, by simp [putRow, mapBlock], fun k hk hne => ?_⟩, ?_⟩
  · have : sb ≠ k := fun e => hne (by rw [e])
    simp [putRow, mapBlock, Array.getElem?_modify, this]
  · refine ⟨putCells (fun (b : UInt8) => Value.int .u8 (b.toNat : Int)) 0 dk zeros24, ?_, ?_, ?_⟩
    · simp [putRow, mapBlock, Array.getElem?_modify, hb, onCells]
    · simp [putCells, zeros24]
    · intro j hj
      have hz : zeros24[j]? = some (.int .u8 0) := zeros_at j (by omega)
      have hd1 := hinv.done j (Nat.zero_le _) hj
      have hs := hinv.size
      simp only [putCells, Array.getElem?_mapIdx, hz, Option.map_some]
      rw [if_pos ⟨Nat.zero_le _, by omega⟩, Nat.sub_zero, hd1, ← dg_nat]
def Sd (w w' : World) (sb nd d k : Nat) : Prop := ∃ U : Nat, k ≤ nd ∧ d = U * 10 ^ (nd - k) ∧ U < 10 ^ k ∧ w.grownBy w' (some sb) ∧ ∃ arr, w'.heap[sb]? = some (.cells arr 92 (0, 0)) ∧ ∀ j, j < k → arr[j]? = some (.int .u8 ((dgl U k).getD j 0))
theorem setDigits_c (d nd sb : Nat) (p : Int) (w : World) (hn : nd ≤ 20) (hd : d < 10 ^ nd) (hd0 : 0 < d) (hd64 : d < 18446744073709551616) (hp0 : -1000 ≤ p) (hp1 : p ≤ 1000) (hb : w.heap[sb]? = some (.cells zeros24 92 (0, 0))) :
    Calls Tryz.prog 60 #[.slice (some ⟨sb, 0, none⟩) 24 24, .int .u64 d, .int .i64 p, .int .i64 nd] w fun e w' => ∃ k : Nat,
      e = .returned (.tuple #[.int .i64 (nd + p), .int .i64 k]) ∧ Sd w w' sb nd d k := by
  have H0 := Lib.hid (fb10 sb nd d w (by omega) hd hd64 hb)
  have HD := Lib.hid hd
  clear hd hb
  have hle : decide (nd ≤ 24) = true := by simp; omega
  go_enter Tryz.func60, Tryz.ntmps60
  go_wp2_with fail
  refine H0.out.mono ?_
  rintro e w' ⟨rfl, hg, arr, ha, has, hat⟩
  have HA := Lib.hid ha
  have HT := Lib.hid hat
  clear ha hat has
  go_wp2_with fail
  go_loop [3] (fun v3 => ∃ k : Nat, k ≤ nd ∧ v3 = .int .i64 k ∧ Hid (∃ U, d = U * 10 ^ (nd - k) ∧ U < 10 ^ k)) (fun v3 => (RowKit.intOf v3).toNat)
  case atStart => exact ⟨nd, Nat.le_refl _, rfl, Lib.hid ⟨d, by simp, HD.out⟩⟩
  case round =>
    obtain ⟨k, hk, rfl, HK⟩ := hrel
    obtain ⟨U, hU, hUk⟩ := HK.out
    clear HK
    have h0 : 0 < k := by
      rcases Nat.eq_zero_or_pos k with e | e
      · subst e
        have : U = 0 := by simpa using hUk
        subst this
        omega
      · exact e
    obtain ⟨m, rfl⟩ : ∃ m, k = m + 1 := ⟨k - 1, by omega⟩
    have hdig : d / 10 ^ (nd - 1 - m) % 10 = U % 10 := by
      rw [hU, show nd - 1 - m = nd - (m + 1) from by omega, Nat.mul_div_cancel _ (ten_pos' _)]
    have hcell : w'.cell? ⟨sb, m, none⟩ = some (.int .u8 ((48 + U % 10 : Nat) : Int)) := by
      rw [cell_of_row w' sb m arr 92 (0, 0) HA.out, HT.out m (by omega), hdig]
    by_cases hz : U % 10 = 0
    · have hc0 : w'.cell? ⟨sb, m, none⟩ = some (.int .u8 48) := by rw [hcell, hz]; rfl
      have KN : Hid (∃ U, d = U * 10 ^ (nd - m) ∧ U < 10 ^ m) := Lib.hid ⟨U / 10, by
        rw [hU, show nd - m = (nd - (m + 1)) + 1 from by omega, Nat.pow_succ, ← Nat.mul_assoc, Nat.mul_right_comm, show U / 10 * 10 = U from by omega], by rw [Nat.pow_succ] at hUk; omega⟩
      clear hcell hdig hU hUk hz
      go_wp2
      go_round
      case rel => exact ⟨m, by omega, by go_num, KN⟩
      case measure => simp [RowKit.intOf]
    · have hne : (((48 + U % 10 : Nat) : Int) == 48) = false := by simp; omega
      have KN : Hid (Sd w w' sb nd d (m + 1)) := Lib.hid (by
        refine ⟨U, hk, hU, hUk, hg, arr, HA.out, fun j hj => ?_⟩
        rw [HT.out j (by omega), dgl_at U (m + 1) j hj, hU, show nd - 1 - j = (nd - (m + 1)) + (m + 1 - 1 - j) from by omega, Nat.pow_add, ← Nat.div_div_eq_div_mul, Nat.mul_div_cancel _ (ten_pos' _)])
      obtain ⟨x, hx⟩ : ∃ x, x = ((48 + U % 10 : Nat) : Int) := ⟨_, rfl⟩
      rw [← hx] at hcell hne
      clear hdig hU hUk hz hx
      go_wp2
      go_ret2
      exact ⟨m + 1, rfl, KN.out⟩
end Go.Proofs.YtdbjoiojiibdgaaGreatDoor
namespace Go.Proofs.YtdbjoiojiibdgaaGreatDoor
open Go.RowKit
theorem ex7 (b : Nat) (w : World) : (callFunc 7 #[.float .f64 b]).run Tryz.prog w = .ok (.value (.int .u64 b)) w := by
  rw [run_callFunc_extern (e := Extern.MathFloatBits.float64bits) Tryz.func7 (by kernel_rfl) (by kernel_rfl) (by kernel_rfl) (by kernel_rfl)]
  rfl
theorem i64_and2047 (n : Int) : bits .and .i64 n 2047 = n % 2048 := by
  have h127 : (BitVec.ofInt 64 2047).toNat = 2 ^ 11 - 1 := by decide
  have key : (BitVec.ofInt 64 n &&& BitVec.ofInt 64 2047).toNat = (n % ((2 ^ 64 : Nat) : Int)).toNat % 2 ^ 11 := by
    rw [BitVec.toNat_and, BitVec.toNat_ofInt, h127, Nat.and_two_pow_sub_one_eq_mod]
  show IntKind.i64.wrap ((BitVec.ofInt 64 n &&& BitVec.ofInt 64 2047).toNat : Nat) = n % 2048
  rw [key, IntKind.wrap_i64]
  omega
theorem u64_and52 (n : Int) : bits .and .u64 n 4503599627370495 = n % 4503599627370496 := by
  have h127 : (BitVec.ofInt 64 4503599627370495).toNat = 2 ^ 52 - 1 := by decide
  have key : (BitVec.ofInt 64 n &&& BitVec.ofInt 64 4503599627370495).toNat = (n % ((2 ^ 64 : Nat) : Int)).toNat % 2 ^ 52 := by
    rw [BitVec.toNat_and, BitVec.toNat_ofInt, h127, Nat.and_two_pow_sub_one_eq_mod]
  show IntKind.u64.wrap ((BitVec.ofInt 64 n &&& BitVec.ofInt 64 4503599627370495).toNat : Nat) = n % 4503599627370496
  rw [key, IntKind.wrap_u64]
  omega
theorem u64_or52 (n : Nat) (h : n < 4503599627370496) : bits .or .u64 (n : Int) 4503599627370496 = n + 4503599627370496 := by
  have h1 : (BitVec.ofInt 64 (n : Int)).toNat = n := by
    rw [BitVec.toNat_ofInt]; omega
  have h2 : (BitVec.ofInt 64 4503599627370496).toNat = 2 ^ 52 * 1 := by decide
  have key : (BitVec.ofInt 64 (n : Int) ||| BitVec.ofInt 64 4503599627370496).toNat = 2 ^ 52 * 1 + n := by
    rw [BitVec.toNat_or, h1, h2, Nat.or_comm, ← Nat.two_pow_add_eq_or_of_lt (by omega)]
  show IntKind.u64.wrap ((BitVec.ofInt 64 (n : Int) ||| BitVec.ofInt 64 4503599627370496).toNat : Nat) = n + 4503599627370496
  rw [key, IntKind.wrap_u64]
  omega
theorem u64_and2047 (n : Int) : bits .and .u64 n 2047 = n % 2048 := by
  have h127 : (BitVec.ofInt 64 2047).toNat = 2 ^ 11 - 1 := by decide
  have key : (BitVec.ofInt 64 n &&& BitVec.ofInt 64 2047).toNat = (n % ((2 ^ 64 : Nat) : Int)).toNat % 2 ^ 11 := by
    rw [BitVec.toNat_and, BitVec.toNat_ofInt, h127, Nat.and_two_pow_sub_one_eq_mod]
  show IntKind.u64.wrap ((BitVec.ofInt 64 n &&& BitVec.ofInt 64 2047).toNat : Nat) = n % 2048
  rw [key, IntKind.wrap_u64]
  omega
def mantOf (x : Nat) : Nat := if x / 4503599627370496 % 2048 = 0 then x % 4503599627370496 else x % 4503599627370496 + 4503599627370496
def expOf (x : Nat) : Int := if x / 4503599627370496 % 2048 = 0 then -1074 else ((x / 4503599627370496 % 2048 : Nat) : Int) - 1075
set_option maxRecDepth 100000 in
theorem parts_c (x : Nat) (w : World) : Calls Tryz.prog 16 #[.float .f64 x] w fun e w' => e = .returned (.tuple #[.bool ((x : Int) / 9223372036854775808 == 1), .int .u64 (mantOf x), .int .i64 (expOf x)]) ∧ w = w' := by
  have h7 := ex7
  obtain ⟨E, hE⟩ : ∃ E, E = x / 4503599627370496 % 2048 := ⟨_, rfl⟩
  obtain ⟨M, hM⟩ : ∃ M, M = x % 4503599627370496 := ⟨_, rfl⟩
  have hM1 : M < 4503599627370496 := by omega
  have e1 : bits BinOp.and IntKind.u64 ((x : Int) / 4503599627370496) 2047 = E := by
    have h := u64_and2047 ((x : Int) / 4503599627370496)
    rw [h]; omega
  have e2 : bits BinOp.and IntKind.u64 (x : Int) 4503599627370495 = M := by rw [u64_and52]; omega
  have e3 : bits BinOp.or IntKind.u64 (M : Int) 4503599627370496 = M + 4503599627370496 := u64_or52 M hM1
  by_cases h0 : E = 0
  · subst h0
    have r1 : Hid (mantOf x = M ∧ expOf x = -1074) := Lib.hid ⟨by unfold mantOf; rw [if_pos hE.symm, hM], by unfold expOf; rw [if_pos hE.symm]⟩
    clear hE hM
    go_enter Tryz.func16, Tryz.ntmps16
    go_wp2
    go_returns
    exact ⟨by rw [r1.out.1, r1.out.2]; rfl, rfl⟩
  · have hz : ((E : Int) == 0) = false := by simp; omega
    have hE2 : E < 2048 := by omega
    have r1 : Hid (mantOf x = M + 4503599627370496 ∧ expOf x = (E : Int) - 1075) := Lib.hid ⟨by unfold mantOf; rw [if_neg (by omega), hM], by unfold expOf; rw [if_neg (by omega), hE]⟩
    clear hE hM
    go_enter Tryz.func16, Tryz.ntmps16
    go_wp2
    go_returns
    exact ⟨by rw [r1.out.1, r1.out.2]; rfl, rfl⟩
end Go.Proofs.YtdbjoiojiibdgaaGreatDoor
namespace Go.Proofs.YtdbjoiojiibdgaaGreatDoor
open Go.RowKit
def MN (x : Nat) : Nat := rne (mantOf x * 2 ^ (expOf x).toNat * 1000000) (2 ^ (-(expOf x)).toNat)
theorem ite_iff {p q : Prop} [Decidable p] [Decidable q] (h : p ↔ q) : (if p then 1 else 0 : Nat) = if q then 1 else 0 := by
  by_cases hp : p
  · rw [if_pos hp, if_pos (h.1 hp)]
  · rw [if_neg hp, if_neg (fun c => hp (h.2 c))]
theorem rne_mul (A B c : Nat) (hc : 0 < c) : rne (A * c) (B * c) = rne A B := by
  unfold rne
  rw [Nat.mul_mod_mul_right, Nat.mul_div_mul_right _ _ hc, ← Nat.mul_assoc]
  congr 1
  have h1 : (2 * (A % B) * c > B * c) ↔ (2 * (A % B) > B) := by
    show B * c < 2 * (A % B) * c ↔ B < 2 * (A % B)
    exact Nat.mul_lt_mul_right hc
  have h2 : (2 * (A % B) * c = B * c) ↔ (2 * (A % B) = B) := ⟨fun h => Nat.eq_of_mul_eq_mul_right hc h, fun h => by rw [h]⟩
  exact ite_iff (by rw [h1, h2])
theorem rne_cross {A B C D : Nat} (h : A * D = C * B) (hB : 0 < B) (hD : 0 < D) : rne A B = rne C D := by
  rw [← rne_mul A B D hD, h, Nat.mul_comm B D, rne_mul C D B hB]
theorem rne_exact (Q B : Nat) (hB : 0 < B) : rne (Q * B) B = Q := by
  unfold rne
  rw [Nat.mul_mod_left, Nat.mul_div_cancel _ hB, if_neg (by omega), Nat.add_zero]
theorem rne_small {A B : Nat} (h : 2 * A < B) : rne A B = 0 := by
  unfold rne
  rw [Nat.mod_eq_of_lt (by omega), Nat.div_eq_of_lt (by omega), if_neg (by omega)]
theorem rne_up (U k q : Nat) (hq : q < k) (h10 : U % 10 ≠ 0) : rne U (10 ^ (k - q)) = U / 10 ^ (k - q) + if upB U k q = true then 1 else 0 := by
  obtain ⟨t, ht⟩ : ∃ t, k = q + (t + 1) := ⟨k - q - 1, by omega⟩
  unfold rne upB
  rw [show k - 1 - q = t from by omega, show k - q = t + 1 from by omega]
  congr 1
  have hP : 0 < 10 ^ t := Nat.pow_pos (by decide)
  have hmod : U % 10 ^ (t + 1) = U / 10 ^ t % 10 * 10 ^ t + U % 10 ^ t := by rw [Nat.pow_succ, Nat.mod_mul, Nat.add_comm, Nat.mul_comm]
  have hr : U % 10 ^ t < 10 ^ t := Nat.mod_lt _ hP
  have hpar : U / 10 ^ (t + 1) % 10 % 2 = U / 10 ^ (t + 1) % 2 := by omega
  have htie : U % 10 ^ t = 0 → t = 0 := fun h => by
    rcases Nat.eq_zero_or_pos t with e | e
    · exact e
    · exfalso
      apply h10
      have : 10 ∣ 10 ^ t := by
        rw [show t = (t - 1) + 1 from by omega, Nat.pow_succ]
        exact Nat.dvd_mul_left _ _
      exact Nat.mod_eq_zero_of_dvd (Nat.dvd_trans this (Nat.dvd_of_mod_eq_zero h))
  have h0 : t = 0 → U % 10 ^ t = 0 := fun e => by rw [e]; exact Nat.mod_one U
  rw [hmod, hpar, Nat.pow_succ]
  obtain ⟨o, ho⟩ : ∃ o, o = U / (10 ^ t * 10) % 2 := ⟨_, rfl⟩
  have ho2 : o < 2 := by omega
  rw [← ho]
  obtain ⟨d, hd⟩ : ∃ d, d = U / 10 ^ t % 10 := ⟨_, rfl⟩
  have hd10 : d < 10 := by omega
  obtain ⟨r, hre⟩ : ∃ r, r = U % 10 ^ t := ⟨_, rfl⟩
  rw [← hre] at hr htie h0
  rw [← hd, ← hre]
  obtain ⟨P, hPe⟩ : ∃ P, P = 10 ^ t := ⟨_, rfl⟩
  rw [← hPe] at hP hr ⊢
  have hPt : t = 0 → P = 1 := fun e => by rw [hPe, e]
  clear hmod hpar ho hd hre hPe h10
  have hc : d = 0 ∨ d = 1 ∨ d = 2 ∨ d = 3 ∨ d = 4 ∨ d = 5 ∨ d = 6 ∨ d = 7 ∨ d = 8 ∨ d = 9 := by omega
  refine ite_iff ?_
  by_cases h5 : d = 5
  · subst h5
    by_cases hr0 : r = 0
    · have ht0 := htie hr0
      have hP1 := hPt ht0
      subst hr0 hP1
      rw [if_pos (show 5 = 5 ∧ q + 1 = k from ⟨rfl, by omega⟩)]
      rcases (by omega : o = 0 ∨ o = 1) with e | e
      · subst e; decide
      · subst e; decide
    · rw [if_neg (show ¬ (5 = 5 ∧ q + 1 = k) from fun c => hr0 (h0 (by omega)))]
      exact ⟨fun _ => rfl, fun _ => Or.inl (by omega)⟩
  · rw [if_neg (show ¬ (d = 5 ∧ q + 1 = k) from fun c => h5 c.1), decide_eq_true_iff]
    by_cases h6 : 6 ≤ d
    · have : 6 * P ≤ d * P := Nat.mul_le_mul_right P h6
      exact ⟨fun _ => by omega, fun _ => Or.inl (by omega)⟩
    · have : d * P ≤ 4 * P := Nat.mul_le_mul_right P (by omega)
      exact ⟨fun h => by omega, fun h => by omega⟩
theorem rnd_near (M s U k a : Nat) (h10 : U % 10 ≠ 0) (h : M * 10 ^ k = U * 2 ^ s * 10 ^ a) : rnd U k (a + 6) = rne (M * 1000000) (2 ^ s) := by
  have p2 : 0 < 2 ^ s := Nat.pow_pos (by decide)
  have pk : 0 < 10 ^ k := Nat.pow_pos (by decide)
  unfold rnd
  by_cases hlt : a + 6 < k
  · rw [if_pos hlt, ← rne_up U k (a + 6) hlt h10]
    symm
    apply rne_cross _ p2 (Nat.pow_pos (by decide))
    have pa : 0 < 10 ^ a := Nat.pow_pos (by decide)
    apply Nat.eq_of_mul_eq_mul_right pa
    have e : 10 ^ k = 1000000 * 10 ^ (k - (a + 6)) * 10 ^ a := by
      rw [show (1000000 : Nat) = 10 ^ 6 from rfl, ← Nat.pow_add, ← Nat.pow_add, show 6 + (k - (a + 6)) + a = k from by omega]
    rw [← h, e]
    ac_rfl
  · rw [if_neg hlt]
    symm
    rw [show M * 1000000 = U * 10 ^ (a + 6 - k) * 2 ^ s from ?_, rne_exact _ _ p2]
    apply Nat.eq_of_mul_eq_mul_right pk
    have e : 10 ^ (a + 6 - k) * 10 ^ k = 10 ^ a * 1000000 := by
      rw [← Nat.pow_add, show a + 6 - k + k = a + 6 from by omega, Nat.pow_add]
    exact calc M * 1000000 * 10 ^ k = M * 10 ^ k * 1000000 := by ac_rfl
      _ = U * 2 ^ s * 10 ^ a * 1000000 := by rw [h]
      _ = U * 2 ^ s * (10 ^ a * 1000000) := by rw [Nat.mul_assoc]
      _ = U * 2 ^ s * (10 ^ (a + 6 - k) * 10 ^ k) := by rw [e]
      _ = U * 10 ^ (a + 6 - k) * 2 ^ s * 10 ^ k := by ac_rfl
end Go.Proofs.YtdbjoiojiibdgaaGreatDoor
