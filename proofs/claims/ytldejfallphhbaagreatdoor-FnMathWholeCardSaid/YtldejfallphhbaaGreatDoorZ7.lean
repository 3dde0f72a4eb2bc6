/-
  A part of the proof of FnMathWhole (packed out of smaller texts by a program of this session; what the proof does not reach is left out).
-/
import Derived.Test.YtldejfallphhbaaGreatDoorProg
import Derived.Shelf.Small.Bits
import Derived.Shelf.Strconv.Itoa0
import Derived.Shelf.Bits.Mul64
import Derived.WalkKit
import Derived.Laws.Rows
import Derived.Laws.AppendOwn
import Derived.Below
import Derived.PlainAid
import Derived.BigQuiet
import Derived.Deep.QuietTactic
import Derived.WalkLawsBesides
import Derived.WalkSpells
import Derived.Lib.Hide
import Derived.Handy
import Derived.Deep.LoopGhost
import Derived.Laws.IdiomCopy
import Derived.Laws.MakeOwn
import Derived.Laws.BitsAllLaws
import Derived.Lib.ItoaNum
import Derived.LaidEqlPtr
namespace Go.Proofs
open Go.Shelf
def Tryz.lays125_ren : Go.Shelf.Ren := ⟨fun | 125 => 131 | 128 => 142 | 129 => 143 | n => n, fun | 46 => 93 | 3 => 3 | 51 => 162 | 53 => 22 | 4 => 4 | 5 => 5 | 9 => 9 | n => n, fun | n => n⟩
theorem Tryz.lays125 : Go.Proofs.Lays.n125 Tryz.prog Tryz.lays125_ren := {
  mixed := by kernel_rfl
  f125 := Tryz.func131.trans (congrArg some (by kernel_rfl))
  f128 := Tryz.func142.trans (congrArg some (by kernel_rfl))
  f129 := Tryz.func143.trans (congrArg some (by kernel_rfl))
  t3 := Tryz.underlying3
  a3 := Tryz.isAgg3
  z3 := Tryz.sizeOf3
  v3 := Tryz.zeroValue3
  t4 := Tryz.underlying4
  a4 := Tryz.isAgg4
  z4 := Tryz.sizeOf4
  v4 := Tryz.zeroValue4
  t5 := Tryz.underlying5
  a5 := Tryz.isAgg5
  z5 := Tryz.sizeOf5
  v5 := Tryz.zeroValue5
  t9 := Tryz.underlying9
  a9 := Tryz.isAgg9
  z9 := Tryz.sizeOf9
  v9 := Tryz.zeroValue9
  t46 := Tryz.underlying93
  a46 := Tryz.isAgg93
  z46 := Tryz.sizeOf93
  v46 := Tryz.zeroValue93
  t51 := Tryz.underlying162
  a51 := Tryz.isAgg162
  z51 := Tryz.sizeOf162
  v51 := Tryz.zeroValue162
  t53 := Tryz.underlying22
  a53 := Tryz.isAgg22
  z53 := Tryz.sizeOf22
  v53 := Tryz.zeroValue22 }
theorem Tryz.bits_Len (x : Int) (w : World) (h0 : 0 ≤ x) (h1 : x ≤ 18446744073709551615) :
    Calls Tryz.prog 131 #[.int .u64 x] w fun e w' => e = .returned (.int .i64 (Lib.bitLen x.toNat)) ∧ w' = w := Any.bits_Len Tryz.lays125 x w h0 h1
def Tryz.lays130_ren : Go.Shelf.Ren := ⟨fun | 130 => 193 | 125 => 131 | 128 => 142 | 129 => 143 | n => n, fun | 46 => 93 | 3 => 3 | 51 => 162 | 53 => 22 | 4 => 4 | 5 => 5 | 9 => 9 | n => n, fun | n => n⟩
theorem Tryz.lays130 : Go.Proofs.Lays.n130 Tryz.prog Tryz.lays130_ren := {
  mixed := by kernel_rfl
  f125 := Tryz.func131.trans (congrArg some (by kernel_rfl))
  f128 := Tryz.func142.trans (congrArg some (by kernel_rfl))
  f129 := Tryz.func143.trans (congrArg some (by kernel_rfl))
  f130 := Tryz.func193.trans (congrArg some (by kernel_rfl))
  t3 := Tryz.underlying3
  a3 := Tryz.isAgg3
  z3 := Tryz.sizeOf3
  v3 := Tryz.zeroValue3
  t4 := Tryz.underlying4
  a4 := Tryz.isAgg4
  z4 := Tryz.sizeOf4
  v4 := Tryz.zeroValue4
  t5 := Tryz.underlying5
  a5 := Tryz.isAgg5
  z5 := Tryz.sizeOf5
  v5 := Tryz.zeroValue5
  t9 := Tryz.underlying9
  a9 := Tryz.isAgg9
  z9 := Tryz.sizeOf9
  v9 := Tryz.zeroValue9
  t46 := Tryz.underlying93
  a46 := Tryz.isAgg93
  z46 := Tryz.sizeOf93
  v46 := Tryz.zeroValue93
  t51 := Tryz.underlying162
  a51 := Tryz.isAgg162
  z51 := Tryz.sizeOf162
  v51 := Tryz.zeroValue162
  t53 := Tryz.underlying22
  a53 := Tryz.isAgg22
  z53 := Tryz.sizeOf22
  v53 := Tryz.zeroValue22 }
theorem Tryz.bits_LeadingZeros (x : Int) (w : World) (h0 : 0 ≤ x) (h1 : x ≤ 18446744073709551615) :
    Calls Tryz.prog 193 #[.int .u64 x] w fun e w' => e = .returned (.int .i64 (64 - (Lib.bitLen x.toNat : Int))) ∧ w' = w := Any.bits_LeadingZeros Tryz.lays130 x w h0 h1
end Go.Proofs
namespace Go.Proofs.YtldejfallphhbaaGreatDoor
structure Fr (w w' : World) (S : Nat → Nat → Prop) : Prop where
  os : w'.os = w.os
  tape : w'.tape = w.tape
  output : w'.output = w.output
  size : w.heap.size ≤ w'.heap.size
  cell : ∀ k j, k < w.heap.size → ¬ S k j → w'.cell? ⟨k, j, none⟩ = w.cell? ⟨k, j, none⟩
  row : ∀ (k : Nat) (arr : Array Value) (T : TypeId), w.heap[k]? = some (.cells arr T (0, 0)) → ∃ arr' : Array Value, w'.heap[k]? = some (.cells arr' T (0, 0)) ∧ arr'.size = arr.size
  block : ∀ k, k < w.heap.size → (∀ j, ¬ S k j) → w'.heap[k]? = w.heap[k]?
def No : Nat → Nat → Prop := fun _ _ => False
def Rg (b o n : Nat) : Nat → Nat → Prop := fun k j => k = b ∧ o ≤ j ∧ j < o + n
def Al (b : Nat) : Nat → Nat → Prop := fun k _ => k = b
theorem Fr.refl (w : World) (S : Nat → Nat → Prop) : Fr w w S :=
  ⟨rfl, rfl, rfl, Nat.le_refl _, fun _ _ _ _ => rfl, fun _ arr _ h => ⟨arr, h, rfl⟩, fun _ _ _ => rfl⟩
theorem Fr.drewN {w w' : World} {S : Nat → Nat → Prop} (h : Fr w w' S) (n : Nat) : Fr w (w'.drewN n) S := ⟨h.os, h.tape, h.output, h.size, h.cell, h.row, h.block⟩
theorem Fr.drew {w w' : World} {S : Nat → Nat → Prop} (h : Fr w w' S) : Fr w w'.drew S := ⟨h.os, h.tape, h.output, h.size, h.cell, h.row, h.block⟩
theorem Fr.alloc {w w' : World} {S : Nat → Nat → Prop} (h : Fr w w' S) (o : Obj) : Fr w (w'.alloc o) S := by
  have hs : ∀ k, k < w.heap.size → (w'.alloc o).heap[k]? = w'.heap[k]? := fun k hk => (by show (w'.heap.push o)[k]? = _; rw [Array.getElem?_push, if_neg (by have := Nat.lt_of_lt_of_le hk h.size; omega)])
  refine ⟨h.os, h.tape, h.output, Nat.le_trans h.size (by show _ ≤ (w'.heap.push o).size; simp), fun k j hk hS => ?_, fun k arr T hk => ?_, fun k hk hS => (hs k hk).trans (h.block k hk hS)⟩
  · rw [← h.cell k j hk hS]; simp [World.cell?, hs k hk]
  · obtain ⟨arr', h1, h2⟩ := h.row k arr T hk
    exact ⟨arr', (hs k (Array.getElem?_eq_some_iff.1 hk).1).trans h1, h2⟩
theorem Fr.set {w w' : World} {S : Nat → Nat → Prop} (h : Fr w w' S) (b i : Nat) (v : Value) (hb : b < w.heap.size → S b i) : Fr w (w'.setCell ⟨b, i, none⟩ v) S := by
  have hsz : (w'.setCell ⟨b, i, none⟩ v).heap.size = w'.heap.size := by simp [World.setCell]
  refine ⟨h.os, h.tape, h.output, by rw [hsz]; exact h.size, fun k j hk hS => ?_, fun k arr T hk => ?_, fun k hk hS => ?_⟩
  · rw [← h.cell k j hk hS]
    have hne : ¬ (k = b ∧ j = i) := fun e => hS (by rw [e.1, e.2]; exact hb (e.1 ▸ hk))
    simp only [World.cell?, World.setCell, Array.getElem?_modify]
    by_cases e : b = k
    · subst e
      have hji : ¬ j = i := fun e => hne ⟨rfl, e⟩
      cases hh : w'.heap[b]? with
      | none => simp
      | some o =>
        cases o <;> simp [Ne.symm hji] <;> (try (intro e; exact absurd e.symm hji))
    · simp [e]
  · obtain ⟨arr', h1, h2⟩ := h.row k arr T hk
    by_cases e : k = b
    · subst e
      exact ⟨_, heap_setCell_same w' k i arr' T v h1, by simp [h2]⟩
    · exact ⟨arr', (heap_setCell_other w' ⟨b, i, none⟩ k v e).trans h1, h2⟩
  · have e : k ≠ b := fun e => hS i (by rw [e]; exact hb (e ▸ hk))
    exact (heap_setCell_other w' ⟨b, i, none⟩ k v e).trans (h.block k hk hS)
theorem Fr.trans {w w' w2 : World} {S S2 : Nat → Nat → Prop} (h : Fr w w' S) (h2 : Fr w' w2 S2) (hS : ∀ k j, k < w.heap.size → S2 k j → S k j) : Fr w w2 S := by
  refine ⟨h2.os.trans h.os, h2.tape.trans h.tape, h2.output.trans h.output, Nat.le_trans h.size h2.size, fun k j hk hn => ?_, fun k arr T hk => ?_, fun k hk hn => ?_⟩
  · exact (h2.cell k j (Nat.lt_of_lt_of_le hk h.size) (fun c => hn (hS k j hk c))).trans (h.cell k j hk hn)
  · obtain ⟨a1, h3, h4⟩ := h.row k arr T hk
    obtain ⟨a2, h5, h6⟩ := h2.row k a1 T h3
    exact ⟨a2, h5, h6.trans h4⟩
  · exact (h2.block k (Nat.lt_of_lt_of_le hk h.size) (fun j c => hn j (hS k j hk c))).trans (h.block k hk hn)
theorem Fr.weaken {w w' : World} {S S2 : Nat → Nat → Prop} (h : Fr w w' S) (hS : ∀ k j, k < w.heap.size → S k j → S2 k j) : Fr w w' S2 :=
  ⟨h.os, h.tape, h.output, h.size, fun k j hk hn => h.cell k j hk (fun c => hn (hS k j hk c)), h.row, fun k hk hn => h.block k hk (fun j c => hn j (hS k j hk c))⟩
theorem Fr.no {w w' : World} {S : Nat → Nat → Prop} (h : Fr w w' No) : Fr w w' S := h.weaken (fun _ _ _ c => c.elim)
def Blk (w : World) (b n : Nat) : Prop := ∃ (arr : Array Value) (T : TypeId), w.heap[b]? = some (.cells arr T (0, 0)) ∧ arr.size = n
theorem Blk.fr {w w' : World} {S : Nat → Nat → Prop} {b n : Nat} (h : Blk w b n) (hf : Fr w w' S) : Blk w' b n := by
  obtain ⟨arr, T, h1, h2⟩ := h
  obtain ⟨a2, h3, h4⟩ := hf.row b arr T h1
  exact ⟨a2, T, h3, h4.trans h2⟩
theorem Blk.lt {w : World} {b n : Nat} (h : Blk w b n) : b < w.heap.size := by
  obtain ⟨arr, T, h1, _⟩ := h
  exact (Array.getElem?_eq_some_iff.1 h1).1
theorem Blk.fz {w : World} {b n : Nat} (h : Blk w b n) (i : Nat) : w.frozen? ⟨b, i, none⟩ = false := by
  obtain ⟨arr, T, h1, _⟩ := h
  exact frozen_of_row w b i arr T h1
theorem Blk.get {w : World} {b n : Nat} (h : Blk w b n) (i : Nat) (hi : i < n) (v : Value) : (w.setCell ⟨b, i, none⟩ v).cell? ⟨b, i, none⟩ = some v := by
  obtain ⟨arr, T, h1, h2⟩ := h
  rw [cell_of_row _ b i _ T (0, 0) (heap_setCell_same w b i arr T v h1), Array.getElem?_setIfInBounds, if_pos rfl, if_pos (by omega)]
theorem Blk.here {w : World} {b n : Nat} (h : Blk w b n) (i : Nat) (hi : i < n) : ∃ v, w.cell? ⟨b, i, none⟩ = some v := by
  obtain ⟨arr, T, h1, h2⟩ := h
  exact ⟨arr[i], by rw [cell_of_row w b i arr T (0, 0) h1, Array.getElem?_eq_getElem (by omega)]⟩
theorem cell_set_ne (w : World) (b i k j : Nat) (v : Value) (h : ¬ (k = b ∧ j = i)) : (w.setCell ⟨b, i, none⟩ v).cell? ⟨k, j, none⟩ = w.cell? ⟨k, j, none⟩ := by
  simp only [World.cell?, World.setCell, Array.getElem?_modify]
  by_cases e : b = k
  · subst e
    have hji : ¬ j = i := fun e => h ⟨rfl, e⟩
    cases hh : w.heap[b]? with
    | none => simp
    | some o => cases o <;> simp [Ne.symm hji] <;> (try (intro e; exact absurd e.symm hji))
  · simp [e]
theorem cell_lt {w : World} {b i : Nat} {v : Value} (h : w.cell? ⟨b, i, none⟩ = some v) : b < w.heap.size := World.block_lt_of_cell? w _ h
theorem Fr.keep {w w' : World} {S : Nat → Nat → Prop} (hf : Fr w w' S) {b i : Nat} {v : Value} (h : w.cell? ⟨b, i, none⟩ = some v) (hS : ¬ S b i) : w'.cell? ⟨b, i, none⟩ = some v :=
  (hf.cell b i (cell_lt h) hS).trans h
def wd (N i : Nat) : Nat := N / 18446744073709551616 ^ i % 18446744073709551616
theorem bp_pos (i : Nat) : 0 < 18446744073709551616 ^ i := Nat.pow_pos (by decide)
theorem wd_lt (N i : Nat) : wd N i < 18446744073709551616 := Nat.mod_lt _ (by decide)
theorem wd_add_lt (R r i k : Nat) (hk : k < i) : wd (R + r * 18446744073709551616 ^ i) k = wd R k := by
  unfold wd
  obtain ⟨j, rfl⟩ : ∃ j, i = k + 1 + j := ⟨i - k - 1, by omega⟩
  rw [show r * 18446744073709551616 ^ (k + 1 + j) = (r * 18446744073709551616 ^ j * 18446744073709551616) * 18446744073709551616 ^ k from by
    rw [Nat.pow_add, Nat.pow_succ]; simp only [Nat.mul_assoc, Nat.mul_comm, Nat.mul_left_comm]]
  rw [Nat.add_mul_div_right _ _ (bp_pos k), Nat.add_mul_mod_self_right]
theorem wd_add_eq (R r i : Nat) (hR : R < 18446744073709551616 ^ i) (hr : r < 18446744073709551616) : wd (R + r * 18446744073709551616 ^ i) i = r := by
  unfold wd
  rw [Nat.add_mul_div_right _ _ (bp_pos i), Nat.div_eq_of_lt hR, Nat.zero_add, Nat.mod_eq_of_lt hr]
theorem wd_zero_of_lt (N i : Nat) (h : N < 18446744073709551616 ^ i) : wd N i = 0 := by
  unfold wd; rw [Nat.div_eq_of_lt h]
theorem wd_zero (i : Nat) : wd 0 i = 0 := by unfold wd; rw [Nat.zero_div]
theorem knuth_law (P v V T U q : Nat) (hP : 0 < P) (hv : V * P ≤ v) (hv2 : v < (V + 1) * P) (hT : U * P ≤ T) (hT2 : T < (U + 1) * P)
    (h1 : q * V ≤ U) (h2 : U < (q + 1) * V) (hq : q ≤ V) (hV : 0 < V) : T / v ≤ q ∧ q ≤ T / v + 1 := by
  have hv0 : 0 < v := Nat.lt_of_lt_of_le (Nat.mul_pos hV hP) hv
  constructor
  · have : T < (q + 1) * v := by
      refine Nat.lt_of_lt_of_le hT2 (Nat.le_trans (Nat.mul_le_mul_right P h2) ?_)
      rw [Nat.mul_assoc]
      exact Nat.mul_le_mul_left _ hv
    exact Nat.le_of_lt_succ ((Nat.div_lt_iff_lt_mul hv0).2 this)
  · rcases Nat.eq_zero_or_pos q with e | e
    · rw [e]; exact Nat.zero_le _
    · obtain ⟨k, rfl⟩ : ∃ k, q = k + 1 := ⟨q - 1, by omega⟩
      have : k * v ≤ T := by
        refine Nat.le_trans (Nat.mul_le_mul_left k (Nat.le_of_lt hv2)) ?_
        rw [← Nat.mul_assoc]
        refine Nat.le_trans (Nat.mul_le_mul_right P ?_) hT
        rw [Nat.mul_add, Nat.mul_one]
        rw [Nat.add_mul, Nat.one_mul] at h1
        omega
      have := (Nat.le_div_iff_mul_le hv0).2 this
      omega
theorem knuth_top (P v a T : Nat) (hv : a * P ≤ v) (hv2 : v < (a + 1) * P) (ha : 9223372036854775808 ≤ a) (hP : 0 < P) (hT : a * P * 18446744073709551616 ≤ T) (hT2 : T < v * 18446744073709551616) :
    T / v ≤ 18446744073709551615 ∧ 18446744073709551615 ≤ T / v + 1 := by
  have hv0 : 0 < v := Nat.lt_of_lt_of_le (Nat.mul_pos (by omega) hP) hv
  constructor
  · have : T / v < 18446744073709551616 := (Nat.div_lt_iff_lt_mul hv0).2 (by rwa [Nat.mul_comm])
    omega
  · have : 18446744073709551614 * v ≤ T := by
      rw [Nat.add_mul, Nat.one_mul] at hv2
      have : 9223372036854775808 * P ≤ a * P := Nat.mul_le_mul_right P ha
      obtain ⟨z, hz⟩ : ∃ z, z = a * P := ⟨_, rfl⟩
      rw [← hz] at hv2 this hT
      omega
    have := (Nat.le_div_iff_mul_le hv0).2 this
    omega
def Ws (w : World) (b o n N : Nat) : Prop := ∀ i, i < n → w.cell? ⟨b, o + i, none⟩ = some (.int .u64 ((wd N i : Nat) : Int))
theorem Ws.fr {w w' : World} {S : Nat → Nat → Prop} {b o n N : Nat} (h : Ws w b o n N) (hf : Fr w w' S) (hS : ∀ i, i < n → ¬ S b (o + i)) : Ws w' b o n N :=
  fun i hi => hf.keep (h i hi) (hS i hi)
theorem Ws.less {w : World} {b o n m N : Nat} (h : Ws w b o n N) (hm : m ≤ n) : Ws w b o m N := fun i hi => h i (by omega)
theorem Ws.next {w : World} {b o i R r n : Nat} (h : Ws w b o i R) (hB : Blk w b n) (hn : o + i < n) (hR : R < 18446744073709551616 ^ i) (hr : r < 18446744073709551616) :
    Ws (w.setCell ⟨b, o + i, none⟩ (.int .u64 (r : Int))) b o (i + 1) (R + r * 18446744073709551616 ^ i) := fun k hk => by
  by_cases e : k = i
  · subst e; rw [hB.get _ hn, wd_add_eq _ _ _ hR hr]
  · rw [cell_set_ne _ _ _ _ _ _ (by omega), h k (by omega), wd_add_lt _ _ _ _ (by omega)]
theorem eight_mod (X : Nat) : X % 18446744073709551616 = X % 256 + X / 256 % 256 * 256 + X / 65536 % 256 * 65536 + X / 16777216 % 256 * 16777216 + X / 4294967296 % 256 * 4294967296 + X / 1099511627776 % 256 * 1099511627776 + X / 281474976710656 % 256 * 281474976710656 + X / 72057594037927936 % 256 * 72057594037927936 := by omega
theorem bp256 (k : Nat) : 18446744073709551616 ^ k = 256 ^ (8 * k) := by
  rw [show (18446744073709551616 : Nat) = 256 ^ 8 from by decide, ← Nat.pow_mul]
theorem wd_byte (N k t : Nat) : N / 256 ^ (8 * k + t) % 256 = N / 18446744073709551616 ^ k / 256 ^ t % 256 := by
  rw [Nat.pow_add, ← bp256, Nat.div_div_eq_div_mul]
theorem wd_shift (N j k : Nat) : wd N (j + k) = wd (N / 18446744073709551616 ^ j) k := by
  unfold wd; rw [Nat.pow_add, Nat.div_div_eq_div_mul]
theorem wd_mod (X j i : Nat) (h : i < j) : wd (X % 18446744073709551616 ^ j) i = wd X i := by
  have e := Nat.div_add_mod X (18446744073709551616 ^ j)
  have h2 := wd_add_lt (X % 18446744073709551616 ^ j) (X / 18446744073709551616 ^ j) j i h
  rw [← h2, Nat.add_comm, Nat.mul_comm, e]
theorem wd_low (t X j i : Nat) (h : i < j) : wd (t * 18446744073709551616 ^ j + X % 18446744073709551616 ^ j) i = wd X i := by
  rw [Nat.add_comm, wd_add_lt _ _ _ _ h, wd_mod _ _ _ h]
theorem wd_high (t X j k : Nat) : wd (t * 18446744073709551616 ^ j + X % 18446744073709551616 ^ j) (j + k) = wd t k := by
  rw [wd_shift, Nat.mul_comm, Nat.mul_add_div (bp_pos j), Nat.div_eq_of_lt (Nat.mod_lt _ (bp_pos j)), Nat.add_zero]
theorem wd_top {T n : Nat} (h : T < 18446744073709551616 ^ (n + 1)) : wd T n = T / 18446744073709551616 ^ n := by
  unfold wd
  rw [Nat.mod_eq_of_lt]
  refine (Nat.div_lt_iff_lt_mul (bp_pos n)).2 ?_
  rwa [Nat.pow_succ, Nat.mul_comm] at h
theorem div_words (T n : Nat) : T / 18446744073709551616 ^ n = T / 18446744073709551616 ^ (n + 1) * 18446744073709551616 + wd T n := by
  unfold wd
  rw [Nat.pow_succ, ← Nat.div_div_eq_div_mul]
  omega
theorem div_bounds (v P : Nat) (hP : 0 < P) : v / P * P ≤ v ∧ v < (v / P + 1) * P := by
  have h1 := Nat.div_mul_le_self v P
  have h2 := Nat.lt_mul_div_succ v hP
  rw [Nat.mul_comm] at h2
  exact ⟨h1, h2⟩
theorem round_law (v T k q : Nat) (hv : 9223372036854775808 * 18446744073709551616 ^ (k + 1) ≤ v) (hv2 : v < 18446744073709551616 ^ (k + 2)) (hT : T < v * 18446744073709551616) :
    wd T (k + 2) ≤ wd v (k + 1) ∧
    (wd T (k + 2) = wd v (k + 1) → T / v ≤ 18446744073709551615 ∧ 18446744073709551615 ≤ T / v + 1) ∧
    (wd T (k + 2) < wd v (k + 1) → q ≤ 18446744073709551615 → q * (wd v (k + 1) * 18446744073709551616 + wd v k) ≤ (wd T (k + 2) * 18446744073709551616 + wd T (k + 1)) * 18446744073709551616 + wd T k →
      (wd T (k + 2) * 18446744073709551616 + wd T (k + 1)) * 18446744073709551616 + wd T k < (q + 1) * (wd v (k + 1) * 18446744073709551616 + wd v k) → T / v ≤ q ∧ q ≤ T / v + 1) := by
  have hT3 : T < 18446744073709551616 ^ (k + 3) := by
    refine Nat.lt_of_lt_of_le hT ?_
    rw [show k + 3 = (k + 2) + 1 from rfl, Nat.pow_succ 18446744073709551616 (k + 2)]
    exact Nat.mul_le_mul_right _ (Nat.le_of_lt hv2)
  have tT := wd_top hT3
  have tv := wd_top hv2
  have hP1 := bp_pos (k + 1)
  have bv := div_bounds v (18446744073709551616 ^ (k + 1)) hP1
  have bT := div_bounds T (18446744073709551616 ^ (k + 2)) (bp_pos (k + 2))
  rw [← tv] at bv
  rw [← tT, Nat.pow_succ 18446744073709551616 (k + 1), ← Nat.mul_assoc] at bT
  have ha : 9223372036854775808 ≤ wd v (k + 1) := by
    rw [tv]; exact (Nat.le_div_iff_mul_le hP1).2 hv
  have hle : wd T (k + 2) ≤ wd v (k + 1) := by
    rw [tT, tv, Nat.pow_succ, Nat.mul_comm, ← Nat.div_div_eq_div_mul]
    refine Nat.div_le_div_right ?_
    exact Nat.le_of_lt_succ ((Nat.div_lt_iff_lt_mul (by decide)).2 (Nat.lt_of_lt_of_le hT (Nat.mul_le_mul_right _ (Nat.le_succ v))))
  refine ⟨hle, fun e => ?_, fun hlt hq h1 h2 => ?_⟩
  · exact knuth_top (18446744073709551616 ^ (k + 1)) v (wd v (k + 1)) T bv.1 bv.2 ha hP1 (by rw [← e]; exact bT.1) hT
  · have e1 : v / 18446744073709551616 ^ k = wd v (k + 1) * 18446744073709551616 + wd v k := by rw [div_words v k, ← tv]
    have e2 : T / 18446744073709551616 ^ k = (wd T (k + 2) * 18446744073709551616 + wd T (k + 1)) * 18446744073709551616 + wd T k := by
      rw [div_words T k, div_words T (k + 1), ← tT]
    rw [← e1, ← e2] at h1 h2
    have b1 := div_bounds v (18446744073709551616 ^ k) (bp_pos k)
    have b2 := div_bounds T (18446744073709551616 ^ k) (bp_pos k)
    refine knuth_law (18446744073709551616 ^ k) v (v / 18446744073709551616 ^ k) T (T / 18446744073709551616 ^ k) q (bp_pos k) b1.1 b1.2 b2.1 b2.2 h1 h2 ?_ ?_
    · rw [e1]; omega
    · rw [e1]; omega
end Go.Proofs.YtldejfallphhbaaGreatDoor
namespace Go.Proofs.YtldejfallphhbaaGreatDoor
open Go.RowKit
def Sto (w : World) (v : Value) (b : Nat) : Prop := v = .slice none 0 0 ∨ ∃ l c, v = .slice (some ⟨b, 0, none⟩) l c ∧ l ≤ c ∧ c ≤ 4000 ∧ Blk w b c
theorem Blk.new (w : World) (arr : Array Value) (T : TypeId) (n : Nat) (h : arr.size = n) : Blk (w.alloc (.cells arr T)) w.heap.size n := ⟨arr, T, heap_alloc_new w _, h⟩
theorem info143 : (Tryz.prog.info? 143).map (fun i => (i.zero, i.size, i.bytes)) = some (some (.int .u64 0), 1, 8) := by kernel_rfl
def mkw (c : Nat) : Array Value := madeCells (Value.cells (.int .u64 0)) c
theorem mkw_size (c : Nat) : (mkw c).size = c := size_madeCells _ _
theorem mkw_c (n c : Nat) (hnc : n ≤ c) (hc : c ≤ 4000) (w : World) : (Instr.makeSlice 101 (.int .i64 n) (.int .i64 c)).run Tryz.prog w = .ok (.slice (some ⟨w.heap.size, 0, none⟩) n c) (w.alloc (.cells (mkw c) 143)) := by
  obtain ⟨i0, hi, hz0, hz1, hz2⟩ := info_parts info143
  have h := run_make (P := Tryz.prog) w 101 143 i0 (.int .u64 0) Tryz.underlying101 hi hz0 .i64 .i64 n c (by omega) (by omega) (by rw [hz2]; omega) (by omega)
  rw [hz1, Int.toNat_natCast, Int.toNat_natCast, Nat.mul_one] at h
  exact h
def Whr (w w' : World) (b b0 : Nat) (v : Value) : Prop := (b = b0 ∧ v ≠ .slice none 0 0) ∨ (w.heap.size ≤ b ∧ b < w'.heap.size)
set_option maxRecDepth 100000 in
theorem make_c (v : Value) (b0 n : Nat) (hn : 1 ≤ n) (hn1 : n ≤ 1000) (w : World) (hs : Sto w v b0) :
    Calls Tryz.prog 105 #[v, .int .i64 n] w fun e w' => ∃ b c, e = .returned (.slice (some ⟨b, 0, none⟩) n c) ∧ n ≤ c ∧ c ≤ 4000 ∧ Whr w w' b b0 v ∧ Blk w' b c ∧ Fr w w' No := by
  have KF : Hid (∀ o : Obj, Fr w (w.alloc o) No) := Lib.hid (fun o => (Fr.refl w No).alloc o)
  have KB := Lib.hid (Blk.new w)
  have hm1 : ∀ w : World, (Instr.makeSlice 101 (.int .i64 1) (.int .i64 1)).run Tryz.prog w = .ok (.slice (some ⟨w.heap.size, 0, none⟩) 1 1) (w.alloc (.cells (mkw 1) 143)) := mkw_c 1 1 (by omega) (by omega)
  have hm4 : ∀ w : World, (Instr.makeSlice 101 (.int .i64 n) (.int .i64 ((n : Int) + 4))).run Tryz.prog w = .ok (.slice (some ⟨w.heap.size, 0, none⟩) n (n + 4)) (w.alloc (.cells (mkw (n + 4)) 143)) := mkw_c n (n + 4) (by omega) (by omega)
  have KL : Hid (∀ o : Obj, w.heap.size < (w.alloc o).heap.size) := Lib.hid (fun o => by show _ < (w.heap.push o).size; simp)
  rcases hs with rfl | ⟨l, c, rfl, hlc, hc, hB⟩
  · have h0 : ¬ ((n : Int) ≤ 0) := by omega
    by_cases h1 : n = 1
    · subst h1
      go_enter Tryz.func105, Tryz.ntmps105
      go_wp2_with fail
      go_returns
      exact ⟨_, 1, rfl, by omega, by omega, Or.inr ⟨Nat.le_refl _, KL.out _⟩, KB.out _ _ _ (mkw_size _), KF.out _⟩
    · have h1' : ((n : Int) == 1) = false := by simp; omega
      have h2 : ¬ n = 0 := by omega
      have h3 : ¬ ((n : Int) + 4 < 0) := by omega
      go_enter Tryz.func105, Tryz.ntmps105
      go_wp2_with fail
      go_returns
      exact ⟨_, n + 4, by go_num, by omega, by omega, Or.inr ⟨Nat.le_refl _, KL.out _⟩, KB.out _ _ _ (mkw_size _), KF.out _⟩
  · have KB2 := Lib.hid hB
    clear hB
    by_cases hnc : n ≤ c
    · go_enter Tryz.func105, Tryz.ntmps105
      go_wp2_with fail
      go_returns
      exact ⟨_, c, rfl, hnc, hc, Or.inl ⟨rfl, by simp⟩, KB2.out, Fr.refl _ _⟩
    · by_cases h1 : n = 1
      · subst h1
        go_enter Tryz.func105, Tryz.ntmps105
        go_wp2_with fail
        go_returns
        exact ⟨_, 1, rfl, by omega, by omega, Or.inr ⟨Nat.le_refl _, KL.out _⟩, KB.out _ _ _ (mkw_size _), KF.out _⟩
      · have h1' : ((n : Int) == 1) = false := by simp; omega
        have h3 : ¬ ((n : Int) + 4 < 0) := by omega
        go_enter Tryz.func105, Tryz.ntmps105
        go_wp2_with fail
        go_returns
        exact ⟨_, n + 4, by go_num, by omega, by omega, Or.inr ⟨Nat.le_refl _, KL.out _⟩, KB.out _ _ _ (mkw_size _), KF.out _⟩
def Nrm (X k : Nat) : Prop := X < 18446744073709551616 ^ k ∧ (0 < k → 18446744073709551616 ^ (k - 1) ≤ X)
theorem norm_c (b o n c X : Nat) (w : World) (hn : n ≤ 1000) (hnc : n ≤ c) (hX : Ws w b o n X) (hlt : X < 18446744073709551616 ^ n) :
    Calls Tryz.prog 107 #[.slice (some ⟨b, o, none⟩) n c] w fun e w' => ∃ k, e = .returned (.slice (some ⟨b, o, none⟩) k c) ∧ k ≤ n ∧ Nrm X k ∧ w' = w := by
  have KX := Lib.hid hX
  have KL := Lib.hid hlt
  clear hX hlt
  go_enter Tryz.func107, Tryz.ntmps107
  go_wp2_with fail
  go_loopw [3] (fun v3 wr => ∃ i : Nat, i ≤ n ∧ v3 = .int .i64 i ∧ Hid (X < 18446744073709551616 ^ i) ∧ wr = w) (fun v3 _ => (intOf v3).toNat)
  case atStart => exact ⟨n, by omega, rfl, KL, rfl⟩
  case round =>
    obtain ⟨i, hi, rfl, HR, rfl⟩ := hrel
    by_cases h0 : 0 < i
    · obtain ⟨j, rfl⟩ : ∃ j, i = j + 1 := ⟨i - 1, by omega⟩
      have cx := KX.out j (by omega)
      have hpos : decide ((0 : Int) < ((j + 1 : Nat) : Int)) = true := by simp
      have hpos2 : ((0 : Int) < (j : Int) + 1) = True := eq_true (by omega)
      have hj1 : ((j + 1 : Nat) : Int) - 1 = (j : Int) := by omega
      by_cases hz : wd X j = 0
      · have KN : Hid (X < 18446744073709551616 ^ j) := Lib.hid (by
          rw [wd_top HR.out] at hz
          rcases Nat.div_eq_zero_iff.1 hz with e | e
          · have := bp_pos j; omega
          · exact e)
        rw [hz] at cx
        clear HR hz
        go_wp2_with fail
        go_roundw
        case rel => exact ⟨j, by omega, by go_num, KN, trivial⟩
        case measure => simp [intOf] <;> omega
      · have KN : Hid (Nrm X (j + 1)) := Lib.hid ⟨HR.out, fun _ => by
          rw [wd_top HR.out] at hz
          rw [Nat.add_sub_cancel]
          exact (Nat.div_pos_iff.1 (Nat.pos_of_ne_zero hz)).2⟩
        clear HR
        generalize wd X j = x at *
        have hle : j + 1 ≤ c := by omega
        go_wp2_with fail
        go_returns
        exact ⟨j + 1, by go_num, hi, KN.out, rfl⟩
    · obtain rfl : i = 0 := by omega
      have KN : Hid (Nrm X 0) := Lib.hid ⟨HR.out, fun h => absurd h (by omega)⟩
      clear HR
      go_wp2_with fail
      go_returns
      exact ⟨0, rfl, by omega, KN.out, rfl⟩
end Go.Proofs.YtldejfallphhbaaGreatDoor
namespace Go.Proofs.YtldejfallphhbaaGreatDoor
open Go.RowKit
theorem Fr.setCells {w : World} {S : Nat → Nat → Prop} (b : Nat) : ∀ (vs : List Value) (o : Nat) (w' : World), Fr w w' S → (∀ j, j < vs.length → b < w.heap.size → S b (o + j)) → Fr w (w'.setCells b o vs) S
  | [], _, _, h, _ => h
  | v :: r, o, w', h, hS => Fr.setCells b r (o + 1) _ (h.set b o v (fun hb => by simpa using hS 0 (by simp) hb)) (fun j hj hb => by have := hS (j + 1) (by simp; omega) hb; rwa [show o + (j + 1) = o + 1 + j from by omega] at this)
def wvs (X n : Nat) : List Value := (List.range n).map fun i => .int .u64 ((wd X i : Nat) : Int)
theorem wvs_len (X n : Nat) : (wvs X n).length = n := by simp [wvs]
theorem wvs_at (X n i : Nat) (h : i < n) : (wvs X n)[i]? = some (.int .u64 ((wd X i : Nat) : Int)) := by simp [wvs, h]
theorem copy_c (b c bx ox n cx N X : Nat) (w : World) (hB : Blk w b N) (hN : n ≤ N) (hX : Ws w bx ox n X) (ty : TypeId) :
    (Builtin.copy_ #[101, 101] ty #[.slice (some ⟨b, 0, none⟩) n c, .slice (some ⟨bx, ox, none⟩) n cx]).run Tryz.prog w = .ok (.int .i64 n) (w.setCells b 0 (wvs X n)) ∧
      Ws (w.setCells b 0 (wvs X n)) b 0 n X ∧ Blk (w.setCells b 0 (wvs X n)) b N ∧ ∀ w0 S, Fr w0 w S → (∀ j, j < n → b < w0.heap.size → S b j) → Fr w0 (w.setCells b 0 (wvs X n)) S := by
  have hs : (Tryz.prog.info? 143).map (·.size) = some 1 := by kernel_rfl
  have hadd : ∀ j, (⟨bx, ox, none⟩ : Addr).add j = ⟨bx, ox + j, none⟩ := fun j => by unfold Addr.add; split <;> simp_all
  have hcell : ∀ j, j < (wvs X n).length → (w.cell? ⟨b, 0 + j, none⟩).isSome = true := fun j hj => by
    rw [wvs_len] at hj
    obtain ⟨v, hv⟩ := hB.here (0 + j) (by omega)
    rw [hv]; rfl
  have hF : ∀ w0 S, Fr w0 w S → (∀ j, j < n → b < w0.heap.size → S b j) → Fr w0 (w.setCells b 0 (wvs X n)) S := fun w0 S h hS => Fr.setCells b _ 0 w h (fun j hj hb => by rw [wvs_len] at hj; rw [Nat.zero_add]; exact hS j hj hb)
  refine ⟨?_, fun i hi => ?_, hB.fr (hF w (Al b) (Fr.refl _ _) (fun _ _ _ => rfl)), hF⟩
  · have h := run_copy_cells (P := Tryz.prog) w 101 101 ty 143 b 0 n c ⟨bx, ox, none⟩ n cx (wvs X n) Tryz.underlying101 hs (by rw [wvs_len]; exact (Nat.min_self n).symm)
      (fun j v hv => by
        have hj : j < n := by
          have := (List.getElem?_eq_some_iff.1 hv).1
          rwa [wvs_len] at this
        rw [wvs_at X n j hj] at hv
        rw [hadd, ← Option.some.inj hv]
        exact hX j hj)
      hcell (fun j hj => hB.fz _)
      (fun v hv => by
        simp only [wvs, List.mem_map] at hv
        obtain ⟨i, _, rfl⟩ := hv
        rfl)
    rw [wvs_len] at h
    exact h
  · have h := World.cell?_setCells_in b (wvs X n) 0 w hcell i (by rw [wvs_len]; exact hi)
    rw [h]
    have := wvs_at X n i hi
    rw [List.getElem?_eq_getElem (by rw [wvs_len]; exact hi)] at this
    exact this
theorem set_c (v : Value) (b0 bx ox n cx X : Nat) (hn : 1 ≤ n) (hn1 : n ≤ 1000) (w : World) (hs : Sto w v b0) (hX : Ws w bx ox n X) (hne : v ≠ .slice none 0 0 → b0 ≠ bx) :
    Calls Tryz.prog 108 #[v, .slice (some ⟨bx, ox, none⟩) n cx] w fun e w' => ∃ b c, e = .returned (.slice (some ⟨b, 0, none⟩) n c) ∧ n ≤ c ∧ c ≤ 4000 ∧ Whr w w' b b0 v ∧ Blk w' b c ∧ Ws w' b 0 n X ∧ Fr w w' (fun k _ => k = b0 ∧ v ≠ .slice none 0 0) := by
  have KM := Lib.hid (make_c v b0 n hn hn1 w hs)
  have KX := Lib.hid hX
  have KE := Lib.hid hne
  clear hs hX hne
  go_enter Tryz.func108, Tryz.ntmps108
  go_wp2_with fail
  refine KM.out.mono ?_
  rintro e w1 ⟨b, c, rfl, hnc, hc, hW, hB, hF⟩
  have hX1 := KX.out.fr hF (fun i _ c => c)
  have hbx : bx < w.heap.size := cell_lt (KX.out 0 (by omega))
  have hcp := fun ty => copy_c b c bx ox n cx c X w1 hB hnc hX1 ty
  have KH : Hid (Whr w (w1.setCells b 0 (wvs X n)) b b0 v ∧ Blk (w1.setCells b 0 (wvs X n)) b c ∧ Ws (w1.setCells b 0 (wvs X n)) b 0 n X ∧ Fr w (w1.setCells b 0 (wvs X n)) (fun k _ => k = b0 ∧ v ≠ .slice none 0 0)) := Lib.hid (by
    obtain ⟨_, a1, a2, a3⟩ := hcp 0
    have hF1 := a3 w1 (Al b) (Fr.refl _ _) (fun _ _ _ => rfl)
    refine ⟨?_, a2, a1, a3 w _ hF.no (fun j _ hb => ?_)⟩
    · rcases hW with h | ⟨h1, h2⟩
      · exact Or.inl h
      · exact Or.inr ⟨h1, Nat.lt_of_lt_of_le h2 hF1.size⟩
    · rcases hW with h | ⟨h1, _⟩
      · exact h
      · omega)
  have hcp1 := fun ty => (hcp ty).1
  clear hcp hX1 hW hB hF hbx
  generalize w1.setCells b 0 (wvs X n) = w2 at *
  go_wp2_with fail
  go_returns
  exact ⟨b, c, rfl, hnc, hc, KH.out⟩
end Go.Proofs.YtldejfallphhbaaGreatDoor
namespace Go.Proofs.YtldejfallphhbaaGreatDoor
set_option linter.unusedVariables false
open Go.RowKit
theorem cmp_gt (x y : Option Addr) (n m cx cy : Nat) (w : World) (h : m < n) : Calls Tryz.prog 139 #[.slice x n cx, .slice y m cy] w fun e w' => e = .returned (.int .i64 1) ∧ w' = w := by
  have h1 : ((n : Int) != (m : Int)) = true := by simp; omega
  have h2 : ¬ ((n : Int) < (m : Int)) := by omega
  have h3 : (m : Int) < (n : Int) := by omega
  go_enter Tryz.func139, Tryz.ntmps139
  go_wp2_with fail
  go_returns
  exact ⟨rfl, rfl⟩
theorem smear (t y d : Nat) (D : Int) (hD : D = (d : Int)) (h1 : 2 ^ (t - 1) ≤ y) (h2 : y < 2 ^ t) (ht : t ≤ 64) : ∃ z : Nat, bits .or .u64 (y : Int) ((y : Int) / D) = (z : Int) ∧ 2 ^ (t - 1) ≤ z ∧ z < 2 ^ t := by
  have hy : y < 18446744073709551616 := Nat.lt_of_lt_of_le h2 (show 2 ^ t ≤ 2 ^ 64 from Nat.pow_le_pow_right (by decide) ht)
  have hdl := Nat.div_le_self y d
  subst hD
  refine ⟨y ||| y / d, ?_, Nat.le_trans h1 Nat.left_le_or, Nat.or_lt_two_pow h2 (by omega)⟩
  rw [← u64_or_nat y (y / d) hy (by omega)]
  rfl
theorem bitLen_of (z t : Nat) (h1 : 2 ^ (t - 1) ≤ z) (h2 : z < 2 ^ t) (ht : t ≤ 64) : Lib.bitLen z = t := by
  have hz : z < 2 ^ 64 := Nat.lt_of_lt_of_le h2 (Nat.pow_le_pow_right (by decide) ht)
  have hp : 0 < 2 ^ (t - 1) := Nat.pow_pos (by decide)
  have hb := Lib.bitLenAux_bounds 64 z hz (by omega)
  show Lib.bitLenAux 64 z = t
  generalize Lib.bitLenAux 64 z = L at *
  rcases Nat.lt_trichotomy L t with a | a | a
  · have : 2 ^ L ≤ 2 ^ (t - 1) := Nat.pow_le_pow_right (by decide) (by omega)
    omega
  · exact a
  · have : 2 ^ t ≤ 2 ^ (L - 1) := Nat.pow_le_pow_right (by decide) (by omega)
    omega
theorem pow64 (n : Nat) : 18446744073709551616 ^ n = 2 ^ (64 * n) := by
  rw [show (18446744073709551616 : Nat) = 2 ^ 64 from by decide, ← Nat.pow_mul]
theorem bitLen_c (b n c X : Nat) (w : World) (hX : Ws w b 0 n X) (hn : 1 ≤ n) (hn1 : n ≤ 1000) (hN : Nrm X n) :
    Calls Tryz.prog 123 #[.slice (some ⟨b, 0, none⟩) n c] w fun e w' => ∃ L : Nat, e = .returned (.int .i64 L) ∧ 1 ≤ L ∧ 2 ^ (L - 1) ≤ X ∧ X < 2 ^ L ∧ L ≤ 64 * n ∧ w' = w := by
  have ct := hX (n - 1) (by omega)
  rw [Nat.zero_add] at ct
  have hx : wd X (n - 1) = X / 18446744073709551616 ^ (n - 1) := wd_top (by rw [show n - 1 + 1 = n from by omega]; exact hN.1)
  have hx1 : 1 ≤ wd X (n - 1) := by
    rw [hx]; exact (Nat.div_pos_iff.2 ⟨bp_pos _, hN.2 (by omega)⟩)
  have hlt := wd_lt X (n - 1)
  have hxl : ∃ t, 1 ≤ t ∧ t ≤ 64 ∧ 2 ^ (t - 1) ≤ wd X (n - 1) ∧ wd X (n - 1) < 2 ^ t := by
    have hb := Lib.bitLenAux_bounds 64 (wd X (n - 1)) hlt (by omega)
    refine ⟨_, hb.1, ?_, hb.2⟩
    refine Nat.le_of_not_lt (fun h => ?_)
    have : 2 ^ 64 ≤ 2 ^ (Lib.bitLenAux 64 (wd X (n - 1)) - 1) := Nat.pow_le_pow_right (by decide) (by omega)
    omega
  obtain ⟨t, t0, t1, t2, t3⟩ := hxl
  have hL : 2 ^ (64 * (n - 1) + t - 1) ≤ X ∧ X < 2 ^ (64 * (n - 1) + t) := by
    have hdm := Nat.div_add_mod X (18446744073709551616 ^ (n - 1))
    have hml := Nat.mod_lt X (bp_pos (n - 1))
    rw [hx] at t2 t3
    rw [pow64] at t2 t3
    rw [show 64 * (n - 1) + t - 1 = (t - 1) + 64 * (n - 1) from by omega, show 64 * (n - 1) + t = t + 64 * (n - 1) from by omega, Nat.pow_add, Nat.pow_add]
    have hp : 0 < 2 ^ (64 * (n - 1)) := Nat.pow_pos (by decide)
    exact ⟨(Nat.le_div_iff_mul_le hp).1 t2, (Nat.div_lt_iff_lt_mul hp).1 t3⟩
  obtain ⟨z1, a1, a2, a3⟩ := smear t (wd X (n - 1)) 2 2 rfl t2 t3 t1
  obtain ⟨z2, b1, b2, b3⟩ := smear t z1 4 4 rfl a2 a3 t1
  obtain ⟨z3, c1, c2, c3⟩ := smear t z2 16 16 rfl b2 b3 t1
  obtain ⟨z4, d1, d2, d3⟩ := smear t z3 256 256 rfl c2 c3 t1
  obtain ⟨z5, e1, e2, e3⟩ := smear t z4 65536 65536 rfl d2 d3 t1
  obtain ⟨z6, f1, f2, f3⟩ := smear t z5 4294967296 4294967296 rfl e2 e3 t1
  have h64 : ∀ z : Nat, z < 2 ^ t → z < 18446744073709551616 := fun z h => Nat.lt_of_lt_of_le h (show 2 ^ t ≤ 2 ^ 64 from Nat.pow_le_pow_right (by decide) t1)
  have g1 := h64 z1 a3
  have g2 := h64 z2 b3
  have g3 := h64 z3 c3
  have g4 := h64 z4 d3
  have g5 := h64 z5 e3
  have g6 := h64 z6 f3
  have KL := Tryz.bits_Len (z6 : Int) w (by omega) (by omega)
  rw [Int.toNat_natCast, bitLen_of z6 t f2 f3 t1] at KL
  have K := Lib.hid hL
  have KL2 := Lib.hid KL
  clear KL hL hX hN hx hx1 a2 a3 b2 b3 c2 c3 d2 d3 e2 e3 f2 f3 t2 t3 h64
  generalize wd X (n - 1) = x at *
  have s1 : (n : Int) - 1 = ((n - 1 : Nat) : Int) := by omega
  have hp : 0 ≤ (n : Int) - 1 := by omega
  have f5 : bits .or .u64 (z5 : Int) ((z5 : Int) / 65536 / 65536) = (z6 : Int) := by
    rw [show (z5 : Int) / 65536 / 65536 = (z5 : Int) / 4294967296 from by omega]; exact f1
  clear f1
  go_enter Tryz.func123, Tryz.ntmps123
  go_wp2_with fail
  refine KL2.out.mono ?_
  rintro e w' ⟨rfl, rfl⟩
  go_wp2_with fail
  go_returns
  refine ⟨64 * (n - 1) + t, ?_, by omega, K.out.1, K.out.2, by omega, rfl⟩
  exact congrArg (fun x : Int => Ending.returned (.int .i64 x)) (by omega)
end Go.Proofs.YtldejfallphhbaaGreatDoor
namespace Go.Proofs.YtldejfallphhbaaGreatDoor
open Go.RowKit
theorem add_none (b o j : Nat) : (⟨b, o, none⟩ : Addr).add j = ⟨b, o + j, none⟩ := by unfold Addr.add; split <;> simp_all
theorem copy_o (b ob c bx ox n cx N X : Nat) (w : World) (hB : Blk w b N) (hN : ob + n ≤ N) (hX : Ws w bx ox n X) :
    (∀ ty, (Builtin.copy_ #[101, 101] ty #[.slice (some ⟨b, ob, none⟩) n c, .slice (some ⟨bx, ox, none⟩) n cx]).run Tryz.prog w = .ok (.int .i64 n) (w.setCells b ob (wvs X n))) ∧
      Ws (w.setCells b ob (wvs X n)) b ob n X ∧ ∀ w0 S, Fr w0 w S → (∀ j, j < n → b < w0.heap.size → S b (ob + j)) → Fr w0 (w.setCells b ob (wvs X n)) S := by
  have hs : (Tryz.prog.info? 143).map (·.size) = some 1 := by kernel_rfl
  have hcell : ∀ j, j < (wvs X n).length → (w.cell? ⟨b, ob + j, none⟩).isSome = true := fun j hj => by
    rw [wvs_len] at hj
    obtain ⟨v, hv⟩ := hB.here (ob + j) (by omega)
    rw [hv]; rfl
  have hF : ∀ w0 S, Fr w0 w S → (∀ j, j < n → b < w0.heap.size → S b (ob + j)) → Fr w0 (w.setCells b ob (wvs X n)) S := fun w0 S h hS => Fr.setCells b _ ob w h (fun j hj hb => by rw [wvs_len] at hj; exact hS j hj hb)
  refine ⟨fun ty => ?_, fun i hi => ?_, hF⟩
  · have h := run_copy_cells (P := Tryz.prog) w 101 101 ty 143 b ob n c ⟨bx, ox, none⟩ n cx (wvs X n) Tryz.underlying101 hs (by rw [wvs_len]; exact (Nat.min_self n).symm)
      (fun j v hv => by
        have hj : j < n := by
          have := (List.getElem?_eq_some_iff.1 hv).1
          rwa [wvs_len] at this
        rw [wvs_at X n j hj] at hv
        rw [add_none, ← Option.some.inj hv]
        exact hX j hj)
      hcell (fun j hj => hB.fz _)
      (fun v hv => by
        simp only [wvs, List.mem_map] at hv
        obtain ⟨i, _, rfl⟩ := hv
        rfl)
    rw [wvs_len] at h
    exact h
  · have h := World.cell?_setCells_in b (wvs X n) ob w hcell i (by rw [wvs_len]; exact hi)
    rw [h]
    have := wvs_at X n i hi
    rw [List.getElem?_eq_getElem (by rw [wvs_len]; exact hi)] at this
    exact this
theorem Sto.fr {w w' : World} {S : Nat → Nat → Prop} {v : Value} {b : Nat} (h : Sto w v b) (hf : Fr w w' S) : Sto w' v b := by
  rcases h with h | ⟨l, c, h1, h2, h3, h4⟩
  · exact Or.inl h
  · exact Or.inr ⟨l, c, h1, h2, h3, h4.fr hf⟩
theorem Sto.lt {w : World} {v : Value} {b : Nat} (h : Sto w v b) (hn : v ≠ .slice none 0 0) : b < w.heap.size := by
  rcases h with h | ⟨l, c, h1, h2, h3, h4⟩
  · exact absurd h hn
  · exact h4.lt
end Go.Proofs.YtldejfallphhbaaGreatDoor
namespace Go.Proofs.YtldejfallphhbaaGreatDoor.Ref
def dg (l : List Int) (i : Nat) : Nat := if i < l.length then (l.getD (l.length - 1 - i) 0).toNat else 0
def S (f : Nat → Nat) : Nat → Nat
  | 0 => 0
  | n + 1 => S f n + f n * 256 ^ n
def val (l : List Int) : Nat := S (dg l) l.length
def Byt (l : List Int) : Prop := ∀ x ∈ l, 0 ≤ x ∧ x < 256
structure Can (l : List Int) (N : Nat) : Prop where
  byt : Byt l
  val : val l = N
  top : l.getD 0 1 ≠ 0
theorem S_congr {f g : Nat → Nat} : ∀ {n : Nat}, (∀ j, j < n → f j = g j) → S f n = S g n
  | 0, _ => rfl
  | n + 1, h => by
    show S f n + f n * 256 ^ n = S g n + g n * 256 ^ n
    rw [S_congr (fun j hj => h j (by omega)), h n (by omega)]
theorem S_more {f : Nat → Nat} {n : Nat} : ∀ {m : Nat}, n ≤ m → (∀ j, n ≤ j → j < m → f j = 0) → S f m = S f n
  | 0, h, _ => by obtain rfl : n = 0 := by omega
                  rfl
  | m + 1, h, h0 => by
    by_cases e : n = m + 1
    · subst e; rfl
    · show S f m + f m * 256 ^ m = _
      rw [S_more (by omega) (fun j h1 h2 => h0 j h1 (by omega)), h0 m (by omega) (by omega), Nat.zero_mul, Nat.add_zero]
theorem S_lt {f : Nat → Nat} : ∀ {n : Nat}, (∀ j, j < n → f j < 256) → S f n < 256 ^ n
  | 0, _ => Nat.zero_lt_one
  | n + 1, h => by
    have h1 := S_lt (n := n) (fun j hj => h j (by omega))
    have h2 := h n (by omega)
    have h3 : f n * 256 ^ n ≤ 255 * 256 ^ n := Nat.mul_le_mul_right _ (by omega)
    show S f n + f n * 256 ^ n < 256 ^ (n + 1)
    rw [Nat.pow_succ]
    omega
theorem dg_lt {l : List Int} (h : Byt l) (i : Nat) : dg l i < 256 := by
  unfold dg
  split
  · rename_i hi
    have hm : l.getD (l.length - 1 - i) 0 ∈ l := by
      rw [List.getD, List.getElem?_eq_getElem (by omega : l.length - 1 - i < l.length)]
      exact List.getElem_mem _
    have := h _ hm
    omega
  · decide
theorem dg_ge {l : List Int} {i : Nat} (h : l.length ≤ i) : dg l i = 0 := by
  unfold dg
  rw [if_neg (by omega)]
theorem val_eq {l : List Int} {n : Nat} (h : l.length ≤ n) : S (dg l) n = val l := S_more h (fun _ hj _ => dg_ge hj)
theorem val_lt {l : List Int} (h : Byt l) : val l < 256 ^ l.length := S_lt (fun j _ => dg_lt h j)
theorem dg_cons (x : Int) (l : List Int) (i : Nat) : dg (x :: l) i = if i = l.length then x.toNat else dg l i := by
  unfold dg
  rw [List.length_cons]
  by_cases e : i = l.length
  · subst e
    rw [if_pos (by omega), if_pos rfl, show l.length + 1 - 1 - l.length = 0 from by omega]
    rfl
  · rw [if_neg e]
    by_cases h : i < l.length
    · rw [if_pos (by omega), if_pos h, show l.length + 1 - 1 - i = (l.length - 1 - i) + 1 from by omega]
      simp [List.getD]
    · rw [if_neg (by omega), if_neg h]
theorem val_cons (x : Int) (l : List Int) : val (x :: l) = x.toNat * 256 ^ l.length + val l := by
  unfold val
  rw [List.length_cons]
  show S (dg (x :: l)) l.length + dg (x :: l) l.length * 256 ^ l.length = _
  rw [S_congr (g := dg l) (fun j hj => by rw [dg_cons, if_neg (by omega)]), dg_cons, if_pos rfl, Nat.add_comm]
theorem val_nil : val [] = 0 := rfl
theorem dg_set {l : List Int} {i : Nat} (hi : i < l.length) (v : Int) (j : Nat) : dg (l.set (l.length - 1 - i) v) j = if j = i then v.toNat else dg l j := by
  unfold dg
  rw [List.length_set]
  by_cases hj : j < l.length
  · rw [if_pos hj, if_pos hj]
    by_cases e : j = i
    · subst e
      rw [if_pos rfl, List.getD, List.getElem?_set_self (by omega)]
      rfl
    · rw [if_neg e, List.getD, List.getD, List.getElem?_set_ne (by omega)]
  · rw [if_neg hj, if_neg hj, if_neg (by omega)]
theorem dg_zeros (n j : Nat) : dg (List.replicate n 0) j = 0 := by
  unfold dg
  split
  · rename_i h
    rw [List.length_replicate] at h
    rw [List.getD, List.getElem?_replicate]
    split <;> rfl
  · rfl
theorem S_zero (n : Nat) : ∀ {f : Nat → Nat}, (∀ j, j < n → f j = 0) → S f n = 0 := fun h => by
  rw [S_more (n := 0) (m := n) (Nat.zero_le _) (fun j _ hj => h j hj)]; rfl
theorem Byt.set {l : List Int} (h : Byt l) (i : Nat) {v : Int} (h0 : 0 ≤ v) (h1 : v < 256) : Byt (l.set i v) := fun x hx => by
  rcases List.mem_or_eq_of_mem_set hx with hx | rfl
  · exact h x hx
  · exact ⟨h0, h1⟩
theorem Byt.zeros (n : Nat) : Byt (List.replicate n 0) := fun x hx => by
  obtain ⟨_, rfl⟩ := List.mem_replicate.1 hx
  decide
theorem Byt.tail {x : Int} {l : List Int} (h : Byt (x :: l)) : Byt l := fun y hy => h y (List.mem_cons_of_mem _ hy)
theorem Byt.getD {l : List Int} (h : Byt l) (i : Nat) : 0 ≤ l.getD i 0 ∧ l.getD i 0 < 256 := by
  by_cases hi : i < l.length
  · have hm : l.getD i 0 ∈ l := by
      rw [List.getD, List.getElem?_eq_getElem hi]
      exact List.getElem_mem _
    exact h _ hm
  · rw [List.getD, List.getElem?_eq_none (by omega)]; decide
theorem Can.low {l : List Int} {N : Nat} (h : Can l N) (h0 : 0 < l.length) : 256 ^ (l.length - 1) ≤ N := by
  obtain ⟨hb, rfl, ht⟩ := h
  match l, h0 with
  | x :: l, _ =>
    have hx := hb x (by simp)
    have hx0 : x ≠ 0 := by simpa [List.getD] using ht
    rw [val_cons, List.length_cons, Nat.add_sub_cancel]
    have : 1 * 256 ^ l.length ≤ x.toNat * 256 ^ l.length := Nat.mul_le_mul_right _ (by omega)
    omega
theorem Can.len_le {l : List Int} {N n : Nat} (h : Can l N) (hN : N < 256 ^ n) : l.length ≤ n := by
  by_cases h0 : 0 < l.length
  · have h1 := h.low h0
    have h2 : 256 ^ (l.length - 1) < 256 ^ n := Nat.lt_of_le_of_lt h1 hN
    have := (Nat.pow_lt_pow_iff_right (by decide : 1 < 256)).1 h2
    omega
  · omega
theorem Can.zero_iff {l : List Int} {N : Nat} (h : Can l N) : l.length = 0 ↔ N = 0 := by
  constructor
  · intro e
    rw [← h.val, List.eq_nil_of_length_eq_zero e]; rfl
  · intro e
    by_cases h0 : 0 < l.length
    · have h1 := h.low h0
      have : 0 < 256 ^ (l.length - 1) := Nat.pow_pos (by decide)
      omega
    · omega
theorem Can.nil : Can [] 0 := ⟨fun _ h => (by cases h), rfl, by decide⟩
theorem Can.unique {a b : List Int} {N : Nat} (ha : Can a N) (hb : Can b N) : a = b := by
  have hl : a.length = b.length := by
    have h1 := ha.len_le (n := b.length) (by rw [← hb.val]; exact val_lt hb.byt)
    have h2 := hb.len_le (n := a.length) (by rw [← ha.val]; exact val_lt ha.byt)
    omega
  have hv : _root_.Go.Proofs.YtldejfallphhbaaGreatDoor.Ref.val a = _root_.Go.Proofs.YtldejfallphhbaaGreatDoor.Ref.val b := ha.val.trans hb.val.symm
  have hA := ha.byt
  have hB := hb.byt
  clear ha hb
  induction a generalizing b with
  | nil => exact (List.eq_nil_of_length_eq_zero hl.symm).symm
  | cons x a ih =>
    match b, hl with
    | y :: b, hl =>
      have hl' : a.length = b.length := by simpa using hl
      rw [val_cons, val_cons, hl'] at hv
      have h1 : _root_.Go.Proofs.YtldejfallphhbaaGreatDoor.Ref.val a < 256 ^ b.length := hl' ▸ val_lt hA.tail
      have h2 := val_lt hB.tail
      have hx := hA x (by simp)
      have hy := hB y (by simp)
      have hxy : x.toNat = y.toNat := by
        rcases Nat.lt_trichotomy x.toNat y.toNat with h | h | h
        · have : (x.toNat + 1) * 256 ^ b.length ≤ y.toNat * 256 ^ b.length := Nat.mul_le_mul_right _ h
          rw [Nat.add_mul] at this
          omega
        · exact h
        · have : (y.toNat + 1) * 256 ^ b.length ≤ x.toNat * 256 ^ b.length := Nat.mul_le_mul_right _ h
          rw [Nat.add_mul] at this
          omega
      rw [hxy] at hv
      rw [show x = y from by omega, ih hl' (by omega) hA.tail hB.tail]
end Go.Proofs.YtldejfallphhbaaGreatDoor.Ref
