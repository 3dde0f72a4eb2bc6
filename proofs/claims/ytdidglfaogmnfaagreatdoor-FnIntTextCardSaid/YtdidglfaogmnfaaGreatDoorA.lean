/-
  A part of the proof of FnIntText: what is said of memory; rows of words; the plain laws of words and of long division.
-/
import Derived.WalkKit
import Derived.Laws.Rows
import Derived.Laws.AppendOwn
import Derived.Below
import Derived.PlainAid
import Derived.BigQuiet
import Derived.Deep.QuietTactic
namespace Go.Proofs.YtdidglfaogmnfaaGreatDoor

/-- w' is w but for cells of blocks of w that S names, for new blocks, and draws -/
structure Fr (w w' : World) (S : Nat → Nat → Prop) : Prop where
  os : w'.os = w.os
  tape : w'.tape = w.tape
  output : w'.output = w.output
  size : w.heap.size ≤ w'.heap.size
  cell : ∀ k j, k < w.heap.size → ¬ S k j → w'.cell? ⟨k, j, none⟩ = w.cell? ⟨k, j, none⟩
  row : ∀ (k : Nat) (arr : Array Value) (T : TypeId), w.heap[k]? = some (.cells arr T (0, 0)) → ∃ arr' : Array Value, w'.heap[k]? = some (.cells arr' T (0, 0)) ∧ arr'.size = arr.size
  block : ∀ k, k < w.heap.size → (∀ j, ¬ S k j) → w'.heap[k]? = w.heap[k]?
/-- no cell -/
def No : Nat → Nat → Prop := fun _ _ => False
/-- the cells from o on, n of them, of block b -/
def Rg (b o n : Nat) : Nat → Nat → Prop := fun k j => k = b ∧ o ≤ j ∧ j < o + n
/-- all cells of block b -/
def Al (b : Nat) : Nat → Nat → Prop := fun k _ => k = b

theorem Fr.refl (w : World) (S : Nat → Nat → Prop) : Fr w w S :=
  ⟨rfl, rfl, rfl, Nat.le_refl _, fun _ _ _ _ => rfl, fun _ arr _ h => ⟨arr, h, rfl⟩, fun _ _ _ => rfl⟩
theorem Fr.drewN {w w' : World} {S : Nat → Nat → Prop} (h : Fr w w' S) (n : Nat) : Fr w (w'.drewN n) S := ⟨h.os, h.tape, h.output, h.size, h.cell, h.row, h.block⟩
theorem Fr.drew {w w' : World} {S : Nat → Nat → Prop} (h : Fr w w' S) : Fr w w'.drew S := ⟨h.os, h.tape, h.output, h.size, h.cell, h.row, h.block⟩
theorem Fr.alloc {w w' : World} {S : Nat → Nat → Prop} (h : Fr w w' S) (o : Obj) : Fr w (w'.alloc o) S := by
  have hs : ∀ k, k < w.heap.size → (w'.alloc o).heap[k]? = w'.heap[k]? := fun k hk => (by show (w'.heap.push o)[k]? = _; rw [Array.getElem?_push, if_neg (by have := Nat.lt_of_lt_of_le hk h.size; omega)])
  refine ⟨h.os, h.tape, h.output, Nat.le_trans h.size (by show _ ≤ (w'.heap.push o).size; simp), fun k j hk hS => ?_, fun k arr T hk => ?_, fun k hk hS => (hs k hk).trans (h.block k hk hS)⟩
  · rw [← h.cell k j hk hS]; simp [World.cell?, hs k hk]
  · obtain ⟨arr', h1, h2⟩ := h.row k arr T hk
    exact ⟨arr', (hs k (Array.getElem?_eq_some_iff.1 hk).1).trans h1, h2⟩
theorem Fr.set {w w' : World} {S : Nat → Nat → Prop} (h : Fr w w' S) (b i : Nat) (v : Value) (hb : b < w.heap.size → S b i) : Fr w (w'.setCell ⟨b, i, none⟩ v) S := by
  have hsz : (w'.setCell ⟨b, i, none⟩ v).heap.size = w'.heap.size := by simp [World.setCell]
  refine ⟨h.os, h.tape, h.output, by rw [hsz]; exact h.size, fun k j hk hS => ?_, fun k arr T hk => ?_, fun k hk hS => ?_⟩
  · rw [← h.cell k j hk hS]
    have hne : ¬ (k = b ∧ j = i) := fun e => hS (by rw [e.1, e.2]; exact hb (e.1 ▸ hk))
    simp only [World.cell?, World.setCell, Array.getElem?_modify]
    by_cases e : b = k
    · subst e
      have hji : ¬ j = i := fun e => hne ⟨rfl, e⟩
      cases hh : w'.heap[b]? with
      | none => simp
      | some o =>
        cases o <;> simp [Ne.symm hji] <;> (try (intro e; exact absurd e.symm hji))
    · simp [e]
  · obtain ⟨arr', h1, h2⟩ := h.row k arr T hk
    by_cases e : k = b
    · subst e
      exact ⟨_, heap_setCell_same w' k i arr' T v h1, by simp [h2]⟩
    · exact ⟨arr', (heap_setCell_other w' ⟨b, i, none⟩ k v e).trans h1, h2⟩
  · have e : k ≠ b := fun e => hS i (by rw [e]; exact hb (e ▸ hk))
    exact (heap_setCell_other w' ⟨b, i, none⟩ k v e).trans (h.block k hk hS)
theorem Fr.trans {w w' w2 : World} {S S2 : Nat → Nat → Prop} (h : Fr w w' S) (h2 : Fr w' w2 S2) (hS : ∀ k j, k < w.heap.size → S2 k j → S k j) : Fr w w2 S := by
  refine ⟨h2.os.trans h.os, h2.tape.trans h.tape, h2.output.trans h.output, Nat.le_trans h.size h2.size, fun k j hk hn => ?_, fun k arr T hk => ?_, fun k hk hn => ?_⟩
  · exact (h2.cell k j (Nat.lt_of_lt_of_le hk h.size) (fun c => hn (hS k j hk c))).trans (h.cell k j hk hn)
  · obtain ⟨a1, h3, h4⟩ := h.row k arr T hk
    obtain ⟨a2, h5, h6⟩ := h2.row k a1 T h3
    exact ⟨a2, h5, h6.trans h4⟩
  · exact (h2.block k (Nat.lt_of_lt_of_le hk h.size) (fun j c => hn j (hS k j hk c))).trans (h.block k hk hn)
theorem Fr.weaken {w w' : World} {S S2 : Nat → Nat → Prop} (h : Fr w w' S) (hS : ∀ k j, k < w.heap.size → S k j → S2 k j) : Fr w w' S2 :=
  ⟨h.os, h.tape, h.output, h.size, fun k j hk hn => h.cell k j hk (fun c => hn (hS k j hk c)), h.row, fun k hk hn => h.block k hk (fun j c => hn j (hS k j hk c))⟩
theorem Fr.no {w w' : World} {S : Nat → Nat → Prop} (h : Fr w w' No) : Fr w w' S := h.weaken (fun _ _ _ c => c.elim)

/-- block b is a row of n cells that may be written -/
def Blk (w : World) (b n : Nat) : Prop := ∃ (arr : Array Value) (T : TypeId), w.heap[b]? = some (.cells arr T (0, 0)) ∧ arr.size = n
theorem Blk.fr {w w' : World} {S : Nat → Nat → Prop} {b n : Nat} (h : Blk w b n) (hf : Fr w w' S) : Blk w' b n := by
  obtain ⟨arr, T, h1, h2⟩ := h
  obtain ⟨a2, h3, h4⟩ := hf.row b arr T h1
  exact ⟨a2, T, h3, h4.trans h2⟩
theorem Blk.lt {w : World} {b n : Nat} (h : Blk w b n) : b < w.heap.size := by
  obtain ⟨arr, T, h1, _⟩ := h
  exact (Array.getElem?_eq_some_iff.1 h1).1
theorem Blk.fz {w : World} {b n : Nat} (h : Blk w b n) (i : Nat) : w.frozen? ⟨b, i, none⟩ = false := by
  obtain ⟨arr, T, h1, _⟩ := h
  exact frozen_of_row w b i arr T h1
theorem Blk.get {w : World} {b n : Nat} (h : Blk w b n) (i : Nat) (hi : i < n) (v : Value) : (w.setCell ⟨b, i, none⟩ v).cell? ⟨b, i, none⟩ = some v := by
  obtain ⟨arr, T, h1, h2⟩ := h
  rw [cell_of_row _ b i _ T (0, 0) (heap_setCell_same w b i arr T v h1), Array.getElem?_setIfInBounds, if_pos rfl, if_pos (by omega)]
theorem Blk.here {w : World} {b n : Nat} (h : Blk w b n) (i : Nat) (hi : i < n) : ∃ v, w.cell? ⟨b, i, none⟩ = some v := by
  obtain ⟨arr, T, h1, h2⟩ := h
  exact ⟨arr[i], by rw [cell_of_row w b i arr T (0, 0) h1, Array.getElem?_eq_getElem (by omega)]⟩
theorem cell_set_ne (w : World) (b i k j : Nat) (v : Value) (h : ¬ (k = b ∧ j = i)) : (w.setCell ⟨b, i, none⟩ v).cell? ⟨k, j, none⟩ = w.cell? ⟨k, j, none⟩ := by
  simp only [World.cell?, World.setCell, Array.getElem?_modify]
  by_cases e : b = k
  · subst e
    have hji : ¬ j = i := fun e => h ⟨rfl, e⟩
    cases hh : w.heap[b]? with
    | none => simp
    | some o => cases o <;> simp [Ne.symm hji] <;> (try (intro e; exact absurd e.symm hji))
  · simp [e]
theorem cell_lt {w : World} {b i : Nat} {v : Value} (h : w.cell? ⟨b, i, none⟩ = some v) : b < w.heap.size := World.block_lt_of_cell? w _ h
theorem Fr.keep {w w' : World} {S : Nat → Nat → Prop} (hf : Fr w w' S) {b i : Nat} {v : Value} (h : w.cell? ⟨b, i, none⟩ = some v) (hS : ¬ S b i) : w'.cell? ⟨b, i, none⟩ = some v :=
  (hf.cell b i (cell_lt h) hS).trans h

/-- word i of a number, words of 64 bits, the least first -/
def wd (N i : Nat) : Nat := N / 18446744073709551616 ^ i % 18446744073709551616
theorem bp_pos (i : Nat) : 0 < 18446744073709551616 ^ i := Nat.pow_pos (by decide)
theorem wd_lt (N i : Nat) : wd N i < 18446744073709551616 := Nat.mod_lt _ (by decide)
theorem mod_step (N i : Nat) : N % 18446744073709551616 ^ (i + 1) = N % 18446744073709551616 ^ i + wd N i * 18446744073709551616 ^ i := by
  rw [Nat.pow_succ, Nat.mod_mul, Nat.mul_comm (18446744073709551616 ^ i)]; rfl
theorem wd_add_lt (R r i k : Nat) (hk : k < i) : wd (R + r * 18446744073709551616 ^ i) k = wd R k := by
  unfold wd
  obtain ⟨j, rfl⟩ : ∃ j, i = k + 1 + j := ⟨i - k - 1, by omega⟩
  rw [show r * 18446744073709551616 ^ (k + 1 + j) = (r * 18446744073709551616 ^ j * 18446744073709551616) * 18446744073709551616 ^ k from by
    rw [Nat.pow_add, Nat.pow_succ]; simp only [Nat.mul_assoc, Nat.mul_comm, Nat.mul_left_comm]]
  rw [Nat.add_mul_div_right _ _ (bp_pos k), Nat.add_mul_mod_self_right]
theorem wd_add_eq (R r i : Nat) (hR : R < 18446744073709551616 ^ i) (hr : r < 18446744073709551616) : wd (R + r * 18446744073709551616 ^ i) i = r := by
  unfold wd
  rw [Nat.add_mul_div_right _ _ (bp_pos i), Nat.div_eq_of_lt hR, Nat.zero_add, Nat.mod_eq_of_lt hr]
theorem lt_add (R r i : Nat) (hR : R < 18446744073709551616 ^ i) (hr : r < 18446744073709551616) : R + r * 18446744073709551616 ^ i < 18446744073709551616 ^ (i + 1) := by
  rw [Nat.pow_succ]
  obtain ⟨P, hP⟩ : ∃ P, P = 18446744073709551616 ^ i := ⟨_, rfl⟩
  rw [← hP] at hR ⊢
  have : (r + 1) * P ≤ 18446744073709551616 * P := Nat.mul_le_mul_right P hr
  rw [Nat.add_mul, Nat.one_mul] at this
  omega
theorem wd_ext (n : Nat) : ∀ N M : Nat, N < 18446744073709551616 ^ n → M < 18446744073709551616 ^ n → (∀ k, k < n → wd N k = wd M k) → N = M := by
  have : ∀ N M : Nat, (∀ k, k < n → wd N k = wd M k) → N % 18446744073709551616 ^ n = M % 18446744073709551616 ^ n := by
    induction n with
    | zero => intro N M _; rw [Nat.pow_zero, Nat.mod_one, Nat.mod_one]
    | succ n ih => intro N M h; rw [mod_step, mod_step, ih N M (fun k hk => h k (by omega)), h n (by omega)]
  intro N M hN hM h
  have := this N M h
  rwa [Nat.mod_eq_of_lt hN, Nat.mod_eq_of_lt hM] at this
theorem wd_zero_of_lt (N i : Nat) (h : N < 18446744073709551616 ^ i) : wd N i = 0 := by
  unfold wd; rw [Nat.div_eq_of_lt h]
theorem wd_zero (i : Nat) : wd 0 i = 0 := by unfold wd; rw [Nat.zero_div]
theorem lt_pow_le {N i k : Nat} (h : N < 18446744073709551616 ^ i) (hk : i ≤ k) : N < 18446744073709551616 ^ k :=
  Nat.lt_of_lt_of_le h (Nat.pow_le_pow_right (by decide) hk)

/-- divWW's guess, d's top bit set -/
theorem guess_law (d m x1 x0 : Nat) (hd2 : d < 18446744073709551616) (hd : 0 < d)
    (hm : m + 18446744073709551616 = 340282366920938463463374607431768211455 / d) (h1 : x1 < d) (h0 : x0 < 18446744073709551616) :
    d * ((m * x1 + x0) / 18446744073709551616 + x1) ≤ x1 * 18446744073709551616 + x0 ∧
      x1 * 18446744073709551616 + x0 < d * ((m * x1 + x0) / 18446744073709551616 + x1) + 18446744073709551616 + d := by
  have hA : d * (m + 18446744073709551616) ≤ 340282366920938463463374607431768211455 := by rw [hm]; exact Nat.mul_div_le _ _
  have hA2 : 340282366920938463463374607431768211455 < d * (m + 18446744073709551616) + d := by rw [hm]; exact Nat.lt_mul_div_succ _ hd
  obtain ⟨t, ht⟩ : ∃ t, t = m * x1 + x0 := ⟨_, rfl⟩
  rw [← ht]
  obtain ⟨s, hs⟩ : ∃ s, s = t / 18446744073709551616 := ⟨_, rfl⟩
  rw [← hs]
  have hq : t = s * 18446744073709551616 + t % 18446744073709551616 := by omega
  have hr : t % 18446744073709551616 < 18446744073709551616 := Nat.mod_lt _ (by decide)
  obtain ⟨r, hr'⟩ : ∃ r, r = t % 18446744073709551616 := ⟨_, rfl⟩
  rw [← hr'] at hq hr
  -- d * t
  have e1 : d * t = d * m * x1 + d * x0 := by rw [ht, Nat.mul_add, Nat.mul_assoc]
  have e2 : d * t = d * s * 18446744073709551616 + d * r := by rw [hq, Nat.mul_add, Nat.mul_assoc]
  have e3 : d * (s + x1) = d * s + d * x1 := Nat.mul_add _ _ _
  have b1 : d * r ≤ d * 18446744073709551615 := Nat.mul_le_mul_left d (by omega)
  have b2 : d * x0 ≤ 18446744073709551616 * x0 := Nat.mul_le_mul_right _ (by omega)
  have b3 : (18446744073709551616 - d) * x0 ≤ (18446744073709551616 - d) * 18446744073709551615 := Nat.mul_le_mul_left _ (by omega)
  rw [Nat.sub_mul, Nat.sub_mul] at b3
  have b4 : d * x1 + d ≤ d * d := by
    have := Nat.mul_le_mul_left d (show x1 + 1 ≤ d from h1)
    rwa [Nat.mul_add, Nat.mul_one] at this
  have b5 : d * d ≤ d * 18446744073709551615 := Nat.mul_le_mul_left d (by omega)
  have c1 : d * m * x1 + d * x1 * 18446744073709551616 ≤ 340282366920938463463374607431768211455 * x1 := by
    have := Nat.mul_le_mul_right x1 hA
    rw [Nat.mul_add, Nat.add_mul] at this
    rw [Nat.mul_right_comm d x1]
    exact this
  have c2 : 340282366920938463463374607431768211456 * x1 ≤ d * m * x1 + d * x1 * 18446744073709551616 + d * x1 := by
    have := Nat.mul_le_mul_right x1 (show 340282366920938463463374607431768211456 ≤ d * (m + 18446744073709551616) + d by omega)
    rw [Nat.add_mul, Nat.mul_add, Nat.add_mul] at this
    rw [Nat.mul_right_comm d x1]
    exact this
  obtain ⟨p, hp⟩ : ∃ p, p = d * m * x1 := ⟨_, rfl⟩
  obtain ⟨f, hf⟩ : ∃ f, f = d * x0 := ⟨_, rfl⟩
  obtain ⟨e, he⟩ : ∃ e, e = d * x1 := ⟨_, rfl⟩
  obtain ⟨D, hD⟩ : ∃ D, D = d * s := ⟨_, rfl⟩
  obtain ⟨g, hg⟩ : ∃ g, g = d * r := ⟨_, rfl⟩
  obtain ⟨dd, hdd⟩ : ∃ dd, dd = d * d := ⟨_, rfl⟩
  rw [e2] at e1
  rw [e3]
  rw [← hp] at e1 c1 c2
  rw [← hf] at e1 b2 b3
  rw [← he] at c1 c2 b4 ⊢
  rw [← hD] at e1 ⊢
  rw [← hg] at e1 b1
  rw [← hdd] at b4 b5
  clear hp hf he hD hg hdd e2 e3 ht hs hq hr' hm hA hA2
  omega

/-- Knuth's guess from three words by two is the quotient or one more -/
theorem knuth_law (P v V T U q : Nat) (hP : 0 < P) (hv : V * P ≤ v) (hv2 : v < (V + 1) * P) (hT : U * P ≤ T) (hT2 : T < (U + 1) * P)
    (h1 : q * V ≤ U) (h2 : U < (q + 1) * V) (hq : q ≤ V) (hV : 0 < V) : T / v ≤ q ∧ q ≤ T / v + 1 := by
  have hv0 : 0 < v := Nat.lt_of_lt_of_le (Nat.mul_pos hV hP) hv
  constructor
  · have : T < (q + 1) * v := by
      refine Nat.lt_of_lt_of_le hT2 (Nat.le_trans (Nat.mul_le_mul_right P h2) ?_)
      rw [Nat.mul_assoc]
      exact Nat.mul_le_mul_left _ hv
    exact Nat.le_of_lt_succ ((Nat.div_lt_iff_lt_mul hv0).2 this)
  · rcases Nat.eq_zero_or_pos q with e | e
    · rw [e]; exact Nat.zero_le _
    · obtain ⟨k, rfl⟩ : ∃ k, q = k + 1 := ⟨q - 1, by omega⟩
      have : k * v ≤ T := by
        refine Nat.le_trans (Nat.mul_le_mul_left k (Nat.le_of_lt hv2)) ?_
        rw [← Nat.mul_assoc]
        refine Nat.le_trans (Nat.mul_le_mul_right P ?_) hT
        rw [Nat.mul_add, Nat.mul_one]
        rw [Nat.add_mul, Nat.one_mul] at h1
        omega
      have := (Nat.le_div_iff_mul_le hv0).2 this
      omega
/-- where the top words are alike the guess is the greatest word -/
theorem knuth_top (P v a T : Nat) (hv : a * P ≤ v) (hv2 : v < (a + 1) * P) (ha : 9223372036854775808 ≤ a) (hP : 0 < P) (hT : a * P * 18446744073709551616 ≤ T) (hT2 : T < v * 18446744073709551616) :
    T / v ≤ 18446744073709551615 ∧ 18446744073709551615 ≤ T / v + 1 := by
  have hv0 : 0 < v := Nat.lt_of_lt_of_le (Nat.mul_pos (by omega) hP) hv
  constructor
  · have : T / v < 18446744073709551616 := (Nat.div_lt_iff_lt_mul hv0).2 (by rwa [Nat.mul_comm])
    omega
  · have : 18446744073709551614 * v ≤ T := by
      rw [Nat.add_mul, Nat.one_mul] at hv2
      have : 9223372036854775808 * P ≤ a * P := Nat.mul_le_mul_right P ha
      obtain ⟨z, hz⟩ : ∃ z, z = a * P := ⟨_, rfl⟩
      rw [← hz] at hv2 this hT
      omega
    have := (Nat.le_div_iff_mul_le hv0).2 this
    omega
/-- one word more of a long division -/
theorem step_law (X v j : Nat) (hv : 0 < v) (T : Nat) (hT : T = X / 18446744073709551616 ^ (j + 1) % v * 18446744073709551616 + wd X j) :
    wd (X / v) j = T / v ∧ X / 18446744073709551616 ^ j % v = T % v ∧ T < v * 18446744073709551616 := by
  have e : X / 18446744073709551616 ^ j = X / 18446744073709551616 ^ (j + 1) * 18446744073709551616 + wd X j := by
    unfold wd
    rw [Nat.pow_succ, ← Nat.div_div_eq_div_mul]
    omega
  obtain ⟨Y, hY⟩ : ∃ Y, Y = X / 18446744073709551616 ^ (j + 1) := ⟨_, rfl⟩
  rw [← hY] at e hT
  have hw := wd_lt X j
  have e2 : X / 18446744073709551616 ^ j = T + Y / v * 18446744073709551616 * v := by
    have h1 := Nat.div_add_mod Y v
    have h2 : (v * (Y / v) + Y % v) * 18446744073709551616 = Y * 18446744073709551616 := by rw [h1]
    rw [Nat.add_mul, Nat.mul_comm v, Nat.mul_right_comm] at h2
    omega
  have hlt : T < v * 18446744073709551616 := by
    have : Y % v < v := Nat.mod_lt _ hv
    omega
  refine ⟨?_, ?_, hlt⟩
  · have hq : T / v < 18446744073709551616 := (Nat.div_lt_iff_lt_mul hv).2 (by rwa [Nat.mul_comm])
    show X / v / 18446744073709551616 ^ j % 18446744073709551616 = T / v
    rw [Nat.div_div_eq_div_mul, Nat.mul_comm v, ← Nat.div_div_eq_div_mul, e2, Nat.add_mul_div_right _ _ hv, Nat.add_mul_mod_self_right, Nat.mod_eq_of_lt hq]
  · rw [e2, Nat.add_mul_mod_self_right]
/-- the subtraction of q*v from the section T, and the adding back of v -/
theorem sec_law (P v T q R c : Nat) (hv : v ≤ P) (hv0 : 0 < v) (hq : T / v ≤ q) (hq2 : q ≤ T / v + 1) (hR : R < 18446744073709551616 * P)
    (h : R + q * v = T + c * (18446744073709551616 * P)) (hc : c ≤ 1) :
    (c = 0 → q = T / v ∧ R = T % v) ∧ (c = 1 → q = T / v + 1 ∧ R / P = 18446744073709551615 ∧ R % P + v = P + T % v) := by
  have hd := Nat.div_add_mod T v
  have hm : T % v < v := Nat.mod_lt _ hv0
  obtain ⟨Q, hQ⟩ : ∃ Q, Q = T / v := ⟨_, rfl⟩
  obtain ⟨M, hM⟩ : ∃ M, M = T % v := ⟨_, rfl⟩
  rw [← hQ] at hq hq2 hd ⊢
  rw [← hM] at hm hd ⊢
  rw [Nat.mul_comm] at hd
  have hcase : q = Q ∨ q = Q + 1 := by omega
  constructor
  · rintro rfl
    rcases hcase with e | e
    · subst e; exact ⟨rfl, by omega⟩
    · subst e; rw [Nat.add_mul, Nat.one_mul] at h; omega
  · rintro rfl
    rcases hcase with e | e
    · subst e; omega
    · subst e
      rw [Nat.add_mul, Nat.one_mul, Nat.one_mul] at h
      have hr : R = (P - (v - M)) + 18446744073709551615 * P := by omega
      have hP : P - (v - M) < P := by omega
      have hP0 : 0 < P := by omega
      refine ⟨rfl, ?_, ?_⟩
      · rw [hr, Nat.add_mul_div_right _ _ hP0, Nat.div_eq_of_lt hP, Nat.zero_add]
      · rw [hr, Nat.add_mul_mod_self_right, Nat.mod_eq_of_lt hP]; omega

/-- the n cells from o on of block b are the words of N -/
def Ws (w : World) (b o n N : Nat) : Prop := ∀ i, i < n → w.cell? ⟨b, o + i, none⟩ = some (.int .u64 ((wd N i : Nat) : Int))
theorem Ws.fr {w w' : World} {S : Nat → Nat → Prop} {b o n N : Nat} (h : Ws w b o n N) (hf : Fr w w' S) (hS : ∀ i, i < n → ¬ S b (o + i)) : Ws w' b o n N :=
  fun i hi => hf.keep (h i hi) (hS i hi)
theorem Ws.less {w : World} {b o n m N : Nat} (h : Ws w b o n N) (hm : m ≤ n) : Ws w b o m N := fun i hi => h i (by omega)
theorem Ws.set_ne {w : World} {b o n N : Nat} (h : Ws w b o n N) (b2 i2 : Nat) (v : Value) (hne : ∀ i, i < n → ¬ (b = b2 ∧ o + i = i2)) : Ws (w.setCell ⟨b2, i2, none⟩ v) b o n N :=
  fun i hi => (cell_set_ne w b2 i2 b (o + i) v (hne i hi)).trans (h i hi)
/-- one word more -/
theorem Ws.next {w : World} {b o i R r n : Nat} (h : Ws w b o i R) (hB : Blk w b n) (hn : o + i < n) (hR : R < 18446744073709551616 ^ i) (hr : r < 18446744073709551616) :
    Ws (w.setCell ⟨b, o + i, none⟩ (.int .u64 (r : Int))) b o (i + 1) (R + r * 18446744073709551616 ^ i) := fun k hk => by
  by_cases e : k = i
  · subst e; rw [hB.get _ hn, wd_add_eq _ _ _ hR hr]
  · rw [cell_set_ne _ _ _ _ _ _ (by omega), h k (by omega), wd_add_lt _ _ _ _ (by omega)]

theorem mul_step {X y r0 R c i s c' : Nat} (h : R + c * 18446744073709551616 ^ i = X % 18446744073709551616 ^ i * y + r0) (e : wd X i * y + c = c' * 18446744073709551616 + s) :
    R + s * 18446744073709551616 ^ i + c' * 18446744073709551616 ^ (i + 1) = X % 18446744073709551616 ^ (i + 1) * y + r0 := by
  rw [mod_step, Nat.add_mul, Nat.pow_succ]
  generalize 18446744073709551616 ^ i = P at *
  have e2 : (wd X i * y + c) * P = (c' * 18446744073709551616 + s) * P := by rw [e]
  rw [Nat.add_mul, Nat.add_mul] at e2
  have e3 : wd X i * P * y = wd X i * y * P := by rw [Nat.mul_right_comm]
  have e4 : c' * (P * 18446744073709551616) = c' * 18446744073709551616 * P := by rw [Nat.mul_comm P, Nat.mul_assoc]
  omega
theorem add_step {Z Y R c i s c' : Nat} (h : R + c * 18446744073709551616 ^ i = Z % 18446744073709551616 ^ i + Y % 18446744073709551616 ^ i) (e : wd Z i + wd Y i + c = c' * 18446744073709551616 + s) :
    R + s * 18446744073709551616 ^ i + c' * 18446744073709551616 ^ (i + 1) = Z % 18446744073709551616 ^ (i + 1) + Y % 18446744073709551616 ^ (i + 1) := by
  rw [mod_step, mod_step, Nat.pow_succ]
  generalize 18446744073709551616 ^ i = P at *
  have e2 : (wd Z i + wd Y i + c) * P = (c' * 18446744073709551616 + s) * P := by rw [e]
  rw [Nat.add_mul, Nat.add_mul, Nat.add_mul] at e2
  have e4 : c' * (P * 18446744073709551616) = c' * 18446744073709551616 * P := by rw [Nat.mul_comm P, Nat.mul_assoc]
  omega
theorem sub_step {Z Y R c i s c' : Nat} (h : R + Y % 18446744073709551616 ^ i = Z % 18446744073709551616 ^ i + c * 18446744073709551616 ^ i) (e : s + wd Y i + c = wd Z i + c' * 18446744073709551616) :
    R + s * 18446744073709551616 ^ i + Y % 18446744073709551616 ^ (i + 1) = Z % 18446744073709551616 ^ (i + 1) + c' * 18446744073709551616 ^ (i + 1) := by
  rw [mod_step, mod_step, Nat.pow_succ]
  generalize 18446744073709551616 ^ i = P at *
  have e2 : (s + wd Y i + c) * P = (wd Z i + c' * 18446744073709551616) * P := by rw [e]
  rw [Nat.add_mul, Nat.add_mul, Nat.add_mul] at e2
  have e4 : c' * (P * 18446744073709551616) = c' * 18446744073709551616 * P := by rw [Nat.mul_comm P, Nat.mul_assoc]
  omega
/-- one more row of a product: the words from i on of the part, and the carry -/
theorem addmul_step {X Y m a R c i s c' : Nat} (h : R + c * 18446744073709551616 ^ i = X % 18446744073709551616 ^ i + Y % 18446744073709551616 ^ i * m + a) (e : wd X i + wd Y i * m + c = c' * 18446744073709551616 + s) :
    R + s * 18446744073709551616 ^ i + c' * 18446744073709551616 ^ (i + 1) = X % 18446744073709551616 ^ (i + 1) + Y % 18446744073709551616 ^ (i + 1) * m + a := by
  rw [mod_step, mod_step, Nat.add_mul, Nat.pow_succ]
  generalize 18446744073709551616 ^ i = P at *
  have e2 : (wd X i + wd Y i * m + c) * P = (c' * 18446744073709551616 + s) * P := by rw [e]
  rw [Nat.add_mul, Nat.add_mul, Nat.add_mul] at e2
  have e3 : wd Y i * P * m = wd Y i * m * P := by rw [Nat.mul_right_comm]
  have e4 : c' * (P * 18446744073709551616) = c' * 18446744073709551616 * P := by rw [Nat.mul_comm P, Nat.mul_assoc]
  omega
theorem eight_mod (X : Nat) : X % 18446744073709551616 = X % 256 + X / 256 % 256 * 256 + X / 65536 % 256 * 65536 + X / 16777216 % 256 * 16777216 + X / 4294967296 % 256 * 4294967296 + X / 1099511627776 % 256 * 1099511627776 + X / 281474976710656 % 256 * 281474976710656 + X / 72057594037927936 % 256 * 72057594037927936 := by omega
theorem bp256 (k : Nat) : 18446744073709551616 ^ k = 256 ^ (8 * k) := by
  rw [show (18446744073709551616 : Nat) = 256 ^ 8 from by decide, ← Nat.pow_mul]
theorem wd_byte (N k t : Nat) : N / 256 ^ (8 * k + t) % 256 = N / 18446744073709551616 ^ k / 256 ^ t % 256 := by
  rw [Nat.pow_add, ← bp256, Nat.div_div_eq_div_mul]
theorem wd_shift (N j k : Nat) : wd N (j + k) = wd (N / 18446744073709551616 ^ j) k := by
  unfold wd; rw [Nat.pow_add, Nat.div_div_eq_div_mul]
theorem wd_mod (X j i : Nat) (h : i < j) : wd (X % 18446744073709551616 ^ j) i = wd X i := by
  have e := Nat.div_add_mod X (18446744073709551616 ^ j)
  have h2 := wd_add_lt (X % 18446744073709551616 ^ j) (X / 18446744073709551616 ^ j) j i h
  rw [← h2, Nat.add_comm, Nat.mul_comm, e]
theorem wd_low (t X j i : Nat) (h : i < j) : wd (t * 18446744073709551616 ^ j + X % 18446744073709551616 ^ j) i = wd X i := by
  rw [Nat.add_comm, wd_add_lt _ _ _ _ h, wd_mod _ _ _ h]
theorem wd_high (t X j k : Nat) : wd (t * 18446744073709551616 ^ j + X % 18446744073709551616 ^ j) (j + k) = wd t k := by
  rw [wd_shift, Nat.mul_comm, Nat.mul_add_div (bp_pos j), Nat.div_eq_of_lt (Nat.mod_lt _ (bp_pos j)), Nat.add_zero]
/-- the section of a long division's row at place j -/
theorem sec_T (r X j : Nat) : (r * 18446744073709551616 ^ (j + 1) + X % 18446744073709551616 ^ (j + 1)) / 18446744073709551616 ^ j = r * 18446744073709551616 + wd X j := by
  rw [mod_step, Nat.pow_succ, Nat.mul_comm (18446744073709551616 ^ j), ← Nat.mul_assoc, show r * 18446744073709551616 * 18446744073709551616 ^ j + (X % 18446744073709551616 ^ j + wd X j * 18446744073709551616 ^ j) = X % 18446744073709551616 ^ j + (r * 18446744073709551616 + wd X j) * 18446744073709551616 ^ j from by rw [Nat.add_mul]; omega,
    Nat.add_mul_div_right _ _ (bp_pos j), Nat.div_eq_of_lt (Nat.mod_lt _ (bp_pos j)), Nat.zero_add]
theorem ten_div (X n k : Nat) : X / 10 ^ n / 10 ^ k = X / 10 ^ (n + k) := by rw [Nat.div_div_eq_div_mul, ← Nat.pow_add]
/-- a digit of a remainder, of a quotient -/
theorem dig_rem (X n k : Nat) (h : k < n) : X % 10 ^ n / 10 ^ k % 10 = X / 10 ^ k % 10 := by
  obtain ⟨j, rfl⟩ : ∃ j, n = k + 1 + j := ⟨n - k - 1, by omega⟩
  have e := Nat.div_add_mod X (10 ^ (k + 1 + j))
  have e2 : X = X % 10 ^ (k + 1 + j) + X / 10 ^ (k + 1 + j) * 10 ^ j * 10 * 10 ^ k := by
    rw [show X / 10 ^ (k + 1 + j) * 10 ^ j * 10 * 10 ^ k = 10 ^ (k + 1 + j) * (X / 10 ^ (k + 1 + j)) from by rw [show 10 ^ (k + 1 + j) = 10 ^ j * 10 * 10 ^ k from by rw [Nat.mul_assoc, ← Nat.pow_succ', ← Nat.pow_add]; congr 1; omega]; simp only [Nat.mul_assoc, Nat.mul_comm, Nat.mul_left_comm]]
    omega
  conv => rhs; rw [e2]
  rw [Nat.add_mul_div_right _ _ (Nat.pow_pos (by decide)), Nat.add_mul_mod_self_right]
/-- three words by two: the test of the refined guess -/
theorem refine_iff {q a b h u1 u2 r : Nat} (e : q * a + r = h * 18446744073709551616 + u1) :
    q * (a * 18446744073709551616 + b) ≤ (h * 18446744073709551616 + u1) * 18446744073709551616 + u2 ↔ q * b ≤ r * 18446744073709551616 + u2 := by
  rw [← e, Nat.mul_add, ← Nat.mul_assoc, Nat.add_mul]
  clear e
  generalize q * a = y
  generalize q * b = z
  omega
theorem guess_first {a b h u1 u2 : Nat} (ha : 0 < a) (hu2 : u2 < 18446744073709551616) :
    (h * 18446744073709551616 + u1) * 18446744073709551616 + u2 < ((h * 18446744073709551616 + u1) / a + 1) * (a * 18446744073709551616 + b) := by
  obtain ⟨z, hz⟩ : ∃ z, z = h * 18446744073709551616 + u1 := ⟨_, rfl⟩
  rw [← hz]
  have h1 : z < (z / a + 1) * a := by rw [Nat.mul_comm]; exact Nat.lt_mul_div_succ z ha
  rw [Nat.mul_add, ← Nat.mul_assoc]
  obtain ⟨y, hy⟩ : ∃ y, y = (z / a + 1) * a := ⟨_, rfl⟩
  obtain ⟨y2, hy2⟩ : ∃ y2, y2 = (z / a + 1) * b := ⟨_, rfl⟩
  rw [← hy] at h1 ⊢
  rw [← hy2]
  clear hz hy hy2 ha
  omega
theorem guess_less {a h u1 : Nat} (hh : h < a) (hu : u1 < 18446744073709551616) : (h * 18446744073709551616 + u1) / a < 18446744073709551616 := by
  refine (Nat.div_lt_iff_lt_mul (by omega)).2 ?_
  have : (h + 1) * 18446744073709551616 ≤ a * 18446744073709551616 := Nat.mul_le_mul_right _ hh
  omega
theorem wd_top {T n : Nat} (h : T < 18446744073709551616 ^ (n + 1)) : wd T n = T / 18446744073709551616 ^ n := by
  unfold wd
  rw [Nat.mod_eq_of_lt]
  refine (Nat.div_lt_iff_lt_mul (bp_pos n)).2 ?_
  rwa [Nat.pow_succ, Nat.mul_comm] at h
theorem div_words (T n : Nat) : T / 18446744073709551616 ^ n = T / 18446744073709551616 ^ (n + 1) * 18446744073709551616 + wd T n := by
  unfold wd
  rw [Nat.pow_succ, ← Nat.div_div_eq_div_mul]
  omega
theorem div_bounds (v P : Nat) (hP : 0 < P) : v / P * P ≤ v ∧ v < (v / P + 1) * P := by
  have h1 := Nat.div_mul_le_self v P
  have h2 := Nat.lt_mul_div_succ v hP
  rw [Nat.mul_comm] at h2
  exact ⟨h1, h2⟩
/-- what divBasic's guess is worth; n = k + 2 words -/
theorem round_law (v T k q : Nat) (hv : 9223372036854775808 * 18446744073709551616 ^ (k + 1) ≤ v) (hv2 : v < 18446744073709551616 ^ (k + 2)) (hT : T < v * 18446744073709551616) :
    wd T (k + 2) ≤ wd v (k + 1) ∧
    (wd T (k + 2) = wd v (k + 1) → T / v ≤ 18446744073709551615 ∧ 18446744073709551615 ≤ T / v + 1) ∧
    (wd T (k + 2) < wd v (k + 1) → q ≤ 18446744073709551615 → q * (wd v (k + 1) * 18446744073709551616 + wd v k) ≤ (wd T (k + 2) * 18446744073709551616 + wd T (k + 1)) * 18446744073709551616 + wd T k →
      (wd T (k + 2) * 18446744073709551616 + wd T (k + 1)) * 18446744073709551616 + wd T k < (q + 1) * (wd v (k + 1) * 18446744073709551616 + wd v k) → T / v ≤ q ∧ q ≤ T / v + 1) := by
  have hT3 : T < 18446744073709551616 ^ (k + 3) := by
    refine Nat.lt_of_lt_of_le hT ?_
    rw [show k + 3 = (k + 2) + 1 from rfl, Nat.pow_succ 18446744073709551616 (k + 2)]
    exact Nat.mul_le_mul_right _ (Nat.le_of_lt hv2)
  have tT := wd_top hT3
  have tv := wd_top hv2
  have hP1 := bp_pos (k + 1)
  have bv := div_bounds v (18446744073709551616 ^ (k + 1)) hP1
  have bT := div_bounds T (18446744073709551616 ^ (k + 2)) (bp_pos (k + 2))
  rw [← tv] at bv
  rw [← tT, Nat.pow_succ 18446744073709551616 (k + 1), ← Nat.mul_assoc] at bT
  have ha : 9223372036854775808 ≤ wd v (k + 1) := by
    rw [tv]; exact (Nat.le_div_iff_mul_le hP1).2 hv
  have hle : wd T (k + 2) ≤ wd v (k + 1) := by
    rw [tT, tv, Nat.pow_succ, Nat.mul_comm, ← Nat.div_div_eq_div_mul]
    refine Nat.div_le_div_right ?_
    exact Nat.le_of_lt_succ ((Nat.div_lt_iff_lt_mul (by decide)).2 (Nat.lt_of_lt_of_le hT (Nat.mul_le_mul_right _ (Nat.le_succ v))))
  refine ⟨hle, fun e => ?_, fun hlt hq h1 h2 => ?_⟩
  · exact knuth_top (18446744073709551616 ^ (k + 1)) v (wd v (k + 1)) T bv.1 bv.2 ha hP1 (by rw [← e]; exact bT.1) hT
  · have e1 : v / 18446744073709551616 ^ k = wd v (k + 1) * 18446744073709551616 + wd v k := by rw [div_words v k, ← tv]
    have e2 : T / 18446744073709551616 ^ k = (wd T (k + 2) * 18446744073709551616 + wd T (k + 1)) * 18446744073709551616 + wd T k := by
      rw [div_words T k, div_words T (k + 1), ← tT]
    rw [← e1, ← e2] at h1 h2
    have b1 := div_bounds v (18446744073709551616 ^ k) (bp_pos k)
    have b2 := div_bounds T (18446744073709551616 ^ k) (bp_pos k)
    refine knuth_law (18446744073709551616 ^ k) v (v / 18446744073709551616 ^ k) T (T / 18446744073709551616 ^ k) q (bp_pos k) b1.1 b1.2 b2.1 b2.2 h1 h2 ?_ ?_
    · rw [e1]; omega
    · rw [e1]; omega
end Go.Proofs.YtdidglfaogmnfaaGreatDoor
