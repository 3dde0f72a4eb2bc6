/-
  A part of the proof of FnIntText: the stack of words: growing, save, restore, nat.
-/
import Derived.Shelf.Spec.SlicesGrow
import Derived.Test.YtdidglfaogmnfaaGreatDoorH
namespace Go.Proofs
open Go.Shelf
def Tryz.lays8_4_ren : Go.Shelf.Ren := ⟨fun | 4 => 147 | n => n, fun | 22 => 44 | 25 => 62 | n => n, fun | n => n⟩
theorem Tryz.lays8_4 : Go.Proofs.Lays8.n4 Tryz.prog Tryz.lays8_4_ren := {
  mixed := by kernel_rfl
  f4 := ⟨f147.name, by kernel_rfl, Tryz.func147.trans (congrArg some (by kernel_rfl))⟩
  t0 := Tryz.underlying0
  a0 := Tryz.isAgg0
  z0 := Tryz.sizeOf0
  v0 := Tryz.zeroValue0
  t3 := Tryz.underlying3
  a3 := Tryz.isAgg3
  z3 := Tryz.sizeOf3
  v3 := Tryz.zeroValue3
  t4 := Tryz.underlying4
  a4 := Tryz.isAgg4
  z4 := Tryz.sizeOf4
  v4 := Tryz.zeroValue4
  t9 := Tryz.underlying9
  a9 := Tryz.isAgg9
  z9 := Tryz.sizeOf9
  v9 := Tryz.zeroValue9
  t20 := Tryz.underlying20
  a20 := Tryz.isAgg20
  z20 := Tryz.sizeOf20
  v20 := Tryz.zeroValue20
  t22 := Tryz.underlying44
  a22 := Tryz.isAgg44
  z22 := Tryz.sizeOf44
  v22 := Tryz.zeroValue44 }
end Go.Proofs
namespace Go.Proofs.YtdidglfaogmnfaaGreatDoor
open Go.RowKit Go.Shelf Go.Lib

theorem zeroCells_size (z : Array Value) (n : Nat) (h : z.size = 1) : (Builtin.zeroCells z n).size = n := by
  unfold Builtin.zeroCells; simp [h]
theorem add_none (b o j : Nat) : (⟨b, o, none⟩ : Addr).add j = ⟨b, o + j, none⟩ := by unfold Addr.add; split <;> simp_all
theorem grow_c (base : Option Addr) (b l c n : Nat) (w : World) (hlc : l ≤ c) (hl : l ≤ 1000) (hn0 : 1 ≤ n) (hn : n ≤ 1000) (hc : c ≤ 9223372036854775807) (hB : (base = none ∧ c = 0) ∨ (base = some ⟨b, 0, none⟩ ∧ Blk w b c)) :
    Calls Tryz.prog 147 #[.slice base l c, .int .i64 n] w fun e w' => ∃ b' c', e = .returned (.slice (some ⟨b', 0, none⟩) l c') ∧ l + n ≤ c' ∧ c' ≤ 9223372036854775807 ∧ Blk w' b' c' ∧ Fr w w' No ∧
      ((base = some ⟨b, 0, none⟩ ∧ b' = b) ∨ (w.heap.size ≤ b' ∧ b' < w'.heap.size)) := by
  by_cases hr : l + n ≤ c
  · rcases hB with ⟨rfl, h0⟩ | ⟨rfl, hB⟩
    · omega
    · refine (Any8.slices_Grow_room Tryz.lays8_4 _ l c n w hlc hc (by omega) hr).mono ?_
      rintro e w' ⟨rfl, rfl⟩
      exact ⟨b, c, rfl, hr, hc, hB, Fr.refl _ _, Or.inl ⟨rfl, rfl⟩⟩
  · obtain ⟨i0, hi, hz0, hz1, hz2⟩ := info_parts info62
    have hcs : ∃ cs : List Value, cs.length = c * i0.size ∧ ∀ a, base = some a → ∀ j v, cs[j]? = some v → w.cell? (a.add j) = some v := by
      rcases hB with ⟨rfl, h0⟩ | ⟨rfl, arr, T, h1, h2⟩
      · exact ⟨[], by simp [h0], fun a ha => by cases ha⟩
      · refine ⟨arr.toList, by rw [hz1, Nat.mul_one]; simpa using h2, fun a ha j v hj => ?_⟩
        cases ha
        rw [add_none, Nat.zero_add, cell_of_row w b j arr T (0, 0) h1]
        simpa using hj
    obtain ⟨cs, h1, h2⟩ := hcs
    have hG := grownCap_ge w (l + n) c 62
    have hG2 := grownCap_le_maxLen w (l + n) c 62 (by unfold maxLen; omega)
    unfold maxLen at hG2
    refine (Any8.slices_Grow_grow Tryz.lays8_4 i0 (.int .u64 0) hi hz0 (by omega) base l c n cs w hlc (by omega) (by rw [hz2]; omega) (by omega) h1 (by rcases hB with ⟨_, h⟩ | ⟨h, _⟩ <;> simp_all) h2).mono ?_
    rintro e w' ⟨rfl, rfl⟩
    refine ⟨w.heap.size, grownCap w (l + n) c 62, rfl, hG, by omega, ?_, (((Fr.refl w No).drew).alloc _), Or.inr ⟨Nat.le_refl _, by show _ < (w.heap.push _).size; simp⟩⟩
    refine ⟨_, 62, heap_alloc_new w.drew _, ?_⟩
    rw [Array.size_append, Array.size_append, zeroCells_size _ _ rfl, zeroCells_size _ _ rfl]
    rw [hz1, Nat.mul_one] at h1
    simp only [List.size_toArray, h1]
    show c + (l + n - c) + (grownCap w (l + n) c 62 - (l + n)) = grownCap w (l + n) c 62
    omega
end Go.Proofs.YtdidglfaogmnfaaGreatDoor
