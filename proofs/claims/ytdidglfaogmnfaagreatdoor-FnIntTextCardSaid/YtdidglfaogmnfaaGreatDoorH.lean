/-
  A part of the proof of FnIntText: nat's make, norm, set, setWord.
-/
import Derived.Test.YtdidglfaogmnfaaGreatDoorA
import Derived.Test.YtdidglfaogmnfaaGreatDoorShelf
import Derived.WalkLawsBesides
import Derived.WalkSpells
import Derived.Lib.Hide
import Derived.Handy
import Derived.Deep.LoopGhost
import Derived.Laws.IdiomCopy
import Derived.Laws.MakeOwn
namespace Go.Proofs.YtdidglfaogmnfaaGreatDoor
open Go.RowKit

/-- nil, or a row of its own from the first cell on -/
def Sto (w : World) (v : Value) (b : Nat) : Prop := v = .slice none 0 0 ∨ ∃ l c, v = .slice (some ⟨b, 0, none⟩) l c ∧ l ≤ c ∧ c ≤ 4000 ∧ Blk w b c
theorem Blk.new (w : World) (arr : Array Value) (T : TypeId) (n : Nat) (h : arr.size = n) : Blk (w.alloc (.cells arr T)) w.heap.size n := ⟨arr, T, heap_alloc_new w _, h⟩
theorem info62 : (Tryz.prog.info? 62).map (fun i => (i.zero, i.size, i.bytes)) = some (some (.int .u64 0), 1, 8) := by kernel_rfl
def mkw (c : Nat) : Array Value := madeCells (Value.cells (.int .u64 0)) c
theorem mkw_size (c : Nat) : (mkw c).size = c := size_madeCells _ _
theorem mkw_c (n c : Nat) (hnc : n ≤ c) (hc : c ≤ 4000) (w : World) : (Instr.makeSlice 45 (.int .i64 n) (.int .i64 c)).run Tryz.prog w = .ok (.slice (some ⟨w.heap.size, 0, none⟩) n c) (w.alloc (.cells (mkw c) 62)) := by
  obtain ⟨i0, hi, hz0, hz1, hz2⟩ := info_parts info62
  have h := run_make (P := Tryz.prog) w 45 62 i0 (.int .u64 0) Tryz.underlying45 hi hz0 .i64 .i64 n c (by omega) (by omega) (by rw [hz2]; omega) (by omega)
  rw [hz1, Int.toNat_natCast, Int.toNat_natCast, Nat.mul_one] at h
  exact h
/-- where a row lies: where the storage lay, or anew -/
def Whr (w w' : World) (b b0 : Nat) (v : Value) : Prop := (b = b0 ∧ v ≠ .slice none 0 0) ∨ (w.heap.size ≤ b ∧ b < w'.heap.size)
set_option maxRecDepth 100000 in
theorem make_c (v : Value) (b0 n : Nat) (hn : 1 ≤ n) (hn1 : n ≤ 1000) (w : World) (hs : Sto w v b0) :
    Calls Tryz.prog 28 #[v, .int .i64 n] w fun e w' => ∃ b c, e = .returned (.slice (some ⟨b, 0, none⟩) n c) ∧ n ≤ c ∧ c ≤ 4000 ∧ Whr w w' b b0 v ∧ Blk w' b c ∧ Fr w w' No := by
  have KF : Hid (∀ o : Obj, Fr w (w.alloc o) No) := Lib.hid (fun o => (Fr.refl w No).alloc o)
  have KB := Lib.hid (Blk.new w)
  have hm1 : ∀ w : World, (Instr.makeSlice 45 (.int .i64 1) (.int .i64 1)).run Tryz.prog w = .ok (.slice (some ⟨w.heap.size, 0, none⟩) 1 1) (w.alloc (.cells (mkw 1) 62)) := mkw_c 1 1 (by omega) (by omega)
  have hm4 : ∀ w : World, (Instr.makeSlice 45 (.int .i64 n) (.int .i64 ((n : Int) + 4))).run Tryz.prog w = .ok (.slice (some ⟨w.heap.size, 0, none⟩) n (n + 4)) (w.alloc (.cells (mkw (n + 4)) 62)) := mkw_c n (n + 4) (by omega) (by omega)
  have KL : Hid (∀ o : Obj, w.heap.size < (w.alloc o).heap.size) := Lib.hid (fun o => by show _ < (w.heap.push o).size; simp)
  rcases hs with rfl | ⟨l, c, rfl, hlc, hc, hB⟩
  · have h0 : ¬ ((n : Int) ≤ 0) := by omega
    by_cases h1 : n = 1
    · subst h1
      go_enter Tryz.func28, Tryz.ntmps28
      go_wp2_with fail
      go_returns
      exact ⟨_, 1, rfl, by omega, by omega, Or.inr ⟨Nat.le_refl _, KL.out _⟩, KB.out _ _ _ (mkw_size _), KF.out _⟩
    · have h1' : ((n : Int) == 1) = false := by simp; omega
      have h2 : ¬ n = 0 := by omega
      have h3 : ¬ ((n : Int) + 4 < 0) := by omega
      go_enter Tryz.func28, Tryz.ntmps28
      go_wp2_with fail
      go_returns
      exact ⟨_, n + 4, by go_num, by omega, by omega, Or.inr ⟨Nat.le_refl _, KL.out _⟩, KB.out _ _ _ (mkw_size _), KF.out _⟩
  · have KB2 := Lib.hid hB
    clear hB
    by_cases hnc : n ≤ c
    · go_enter Tryz.func28, Tryz.ntmps28
      go_wp2_with fail
      go_returns
      exact ⟨_, c, rfl, hnc, hc, Or.inl ⟨rfl, by simp⟩, KB2.out, Fr.refl _ _⟩
    · by_cases h1 : n = 1
      · subst h1
        go_enter Tryz.func28, Tryz.ntmps28
        go_wp2_with fail
        go_returns
        exact ⟨_, 1, rfl, by omega, by omega, Or.inr ⟨Nat.le_refl _, KL.out _⟩, KB.out _ _ _ (mkw_size _), KF.out _⟩
      · have h1' : ((n : Int) == 1) = false := by simp; omega
        have h3 : ¬ ((n : Int) + 4 < 0) := by omega
        go_enter Tryz.func28, Tryz.ntmps28
        go_wp2_with fail
        go_returns
        exact ⟨_, n + 4, by go_num, by omega, by omega, Or.inr ⟨Nat.le_refl _, KL.out _⟩, KB.out _ _ _ (mkw_size _), KF.out _⟩
/-- how many words a number has -/
def Nrm (X k : Nat) : Prop := X < 18446744073709551616 ^ k ∧ (0 < k → 18446744073709551616 ^ (k - 1) ≤ X)
theorem norm_c (b o n c X : Nat) (w : World) (hn : n ≤ 1000) (hnc : n ≤ c) (hX : Ws w b o n X) (hlt : X < 18446744073709551616 ^ n) :
    Calls Tryz.prog 30 #[.slice (some ⟨b, o, none⟩) n c] w fun e w' => ∃ k, e = .returned (.slice (some ⟨b, o, none⟩) k c) ∧ k ≤ n ∧ Nrm X k ∧ w' = w := by
  have KX := Lib.hid hX
  have KL := Lib.hid hlt
  clear hX hlt
  go_enter Tryz.func30, Tryz.ntmps30
  go_wp2_with fail
  go_loopw [3] (fun v3 wr => ∃ i : Nat, i ≤ n ∧ v3 = .int .i64 i ∧ Hid (X < 18446744073709551616 ^ i) ∧ wr = w) (fun v3 _ => (intOf v3).toNat)
  case atStart => exact ⟨n, by omega, rfl, KL, rfl⟩
  case round =>
    obtain ⟨i, hi, rfl, HR, rfl⟩ := hrel
    by_cases h0 : 0 < i
    · obtain ⟨j, rfl⟩ : ∃ j, i = j + 1 := ⟨i - 1, by omega⟩
      have cx := KX.out j (by omega)
      have hpos : decide ((0 : Int) < ((j + 1 : Nat) : Int)) = true := by simp
      have hpos2 : ((0 : Int) < (j : Int) + 1) = True := eq_true (by omega)
      have hj1 : ((j + 1 : Nat) : Int) - 1 = (j : Int) := by omega
      by_cases hz : wd X j = 0
      · have KN : Hid (X < 18446744073709551616 ^ j) := Lib.hid (by
          rw [wd_top HR.out] at hz
          rcases Nat.div_eq_zero_iff.1 hz with e | e
          · have := bp_pos j; omega
          · exact e)
        rw [hz] at cx
        clear HR hz
        go_wp2_with fail
        go_roundw
        case rel => exact ⟨j, by omega, by go_num, KN, trivial⟩
        case measure => simp [intOf] <;> omega
      · have KN : Hid (Nrm X (j + 1)) := Lib.hid ⟨HR.out, fun _ => by
          rw [wd_top HR.out] at hz
          rw [Nat.add_sub_cancel]
          exact (Nat.div_pos_iff.1 (Nat.pos_of_ne_zero hz)).2⟩
        clear HR
        generalize wd X j = x at *
        have hle : j + 1 ≤ c := by omega
        go_wp2_with fail
        go_returns
        exact ⟨j + 1, by go_num, hi, KN.out, rfl⟩
    · obtain rfl : i = 0 := by omega
      have KN : Hid (Nrm X 0) := Lib.hid ⟨HR.out, fun h => absurd h (by omega)⟩
      clear HR
      go_wp2_with fail
      go_returns
      exact ⟨0, rfl, by omega, KN.out, rfl⟩
end Go.Proofs.YtdidglfaogmnfaaGreatDoor
