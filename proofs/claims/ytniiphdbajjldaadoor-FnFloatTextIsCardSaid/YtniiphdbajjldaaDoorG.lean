/-
  A part of the proof of FnFloatTextIs: formatBase10 and setDigits.
-/
import Derived.Test.YtniiphdbajjldaaDoorF
namespace Go.Proofs.YtniiphdbajjldaaDoor
open Go.RowKit Go.Sort Go.Lib
def digs (nd d : Nat) : List Int := (List.range nd).map fun t => ((dg d (nd - 1 - t)).toNat : Int)
def zeros32 : Array Value := Array.replicate 32 (.int .u8 0)
def nzs (l : List Int) : Nat → Nat
  | 0 => 0
  | n + 1 => if l.getD n 0 = 48 then nzs l n else n + 1
theorem nzs_le (l : List Int) : ∀ n, nzs l n ≤ n
  | 0 => Nat.le_refl _
  | n + 1 => by
    unfold nzs
    split
    · exact Nat.le_succ_of_le (nzs_le l n)
    · exact Nat.le_refl _
theorem digs_len (nd d : Nat) : (digs nd d).length = nd := by simp [digs]
theorem digs_at (nd d j : Nat) (h : j < nd) : (digs nd d).getD j 0 = ((dg d (nd - 1 - j)).toNat : Int) := by
  simp [digs, List.getD, h]

theorem zeros_at (j : Nat) (h : j < 32) : zeros32[j]? = some (.int .u8 0) := by
  unfold zeros32
  rw [Array.getElem?_replicate, if_pos h]
/-- formatBase10 over the first nd cells of a block of 32 -/
theorem fb10 (sb nd d : Nat) (w : World) (hn : nd ≤ 32) (hd : d < 10 ^ nd) (hd64 : d < 18446744073709551616) (hb : w.heap[sb]? = some (.cells zeros32 56 (0, 0))) :
    Calls Tryd.prog 53 #[.slice (some ⟨sb, 0, none⟩) nd 32, .int .u64 d] w fun e w' =>
      e = .returned (.tuple #[]) ∧ w.grownBy w' (some sb) ∧ w'.heap.size = w.heap.size ∧ ∃ arr, w'.heap[sb]? = some (.cells arr 56 (0, 0)) ∧ arr.size = 32 ∧ ∀ j, j < nd → arr[j]? = some (.int .u8 ((digs nd d).getD j 0)) := by
  have hsz : (Array.replicate nd (0 : UInt8)).size = nd := by simp
  have hH : Holds (fun (b : UInt8) => Value.int .u8 (b.toNat : Int)) w sb 0 (Array.replicate nd (0 : UInt8)) := by
    intro j hj
    rw [hsz] at hj
    constructor
    · rw [cell_of_row w sb _ zeros32 56 (0, 0) hb]
      rw [Nat.zero_add, zeros_at j (by omega), getElem!_pos _ j (by rw [hsz]; exact hj)]
      simp
    · simp [World.frozen?, hb]
  have h := Tryd.internal_strconv_formatBase10 sb 0 32 d (Array.replicate nd (0 : UInt8)) w hH (by rw [hsz]; exact hd) hd64 (by rw [hsz]; omega)
  rw [hsz] at h
  refine h.mono ?_
  rintro e w' ⟨rfl, n, v', dk, rfl, hinv⟩
  refine ⟨rfl, ⟨rfl, rfl, rfl, by simp [putRow, mapBlock], fun k hk hne => ?_⟩, by simp [putRow, mapBlock], ?_⟩
  · have : sb ≠ k := fun e => hne (by rw [e])
    simp [putRow, mapBlock, Array.getElem?_modify, this]
  · refine ⟨putCells (fun (b : UInt8) => Value.int .u8 (b.toNat : Int)) 0 dk zeros32, ?_, ?_, ?_⟩
    · simp [putRow, mapBlock, Array.getElem?_modify, hb, onCells]
    · simp [putCells, zeros32]
    · intro j hj
      have hz : zeros32[j]? = some (.int .u8 0) := zeros_at j (by omega)
      have hd1 := hinv.done j (Nat.zero_le _) hj
      have hs := hinv.size
      simp only [putCells, Array.getElem?_mapIdx, hz, Option.map_some]
      rw [if_pos ⟨Nat.zero_le _, by omega⟩, Nat.sub_zero, hd1, digs_at nd d j hj]

theorem dig_take {arr : Array Value} {nd d k : Nat} (hk : k ≤ nd) (hs : arr.size = 32) (hat : ∀ j, j < nd → arr[j]? = some (.int .u8 ((digs nd d).getD j 0))) : Dig arr k ((digs nd d).take k) := by
  refine ⟨hs, by rw [List.length_take, digs_len]; omega, fun j hj => ?_⟩
  rw [hat j (by omega)]
  simp only [List.getD_eq_getElem?_getD, List.getElem?_take, if_pos hj]
theorem setDigits_ex (d nd : Nat) (p : Int) (hn : nd ≤ 20) (hd : d < 10 ^ nd) (hd64 : d < 18446744073709551616) (hp0 : -1000 ≤ p) (hp1 : p ≤ 1000) (sb : Nat) (w : World) (hb : w.heap[sb]? = some (.cells zeros32 56 (0, 0))) :
    Calls Tryd.prog 32 #[.slice (some ⟨sb, 0, none⟩) 32 32, .int .u64 d, .int .i64 p, .int .i64 nd] w fun e w' =>
      e = .returned (.tuple #[.int .i64 (nd + p), .int .i64 (nzs (digs nd d) nd)]) ∧ w.grownBy w' (some sb) ∧ ∃ arr, w'.heap[sb]? = some (.cells arr 56 (0, 0)) ∧ Dig arr (nzs (digs nd d) nd) ((digs nd d).take (nzs (digs nd d) nd)) := by
  have H0 := Lib.hid (fb10 sb nd d w (by omega) hd hd64 hb)
  clear hd hb
  have hle : decide (nd ≤ 32) = true := by simp; omega
  go_enter Tryd.func32, Tryd.ntmps32
  go_wp2_with fail
  refine H0.out.mono ?_
  rintro e w' ⟨rfl, hg, hsz, arr, ha, has, hat⟩
  have HA := Lib.hid ha
  have HT := Lib.hid hat
  have HS := Lib.hid has
  clear ha hat has hsz
  go_wp2_with fail
  obtain ⟨L, hL⟩ : ∃ L, L = digs nd d := ⟨_, rfl⟩
  have HL := Lib.hid hL
  clear hL
  go_loop [3] (fun v3 => ∃ k : Nat, k ≤ nd ∧ v3 = .int .i64 k ∧ Hid (nzs L k = nzs L nd)) (fun v3 => (RowKit.intOf v3).toNat)
  case atStart => exact ⟨nd, Nat.le_refl _, rfl, Lib.hid rfl⟩
  case round =>
    obtain ⟨k, hk, rfl, HK⟩ := hrel
    have hex : ∀ q, w'.cell? ⟨sb, q, none⟩ = arr[q]? := fun q => cell_of_row w' sb q arr 56 (0, 0) HA.out
    have HX := Lib.hid hex
    clear hex
    by_cases h0 : 0 < k
    · obtain ⟨m, rfl⟩ : ∃ m, k = m + 1 := ⟨k - 1, by omega⟩
      have hcell : w'.cell? ⟨sb, m, none⟩ = some (.int .u8 (L.getD m 0)) := by rw [HX.out, HT.out m (by omega), HL.out]
      by_cases hz : L.getD m 0 = 48
      · have hzb : (L.getD m 0 == 48) = true := by rw [hz]; rfl
        have KN : Hid (nzs L m = nzs L nd) := Lib.hid (by rw [← HK.out]; unfold nzs; rw [if_pos hz]; cases m <;> rfl)
        clear HK
        obtain ⟨z, hz'⟩ : ∃ z, z = L.getD m 0 := ⟨_, rfl⟩
        rw [← hz'] at hcell hzb
        clear hz hz'
        go_wp2
        go_round
        case rel => exact ⟨m, by omega, by go_num, KN⟩
        case measure => simp [RowKit.intOf]
      · have hzb : (L.getD m 0 == 48) = false := by simpa using hz
        have KN : Hid (m + 1 = nzs L nd) := Lib.hid (by rw [← HK.out]; unfold nzs; rw [if_neg hz])
        clear HK
        obtain ⟨z, hz'⟩ : ∃ z, z = L.getD m 0 := ⟨_, rfl⟩
        rw [← hz'] at hcell hzb
        clear hz hz'
        go_wp2
        go_ret2
        refine ⟨?_, hg, arr, HA.out, dig_take (nzs_le _ _) HS.out HT.out⟩
        rw [← HL.out, ← KN.out]
        rfl
    · obtain rfl : k = 0 := by omega
      go_wp2
      go_ret2
      refine ⟨?_, hg, arr, HA.out, dig_take (nzs_le _ _) HS.out HT.out⟩
      rw [← HL.out, ← HK.out]
      rfl
end Go.Proofs.YtniiphdbajjldaaDoor
