/-
  A part of the proof of FnIntText: bytes to words.
-/
import Derived.Test.YtdidglfaogmnfaaGreatDoorS
import Derived.Test.YtdidglfaogmnfaaGreatDoorRa
import Derived.Lib.EndianBits
import Derived.BigQuiet
namespace Go.Proofs.YtdidglfaogmnfaaGreatDoor
open Go.RowKit

set_option maxRecDepth 100000 in
theorem be32_c (g o n c b0 b1 b2 b3 : Nat) (w : World) (hn : 4 ≤ n) (h0 : b0 < 256) (h1 : b1 < 256) (h2 : b2 < 256) (h3 : b3 < 256)
    (c0 : w.cell? ⟨g, o, none⟩ = some (.int .u8 b0)) (c1 : w.cell? ⟨g, o + 1, none⟩ = some (.int .u8 b1)) (c2 : w.cell? ⟨g, o + 2, none⟩ = some (.int .u8 b2)) (c3 : w.cell? ⟨g, o + 3, none⟩ = some (.int .u8 b3)) :
    Calls Tryz.prog 47 #[.slice (some ⟨g, o, none⟩) n c] w fun e w' => e = .returned (.int .u32 ((b0 * 16777216 + b1 * 65536 + b2 * 256 + b3 : Nat) : Int)) ∧ ∃ q, w' = w.drewN q := by
  have q0 : 0 < n := by omega
  have q1 : (1 : Int) < (n : Int) := by omega
  have q2 : (2 : Int) < (n : Int) := by omega
  have q3 : (3 : Int) < (n : Int) := by omega
  go_enter Tryz.func47, Tryz.ntmps47
  go_wp2_with fail
  go_quiet (fail)
  go_wp2_with fail
  go_returns
  refine ⟨?_, _, rfl⟩
  simp (disch := omega) only [u32_or8, u32_or16, u32_or24]
  go_num
theorem or64 (a b : Nat) (ha : a < 4294967296) (hb : b < 4294967296) : bits .or .u64 ((b : Int) * 4294967296) (a : Int) = ((b * 4294967296 + a : Nat) : Int) := by
  have h := bits_join .u64 64 (by decide) wraps_u64 32 ((b : Int) * 4294967296) (a : Int) (by omega) (by omega) (by omega) (by omega) (by omega) (by omega)
  rw [h]; omega
set_option maxHeartbeats 1000000 in
set_option maxRecDepth 100000 in
theorem be64_c (g o n c b0 b1 b2 b3 b4 b5 b6 b7 : Nat) (w : World) (hn : 8 ≤ n) (hc : n ≤ c) (h0 : b0 < 256) (h1 : b1 < 256) (h2 : b2 < 256) (h3 : b3 < 256) (h4 : b4 < 256) (h5 : b5 < 256) (h6 : b6 < 256) (h7 : b7 < 256)
    (c0 : w.cell? ⟨g, o, none⟩ = some (.int .u8 b0)) (c1 : w.cell? ⟨g, o + 1, none⟩ = some (.int .u8 b1)) (c2 : w.cell? ⟨g, o + 2, none⟩ = some (.int .u8 b2)) (c3 : w.cell? ⟨g, o + 3, none⟩ = some (.int .u8 b3))
    (c4 : w.cell? ⟨g, o + 4, none⟩ = some (.int .u8 b4)) (c5 : w.cell? ⟨g, o + 5, none⟩ = some (.int .u8 b5)) (c6 : w.cell? ⟨g, o + 6, none⟩ = some (.int .u8 b6)) (c7 : w.cell? ⟨g, o + 7, none⟩ = some (.int .u8 b7)) :
    Calls Tryz.prog 46 #[.slice (some ⟨g, o, none⟩) n c] w fun e w' => e = .returned (.int .u64 (((b0 * 16777216 + b1 * 65536 + b2 * 256 + b3) * 4294967296 + (b4 * 16777216 + b5 * 65536 + b6 * 256 + b7) : Nat) : Int)) ∧ ∃ q, w' = w.drewN q := by
  have hd : ∀ (m : Nat) (a : Addr), (w.drewN m).cell? a = w.cell? a := fun _ _ => rfl
  have K1 : Hid (∀ m, Calls Tryz.prog 47 #[.slice (some ⟨g, o, none⟩) n c] (w.drewN m) fun e w' => e = .returned (.int .u32 ((b0 * 16777216 + b1 * 65536 + b2 * 256 + b3 : Nat) : Int)) ∧ ∃ q, w' = (w.drewN m).drewN q) := Lib.hid (fun m => be32_c g o n c b0 b1 b2 b3 (w.drewN m) (by omega) h0 h1 h2 h3 ((hd m _).trans c0) ((hd m _).trans c1) ((hd m _).trans c2) ((hd m _).trans c3))
  have K2 : Hid (∀ m, Calls Tryz.prog 47 #[.slice (some ⟨g, o + 4, none⟩) (n - 4) (c - 4)] (w.drewN m) fun e w' => e = .returned (.int .u32 ((b4 * 16777216 + b5 * 65536 + b6 * 256 + b7 : Nat) : Int)) ∧ ∃ q, w' = (w.drewN m).drewN q) := Lib.hid (fun m => be32_c g (o + 4) (n - 4) (c - 4) b4 b5 b6 b7 (w.drewN m) (by omega) h4 h5 h6 h7 ((hd m _).trans c4) ((hd m _).trans c5) ((hd m _).trans c6) ((hd m _).trans c7))
  obtain ⟨x, hx⟩ : ∃ x, x = b0 * 16777216 + b1 * 65536 + b2 * 256 + b3 := ⟨_, rfl⟩
  obtain ⟨y, hy⟩ : ∃ y, y = b4 * 16777216 + b5 * 65536 + b6 * 256 + b7 := ⟨_, rfl⟩
  rw [← hx] at K1 ⊢
  rw [← hy] at K2 ⊢
  have hx1 : x < 4294967296 := by omega
  have hy1 : y < 4294967296 := by omega
  have q7 : (7 : Int) < (n : Int) := by omega
  have q4 : ¬ c = 4 := by omega
  have q5 : ((4 : Int) ≤ (n : Int)) = True := eq_true (by omega)
  have q6 : (4 : Int) ≤ (n : Int) := by omega
  have q8 : 4 ≤ n := by omega
  clear h0 h1 h2 h3 h4 h5 h6 h7 c0 c1 c2 c3 c4 c5 c6 hx hy hc hn hd
  go_enter Tryz.func46, Tryz.ntmps46
  go_wp2_with fail
  go_quiet ((go_at_call 47; first | with_reducible exact Calls.quiet_of (K1.out _) | with_reducible exact Calls.quiet_of (K2.out _)))
  go_wp2_with fail
  go_returns
  refine ⟨?_, _, rfl⟩
  rw [← or64 y x hy1 hx1]
  go_num
/-- bytes in a row of cells -/
def Bs (w : World) (g o : Nat) (l : List Int) : Prop := ∀ i, i < l.length → w.cell? ⟨g, o + i, none⟩ = some (.int .u8 (l.getD i 0))
theorem Bs.fr {w w' : World} {S : Nat → Nat → Prop} {g o : Nat} {l : List Int} (h : Bs w g o l) (hf : Fr w w' S) (hS : ∀ i, ¬ S g (o + i)) : Bs w' g o l :=
  fun i hi => hf.keep (h i hi) (hS i)
/-- byte j from the low end -/
theorem Bs.at {w : World} {g o : Nat} {l : List Int} (h : Bs w g o l) (hb : Ref.Byt l) (j i : Nat) (hj : j + i + 1 = l.length) : w.cell? ⟨g, o + i, none⟩ = some (.int .u8 ((Ref.dg l j : Nat) : Int)) := by
  rw [h i (by omega)]
  unfold Ref.dg
  rw [if_pos (by omega), show l.length - 1 - j = i from by omega]
  have := hb.getD i
  congr 2
  omega
theorem dgv (l : List Int) (hb : Ref.Byt l) (j : Nat) : Ref.val l / 256 ^ j % 256 = Ref.dg l j := by
  have hS : ∀ (f : Nat → Nat), (∀ i, f i < 256) → ∀ n, j < n → Ref.S f n / 256 ^ j % 256 = f j := by
    intro f hf n
    induction n with
    | zero => intro h; omega
    | succ n ih =>
      intro h
      rw [show Ref.S f (n + 1) = Ref.S f n + f n * 256 ^ n from rfl]
      by_cases e : j = n
      · subst e
        rw [Nat.add_mul_div_right _ _ (Nat.pow_pos (by decide)), Nat.div_eq_of_lt (Ref.S_lt (fun i _ => hf i)), Nat.zero_add, Nat.mod_eq_of_lt (hf j)]
      · have hp : 256 ^ n = 256 ^ j * (256 * 256 ^ (n - j - 1)) := by
          rw [← Nat.pow_succ', ← Nat.pow_add]; congr 1; omega
        rw [hp, Nat.mul_left_comm, Nat.add_mul_div_left _ _ (Nat.pow_pos (by decide)), Nat.mul_left_comm, Nat.add_mul_mod_self_left, ih (by omega)]
  by_cases hj : j < l.length
  · exact hS _ (fun i => Ref.dg_lt hb i) _ hj
  · rw [Ref.dg_ge (by omega), Nat.div_eq_of_lt (Nat.lt_of_lt_of_le (Ref.val_lt hb) (Nat.pow_le_pow_right (by decide) (by omega)))]
theorem val_sum (X : Nat) : X % 18446744073709551616 = (X / 72057594037927936 % 256 * 16777216 + X / 281474976710656 % 256 * 65536 + X / 1099511627776 % 256 * 256 + X / 4294967296 % 256) * 4294967296 + (X / 16777216 % 256 * 16777216 + X / 65536 % 256 * 65536 + X / 256 % 256 * 256 + X % 256) := by
  rw [eight_mod X]
  generalize X / 72057594037927936 % 256 = a
  generalize X / 281474976710656 % 256 = b
  generalize X / 1099511627776 % 256 = c
  generalize X / 4294967296 % 256 = d
  generalize X / 16777216 % 256 = e
  generalize X / 65536 % 256 = f
  generalize X / 256 % 256 = g
  generalize X % 256 = h
  omega
theorem val_wd (l : List Int) (hb : Ref.Byt l) (k : Nat) : wd (Ref.val l) k = (Ref.dg l (8 * k + 7) * 16777216 + Ref.dg l (8 * k + 6) * 65536 + Ref.dg l (8 * k + 5) * 256 + Ref.dg l (8 * k + 4)) * 4294967296 + (Ref.dg l (8 * k + 3) * 16777216 + Ref.dg l (8 * k + 2) * 65536 + Ref.dg l (8 * k + 1) * 256 + Ref.dg l (8 * k)) := by
  have h : ∀ t p, 256 ^ t = p → Ref.dg l (8 * k + t) = Ref.val l / 18446744073709551616 ^ k / p % 256 := fun t p hp => by rw [← hp, ← dgv l hb, wd_byte]
  have h0 := h 0 1 rfl
  rw [Nat.div_one, Nat.add_zero] at h0
  rw [h 7 72057594037927936 rfl, h 6 281474976710656 rfl, h 5 1099511627776 rfl, h 4 4294967296 rfl, h 3 16777216 rfl, h 2 65536 rfl, h 1 256 rfl, h0]
  exact val_sum _
set_option maxRecDepth 100000 in
/-- a whole word out of eight bytes -/
theorem word_c (g o n c i k : Nat) (l : List Int) (w : World) (h : Bs w g o l) (hb : Ref.Byt l) (hi : i + 8 * k + 8 = l.length) (hn : 8 ≤ n) (hc : n ≤ c) :
    Calls Tryz.prog 29 #[.slice (some ⟨g, o + i, none⟩) n c] w fun e w' => e = .returned (.int .u64 ((wd (Ref.val l) k : Nat) : Int)) ∧ ∃ q, w' = w.drewN q := by
  have K := Lib.hid (be64_c g (o + i) n c _ _ _ _ _ _ _ _ w hn hc (Ref.dg_lt hb (8 * k + 7)) (Ref.dg_lt hb (8 * k + 6)) (Ref.dg_lt hb (8 * k + 5)) (Ref.dg_lt hb (8 * k + 4)) (Ref.dg_lt hb (8 * k + 3)) (Ref.dg_lt hb (8 * k + 2)) (Ref.dg_lt hb (8 * k + 1)) (Ref.dg_lt hb (8 * k))
    (h.at hb _ _ (by omega)) (h.at hb _ (i + 1) (by omega)) (h.at hb _ (i + 2) (by omega)) (h.at hb _ (i + 3) (by omega)) (h.at hb _ (i + 4) (by omega)) (h.at hb _ (i + 5) (by omega)) (h.at hb _ (i + 6) (by omega)) (h.at hb _ (i + 7) (by omega)))
  rw [← val_wd l hb k] at K
  clear h hb hi
  generalize wd (Ref.val l) k = x at *
  go_enter Tryz.func29, Tryz.ntmps29
  go_wp2_with fail
  refine K.out.mono ?_
  rintro e w' ⟨rfl, q, rfl⟩
  go_wp2_with fail
  go_returns
  exact ⟨rfl, q, rfl⟩
end Go.Proofs.YtdidglfaogmnfaaGreatDoor
