/-
  A part of the proof of FnMathWhole (packed out of smaller texts by a program of this session; what the proof does not reach is left out).
-/
import Derived.Test.YtldejfallphhbaaGreatDoorZ7
import Derived.Lib.EndianBits
import Derived.BigQuiet
namespace Go.Proofs.YtldejfallphhbaaGreatDoor
open Go.RowKit
set_option maxRecDepth 100000 in
theorem be32_c (g o n c b0 b1 b2 b3 : Nat) (w : World) (hn : 4 ≤ n) (h0 : b0 < 256) (h1 : b1 < 256) (h2 : b2 < 256) (h3 : b3 < 256)
    (c0 : w.cell? ⟨g, o, none⟩ = some (.int .u8 b0)) (c1 : w.cell? ⟨g, o + 1, none⟩ = some (.int .u8 b1)) (c2 : w.cell? ⟨g, o + 2, none⟩ = some (.int .u8 b2)) (c3 : w.cell? ⟨g, o + 3, none⟩ = some (.int .u8 b3)) :
    Calls Tryz.prog 122 #[.slice (some ⟨g, o, none⟩) n c] w fun e w' => e = .returned (.int .u32 ((b0 * 16777216 + b1 * 65536 + b2 * 256 + b3 : Nat) : Int)) ∧ ∃ q, w' = w.drewN q := by
  have q0 : 0 < n := by omega
  have q1 : (1 : Int) < (n : Int) := by omega
  have q2 : (2 : Int) < (n : Int) := by omega
  have q3 : (3 : Int) < (n : Int) := by omega
  go_enter Tryz.func122, Tryz.ntmps122
  go_wp2_with fail
  go_quiet (fail)
  go_wp2_with fail
  go_returns
  refine ⟨?_, _, rfl⟩
  simp (disch := omega) only [u32_or8, u32_or16, u32_or24]
  go_num
theorem or64 (a b : Nat) (ha : a < 4294967296) (hb : b < 4294967296) : bits .or .u64 ((b : Int) * 4294967296) (a : Int) = ((b * 4294967296 + a : Nat) : Int) := by
  have h := bits_join .u64 64 (by decide) wraps_u64 32 ((b : Int) * 4294967296) (a : Int) (by omega) (by omega) (by omega) (by omega) (by omega) (by omega)
  rw [h]; omega
set_option maxHeartbeats 1000000 in
set_option maxRecDepth 100000 in
theorem be64_c (g o n c b0 b1 b2 b3 b4 b5 b6 b7 : Nat) (w : World) (hn : 8 ≤ n) (hc : n ≤ c) (h0 : b0 < 256) (h1 : b1 < 256) (h2 : b2 < 256) (h3 : b3 < 256) (h4 : b4 < 256) (h5 : b5 < 256) (h6 : b6 < 256) (h7 : b7 < 256)
    (c0 : w.cell? ⟨g, o, none⟩ = some (.int .u8 b0)) (c1 : w.cell? ⟨g, o + 1, none⟩ = some (.int .u8 b1)) (c2 : w.cell? ⟨g, o + 2, none⟩ = some (.int .u8 b2)) (c3 : w.cell? ⟨g, o + 3, none⟩ = some (.int .u8 b3))
    (c4 : w.cell? ⟨g, o + 4, none⟩ = some (.int .u8 b4)) (c5 : w.cell? ⟨g, o + 5, none⟩ = some (.int .u8 b5)) (c6 : w.cell? ⟨g, o + 6, none⟩ = some (.int .u8 b6)) (c7 : w.cell? ⟨g, o + 7, none⟩ = some (.int .u8 b7)) :
    Calls Tryz.prog 121 #[.slice (some ⟨g, o, none⟩) n c] w fun e w' => e = .returned (.int .u64 (((b0 * 16777216 + b1 * 65536 + b2 * 256 + b3) * 4294967296 + (b4 * 16777216 + b5 * 65536 + b6 * 256 + b7) : Nat) : Int)) ∧ ∃ q, w' = w.drewN q := by
  have hd : ∀ (m : Nat) (a : Addr), (w.drewN m).cell? a = w.cell? a := fun _ _ => rfl
  have K1 : Hid (∀ m, Calls Tryz.prog 122 #[.slice (some ⟨g, o, none⟩) n c] (w.drewN m) fun e w' => e = .returned (.int .u32 ((b0 * 16777216 + b1 * 65536 + b2 * 256 + b3 : Nat) : Int)) ∧ ∃ q, w' = (w.drewN m).drewN q) := Lib.hid (fun m => be32_c g o n c b0 b1 b2 b3 (w.drewN m) (by omega) h0 h1 h2 h3 ((hd m _).trans c0) ((hd m _).trans c1) ((hd m _).trans c2) ((hd m _).trans c3))
  have K2 : Hid (∀ m, Calls Tryz.prog 122 #[.slice (some ⟨g, o + 4, none⟩) (n - 4) (c - 4)] (w.drewN m) fun e w' => e = .returned (.int .u32 ((b4 * 16777216 + b5 * 65536 + b6 * 256 + b7 : Nat) : Int)) ∧ ∃ q, w' = (w.drewN m).drewN q) := Lib.hid (fun m => be32_c g (o + 4) (n - 4) (c - 4) b4 b5 b6 b7 (w.drewN m) (by omega) h4 h5 h6 h7 ((hd m _).trans c4) ((hd m _).trans c5) ((hd m _).trans c6) ((hd m _).trans c7))
  obtain ⟨x, hx⟩ : ∃ x, x = b0 * 16777216 + b1 * 65536 + b2 * 256 + b3 := ⟨_, rfl⟩
  obtain ⟨y, hy⟩ : ∃ y, y = b4 * 16777216 + b5 * 65536 + b6 * 256 + b7 := ⟨_, rfl⟩
  rw [← hx] at K1 ⊢
  rw [← hy] at K2 ⊢
  have hx1 : x < 4294967296 := by omega
  have hy1 : y < 4294967296 := by omega
  have q7 : (7 : Int) < (n : Int) := by omega
  have q4 : ¬ c = 4 := by omega
  have q5 : ((4 : Int) ≤ (n : Int)) = True := eq_true (by omega)
  have q6 : (4 : Int) ≤ (n : Int) := by omega
  have q8 : 4 ≤ n := by omega
  clear h0 h1 h2 h3 h4 h5 h6 h7 c0 c1 c2 c3 c4 c5 c6 hx hy hc hn hd
  go_enter Tryz.func121, Tryz.ntmps121
  go_wp2_with fail
  go_quiet ((go_at_call 122; first | with_reducible exact Calls.quiet_of (K1.out _) | with_reducible exact Calls.quiet_of (K2.out _)))
  go_wp2_with fail
  go_returns
  refine ⟨?_, _, rfl⟩
  rw [← or64 y x hy1 hx1]
  go_num
def Bs (w : World) (g o : Nat) (l : List Int) : Prop := ∀ i, i < l.length → w.cell? ⟨g, o + i, none⟩ = some (.int .u8 (l.getD i 0))
theorem Bs.fr {w w' : World} {S : Nat → Nat → Prop} {g o : Nat} {l : List Int} (h : Bs w g o l) (hf : Fr w w' S) (hS : ∀ i, ¬ S g (o + i)) : Bs w' g o l :=
  fun i hi => hf.keep (h i hi) (hS i)
theorem Bs.at {w : World} {g o : Nat} {l : List Int} (h : Bs w g o l) (hb : Ref.Byt l) (j i : Nat) (hj : j + i + 1 = l.length) : w.cell? ⟨g, o + i, none⟩ = some (.int .u8 ((Ref.dg l j : Nat) : Int)) := by
  rw [h i (by omega)]
  unfold Ref.dg
  rw [if_pos (by omega), show l.length - 1 - j = i from by omega]
  have := hb.getD i
  congr 2
  omega
theorem dgv (l : List Int) (hb : Ref.Byt l) (j : Nat) : Ref.val l / 256 ^ j % 256 = Ref.dg l j := by
  have hS : ∀ (f : Nat → Nat), (∀ i, f i < 256) → ∀ n, j < n → Ref.S f n / 256 ^ j % 256 = f j := by
    intro f hf n
    induction n with
    | zero => intro h; omega
    | succ n ih =>
      intro h
      rw [show Ref.S f (n + 1) = Ref.S f n + f n * 256 ^ n from rfl]
      by_cases e : j = n
      · subst e
        rw [Nat.add_mul_div_right _ _ (Nat.pow_pos (by decide)), Nat.div_eq_of_lt (Ref.S_lt (fun i _ => hf i)), Nat.zero_add, Nat.mod_eq_of_lt (hf j)]
      · have hp : 256 ^ n = 256 ^ j * (256 * 256 ^ (n - j - 1)) := by
          rw [← Nat.pow_succ', ← Nat.pow_add]; congr 1; omega
        rw [hp, Nat.mul_left_comm, Nat.add_mul_div_left _ _ (Nat.pow_pos (by decide)), Nat.mul_left_comm, Nat.add_mul_mod_self_left, ih (by omega)]
  by_cases hj : j < l.length
  · exact hS _ (fun i => Ref.dg_lt hb i) _ hj
  · rw [Ref.dg_ge (by omega), Nat.div_eq_of_lt (Nat.lt_of_lt_of_le (Ref.val_lt hb) (Nat.pow_le_pow_right (by decide) (by omega)))]
theorem val_sum (X : Nat) : X % 18446744073709551616 = (X / 72057594037927936 % 256 * 16777216 + X / 281474976710656 % 256 * 65536 + X / 1099511627776 % 256 * 256 + X / 4294967296 % 256) * 4294967296 + (X / 16777216 % 256 * 16777216 + X / 65536 % 256 * 65536 + X / 256 % 256 * 256 + X % 256) := by
  rw [eight_mod X]
  generalize X / 72057594037927936 % 256 = a
  generalize X / 281474976710656 % 256 = b
  generalize X / 1099511627776 % 256 = c
  generalize X / 4294967296 % 256 = d
  generalize X / 16777216 % 256 = e
  generalize X / 65536 % 256 = f
  generalize X / 256 % 256 = g
  generalize X % 256 = h
  omega
theorem val_wd (l : List Int) (hb : Ref.Byt l) (k : Nat) : wd (Ref.val l) k = (Ref.dg l (8 * k + 7) * 16777216 + Ref.dg l (8 * k + 6) * 65536 + Ref.dg l (8 * k + 5) * 256 + Ref.dg l (8 * k + 4)) * 4294967296 + (Ref.dg l (8 * k + 3) * 16777216 + Ref.dg l (8 * k + 2) * 65536 + Ref.dg l (8 * k + 1) * 256 + Ref.dg l (8 * k)) := by
  have h : ∀ t p, 256 ^ t = p → Ref.dg l (8 * k + t) = Ref.val l / 18446744073709551616 ^ k / p % 256 := fun t p hp => by rw [← hp, ← dgv l hb, wd_byte]
  have h0 := h 0 1 rfl
  rw [Nat.div_one, Nat.add_zero] at h0
  rw [h 7 72057594037927936 rfl, h 6 281474976710656 rfl, h 5 1099511627776 rfl, h 4 4294967296 rfl, h 3 16777216 rfl, h 2 65536 rfl, h 1 256 rfl, h0]
  exact val_sum _
set_option maxRecDepth 100000 in
theorem word_c (g o n c i k : Nat) (l : List Int) (w : World) (h : Bs w g o l) (hb : Ref.Byt l) (hi : i + 8 * k + 8 = l.length) (hn : 8 ≤ n) (hc : n ≤ c) :
    Calls Tryz.prog 106 #[.slice (some ⟨g, o + i, none⟩) n c] w fun e w' => e = .returned (.int .u64 ((wd (Ref.val l) k : Nat) : Int)) ∧ ∃ q, w' = w.drewN q := by
  have K := Lib.hid (be64_c g (o + i) n c _ _ _ _ _ _ _ _ w hn hc (Ref.dg_lt hb (8 * k + 7)) (Ref.dg_lt hb (8 * k + 6)) (Ref.dg_lt hb (8 * k + 5)) (Ref.dg_lt hb (8 * k + 4)) (Ref.dg_lt hb (8 * k + 3)) (Ref.dg_lt hb (8 * k + 2)) (Ref.dg_lt hb (8 * k + 1)) (Ref.dg_lt hb (8 * k))
    (h.at hb _ _ (by omega)) (h.at hb _ (i + 1) (by omega)) (h.at hb _ (i + 2) (by omega)) (h.at hb _ (i + 3) (by omega)) (h.at hb _ (i + 4) (by omega)) (h.at hb _ (i + 5) (by omega)) (h.at hb _ (i + 6) (by omega)) (h.at hb _ (i + 7) (by omega)))
  rw [← val_wd l hb k] at K
  clear h hb hi
  generalize wd (Ref.val l) k = x at *
  go_enter Tryz.func106, Tryz.ntmps106
  go_wp2_with fail
  refine K.out.mono ?_
  rintro e w' ⟨rfl, q, rfl⟩
  go_wp2_with fail
  go_returns
  exact ⟨rfl, q, rfl⟩
end Go.Proofs.YtldejfallphhbaaGreatDoor
namespace Go.Proofs.YtldejfallphhbaaGreatDoor
set_option linter.unusedVariables false
open Go.RowKit
theorem Ws.put {w : World} {b k V n : Nat} (h : Ws w b 0 k V) (hB : Blk w b n) (hk : k < n) : Ws (w.setCell ⟨b, k, none⟩ (.int .u64 ((wd V k : Nat) : Int))) b 0 (k + 1) V := fun i hi => by
  by_cases e : i = k
  · subst e; rw [Nat.zero_add]; exact hB.get _ hk _
  · rw [cell_set_ne _ _ _ _ _ _ (by omega)]; exact h i (by omega)
theorem or_step (X t : Nat) (ht : t ≤ 6) : bits .or .u64 ((X % 256 ^ t : Nat) : Int) (((X / 256 ^ t % 256 * 256 ^ t : Nat) : Int)) = ((X % 256 ^ (t + 1) : Nat) : Int) := by
  have h1 : X % 256 ^ t < 256 ^ t := Nat.mod_lt _ (Nat.pow_pos (by decide))
  have h2 : (256 : Nat) ^ t = 2 ^ (8 * t) := by rw [Nat.pow_mul]
  have h3 : (256 : Nat) ^ t ≤ 256 ^ 6 := Nat.pow_le_pow_right (by decide) ht
  have h4 : X / 256 ^ t % 256 < 256 := Nat.mod_lt _ (by decide)
  have h5 : X / 256 ^ t % 256 * 256 ^ t ≤ 255 * 256 ^ 6 := Nat.mul_le_mul (by omega) h3
  have h6 : X % 256 ^ (t + 1) = X % 256 ^ t + X / 256 ^ t % 256 * 256 ^ t := by
    rw [Nat.pow_succ, Nat.mod_mul, Nat.mul_comm (256 ^ t)]
  have h7 : (255 : Nat) * 256 ^ 6 < 2 ^ 64 := by decide
  have h8 : (256 : Nat) ^ 6 < 2 ^ 64 := by decide
  rw [h6]
  generalize X / 256 ^ t % 256 = y at *
  generalize X % 256 ^ t = x at *
  have h := bits_join_low .u64 64 (by decide) wraps_u64 (8 * t) (x : Int) ((y * 256 ^ t : Nat) : Int) (by omega) (by rw [h2] at h1; exact_mod_cast h1) (by
      have : x < 2 ^ 64 := by omega
      exact_mod_cast this) (by omega) (by
      have : y * 256 ^ t % 2 ^ (8 * t) = 0 := by rw [h2]; exact Nat.mul_mod_left _ _
      exact_mod_cast this) (by
      have : y * 256 ^ t < 2 ^ 64 := by omega
      exact_mod_cast this)
  rw [h]; omega
theorem wrap_pow (y t : Nat) (ht : t ≤ 6) (hy : y < 256) : IntKind.u64.wrap ((y : Int) * 2 ^ (8 * t)) = ((y * 256 ^ t : Nat) : Int) := by
  have h3 : (256 : Nat) ^ t ≤ 256 ^ 6 := Nat.pow_le_pow_right (by decide) ht
  have h5 : y * 256 ^ t ≤ 255 * 256 ^ 6 := Nat.mul_le_mul (by omega) h3
  have h7 : (255 : Nat) * 256 ^ 6 < 18446744073709551616 := by decide
  have e : (y : Int) * 2 ^ (8 * t) = ((y * 256 ^ t : Nat) : Int) := by
    rw [show (256 : Nat) ^ t = 2 ^ (8 * t) from by rw [Nat.pow_mul]]
    push_cast
    rfl
  rw [e, IntKind.wrap_u64]
  omega
structure SbInv (w w1 wr : World) (g o : Nat) (l : List Int) (b cz k : Nat) : Prop where
  W : Ws wr b 0 k (Ref.val l)
  B : Blk wr b cz
  F : Fr w1 wr (Al b)
  F0 : Fr w wr No
  S : Bs wr g o l
theorem sb_start {w w1 : World} {g o n b cz : Nat} {l : List Int} (h : Bs w g o l) (hl : l.length = n) (hn : 1 ≤ n) (hB : Blk w1 b cz) (hF : Fr w w1 No) : SbInv w w1 w1 g o l b cz 0 :=
  ⟨fun i hi => by omega, hB, Fr.refl _ _, hF, h.fr hF (fun _ c => c)⟩
theorem SbInv.put {w w1 wr : World} {g o n b cz k : Nat} {l : List Int} (h : SbInv w w1 wr g o l b cz k) (hg : g < b) (hb : w.heap.size ≤ b) (hk : k < cz) (q : Nat) (v : Nat) (hv : v = wd (Ref.val l) k) : SbInv w w1 ((wr.drewN q).setCell ⟨b, k, none⟩ (.int .u64 (v : Int))) g o l b cz (k + 1) := by
  have hF : Fr wr ((wr.drewN q).setCell ⟨b, k, none⟩ (.int .u64 (v : Int))) (Al b) := ((Fr.refl wr (Al b)).drewN q).set _ _ _ (fun _ => rfl)
  refine ⟨?_, h.B.fr hF, h.F.trans hF (fun _ _ _ c => c), h.F0.trans hF (fun k' _ hk' (c : k' = b) => by omega), h.S.fr hF (fun i (c : g = b) => by omega)⟩
  rw [hv]
  exact Ws.put (w := wr.drewN q) h.W (h.B.fr ((Fr.refl wr No).drewN q)) hk
theorem sb_make {w : World} {g o n : Nat} {l : List Int} (h : Bs w g o l) (hl : l.length = n) (hn : 1 ≤ n) (hn1 : n ≤ 300) (m : Nat) (hm : m = (n + 7) / 8) :
    Calls Tryz.prog 105 #[.slice none 0 0, .int .i64 m] w fun e w1 => ∃ b cz, e = .returned (.slice (some ⟨b, 0, none⟩) m cz) ∧ m ≤ cz ∧ cz ≤ 4000 ∧ g < b ∧ w.heap.size ≤ b ∧ Hid (SbInv w w1 w1 g o l b cz 0) := by
  refine (make_c (.slice none 0 0) 0 m (by omega) (by omega) w (Or.inl rfl)).mono ?_
  rintro e w1 ⟨b, cz, rfl, hz1, hz2, hz3, hB, hF⟩
  have hgl : g < w.heap.size := cell_lt (h 0 (by omega))
  have hbw : w.heap.size ≤ b := by
    rcases hz3 with ⟨_, h⟩ | ⟨h, _⟩
    · exact absurd rfl h
    · exact h
  exact ⟨b, cz, rfl, hz1, hz2, by omega, hbw, Lib.hid (sb_start h hl hn hB hF)⟩
theorem sb_word {w w1 wr : World} {g o n c b cz k i j : Nat} {l : List Int} (h : SbInv w w1 wr g o l b cz k) (hb : Ref.Byt l) (hl : l.length = n) (hi : i = j + 8) (hik : i + 8 * k = n) (hn1 : n ≤ 300) (hc : n ≤ c) (hg : g < b) (hbw : w.heap.size ≤ b) (hk : k < cz) :
    ∃ v : Nat, Hid (Calls Tryz.prog 106 #[.slice (some ⟨g, o + j, none⟩) 8 (c - j)] wr fun e w' => e = .returned (.int .u64 (v : Int)) ∧ ∃ q, w' = wr.drewN q) ∧ Hid (∀ q, SbInv w w1 ((wr.drewN q).setCell ⟨b, k, none⟩ (.int .u64 (v : Int))) g o l b cz (k + 1)) :=
  ⟨_, Lib.hid (word_c g o 8 (c - j) j k l wr h.S hb (by omega) (by omega) (by omega)), Lib.hid (fun q => h.put (n := n) hg hbw hk q _ rfl)⟩
theorem sb_num {i k n m c : Nat} (hik : i + 8 * k = n) (hm : m = (n + 7) / 8) (h8 : 8 ≤ i) (hc : n ≤ c) : ∃ j, i = j + 8 ∧ (i : Int) - 8 = (j : Int) ∧ i - j = 8 ∧ j ≤ i ∧ i ≤ c ∧ ¬ c = j ∧ k < m ∧ ((i : Int) ≤ (c : Int)) ∧ ((j : Int) ≤ (i : Int)) ∧ j + 8 * (k + 1) = n ∧ i ≤ n :=
  ⟨i - 8, by omega, by omega, by omega, by omega, by omega, by omega, by omega, by omega, by omega, by omega, by omega⟩
theorem sb_norm {w w1 wr : World} {g o n b cz m : Nat} {l : List Int} (h : SbInv w w1 wr g o l b cz m) (hb : Ref.Byt l) (hl : l.length = n) (hz1 : m ≤ cz) (hz2 : cz ≤ 4000) (hm : n ≤ 8 * m) (hm1 : 1 ≤ m ∧ m ≤ 40) (hbw : w.heap.size ≤ b) :
    Calls Tryz.prog 107 #[.slice (some ⟨b, 0, none⟩) m cz] wr fun e w' => ∃ k, e = .returned (.slice (some ⟨b, 0, none⟩) k cz) ∧ Hid (k ≤ 40 ∧ k ≤ cz ∧ 1 ≤ cz ∧ cz ≤ 4000 ∧ Nrm (Ref.val l) k ∧ Ws w' b 0 k (Ref.val l) ∧ Blk w' b cz ∧ w.heap.size ≤ b ∧ Fr w w' No) := by
  refine (norm_c b 0 m cz (Ref.val l) wr (by omega) hz1 h.W (by
    rw [bp256]
    exact Nat.lt_of_lt_of_le (Ref.val_lt hb) (Nat.pow_le_pow_right (by decide) (by omega)))).mono ?_
  rintro e w' ⟨k, rfl, hk, hN, rfl⟩
  exact ⟨k, rfl, Lib.hid ⟨by omega, by omega, by omega, hz2, hN, h.W.less hk, h.B, hbw, h.F0⟩⟩
theorem sb_byte {w w1 wr : World} {g o n b cz k i t r X : Nat} {l : List Int} (h : SbInv w w1 wr g o l b cz k) (hb : Ref.Byt l) (hl : l.length = n) (hik : i + 8 * k = n) (hX : X = Ref.val l / 18446744073709551616 ^ k) (htr : t + r = i) (hr : 0 < r) :
    wr.cell? ⟨g, o + (r - 1), none⟩ = some (.int .u8 ((X / 256 ^ t % 256 : Nat) : Int)) := by
  have e : X / 256 ^ t % 256 = Ref.dg l (8 * k + t) := by rw [hX, ← wd_byte, dgv l hb]
  rw [e]
  exact h.S.at hb (8 * k + t) (r - 1) (by omega)
theorem sb_last {n k i X : Nat} {l : List Int} (hb : Ref.Byt l) (hl : l.length = n) (hik : i + 8 * k = n) (hi : i < 8) (hX : X = Ref.val l / 18446744073709551616 ^ k) : X % 256 ^ i = wd (Ref.val l) k := by
  have hV := Ref.val_lt hb
  have h1 : X < 256 ^ i := by
    rw [hX]
    refine Nat.div_lt_of_lt_mul ?_
    rw [bp256, ← Nat.pow_add, show 8 * k + i = l.length from by omega]
    exact hV
  have h2 : X < 18446744073709551616 := Nat.lt_of_lt_of_le h1 (Nat.le_trans (Nat.pow_le_pow_right (by decide) (by omega : i ≤ 8)) (by decide))
  rw [Nat.mod_eq_of_lt h1]
  unfold wd
  rw [← hX, Nat.mod_eq_of_lt h2]
set_option maxHeartbeats 1000000 in
set_option maxRecDepth 100000 in
theorem setBytes_c (g o n c : Nat) (l : List Int) (w : World) (h : Bs w g o l) (hb : Ref.Byt l) (hl : l.length = n) (hn : 1 ≤ n) (hn1 : n ≤ 300) (hc : n ≤ c) :
    Calls Tryz.prog 87 #[.slice none 0 0, .slice (some ⟨g, o, none⟩) n c] w fun e w' => ∃ b k cc, e = .returned (.slice (some ⟨b, 0, none⟩) k cc) ∧ k ≤ 40 ∧ k ≤ cc ∧ 1 ≤ cc ∧ cc ≤ 4000 ∧ Nrm (Ref.val l) k ∧ Ws w' b 0 k (Ref.val l) ∧ Blk w' b cc ∧ w.heap.size ≤ b ∧ Fr w w' No := by
  obtain ⟨m, hm⟩ : ∃ m, m = (n + 7) / 8 := ⟨_, rfl⟩
  have KM := Lib.hid (sb_make h hl hn hn1 m hm)
  have d2 : Hid (((n : Int) + 8 - 1) / 8 = (m : Int)) := Lib.hid (by omega)
  have K0 := Lib.hid (And.intro hb hl)
  have KHm := Lib.hid hm
  have hm19 : m ≤ 40 := by omega
  clear h hb hl hm
  go_enter Tryz.func87, Tryz.ntmps87
  go_wp2_with fail
  rw [d2.out]
  with_reducible refine KM.out.mono ?_
  rintro e w1 ⟨b, cz, rfl, hz1, hz2, hgb, hbw, HI⟩
  clear d2 KM
  go_wp2_with fail
  go_loopw [5, 6] (fun v5 v6 wr => ∃ i k : Nat, i + 8 * k = n ∧ v5 = .int .i64 i ∧ v6 = .int .i64 k ∧ Hid (SbInv w w1 wr g o l b cz k)) (fun v5 _ _ => (intOf v5).toNat)
  case atStart => exact ⟨n, 0, by omega, rfl, rfl, HI⟩
  case round =>
    obtain ⟨i, k, hik, rfl, rfl, HR⟩ := hrel
    by_cases h8 : 8 ≤ i
    · obtain ⟨j, f1, f2, f3, f4, f5, f6, f7, f8, f9, fa, fb⟩ := sb_num hik KHm.out h8 hc
      obtain ⟨v, KC, KN⟩ := sb_word HR.out K0.out.1 K0.out.2 f1 hik hn1 hc hgb hbw (Nat.lt_of_lt_of_le f7 hz1)
      have fz : wr.frozen? ⟨b, k, none⟩ = false := HR.out.B.fz k
      obtain ⟨v0, hv0⟩ := HR.out.B.here k (Nat.lt_of_lt_of_le f7 hz1)
      have g8 : (8 : Int) ≤ (i : Int) := Int.ofNat_le.2 h8
      have gi : i ≤ 300 := Nat.le_trans fb hn1
      have gk : k ≤ 300 := by omega
      have f9' := Lib.hid fa
      clear HR hik HI f1 fb fa
      go_wp2_with fail
      with_reducible refine KC.out.mono ?_
      rintro e w' ⟨rfl, q, rfl⟩
      go_wp2_with fail
      go_roundw
      case rel => exact ⟨j, k + 1, f9'.out, rfl, by go_num, Lib.hid (KN.out q)⟩
      case measure => simp [intOf]; omega
    · have hi8 : i < 8 := by omega
      have g8 : ¬ ((8 : Int) ≤ (i : Int)) := by omega
      rcases Nat.eq_zero_or_pos i with h0 | h0
      · obtain rfl : k = m := by have := KHm.out; omega
        subst h0
        have KN := Lib.hid (sb_norm HR.out K0.out.1 K0.out.2 hz1 hz2 (by have := KHm.out; omega) (by have := KHm.out; omega) hbw)
        clear HR HI
        go_wp2_with fail
        with_reducible refine KN.out.mono ?_
        rintro e w' ⟨q, rfl, HH⟩
        go_wp2_with fail
        go_returns
        exact ⟨b, q, cz, rfl, HH.out⟩
      · obtain rfl : m = k + 1 := by have := KHm.out; omega
        obtain ⟨X, hX⟩ : ∃ X, X = Ref.val l / 18446744073709551616 ^ k := ⟨_, rfl⟩
        have KB := Lib.hid (fun t r => sb_byte (t := t) (r := r) (i := i) HR.out K0.out.1 K0.out.2 hik hX)
        obtain ⟨y, hy⟩ : ∃ y, y = X % 256 ^ i := ⟨_, rfl⟩
        have KL : Hid (y = wd (Ref.val l) k) := Lib.hid (hy.trans (sb_last K0.out.1 K0.out.2 hik hi8 hX))
        have KR : Hid (SbInv w w1 (wr.setCell ⟨b, k, none⟩ (.int .u64 (y : Int))) g o l b cz (k + 1)) := Lib.hid (HR.out.put (k := k) (v := y) (n := n) hgb hbw (by omega) 0 KL.out)
        have KY := Lib.hid hy
        have KN := Lib.hid (sb_norm KR.out K0.out.1 K0.out.2 hz1 hz2 (by have := KHm.out; omega) (by have := KHm.out; omega) hbw)
        have fz : wr.frozen? ⟨b, k, none⟩ = false := HR.out.B.fz k
        obtain ⟨v0, hv0⟩ := HR.out.B.here k (by omega)
        have g0 : (0 : Int) < (i : Int) := by omega
        clear HR HI hX KL KR hy
        go_wp2_with fail
        go_loopw [5, 7, 8] (fun v5 v7 v8 wq => ∃ t r : Nat, t + r = i ∧ v5 = .int .i64 r ∧ v7 = .int .u64 ((X % 256 ^ t : Nat) : Int) ∧ v8 = .int .u64 ((8 * t : Nat) : Int) ∧ wq = wr) (fun v5 _ _ _ => (intOf v5).toNat)
        case atStart => exact ⟨0, i, by omega, rfl, by simp [Nat.mod_one], by simp, rfl⟩
        case round =>
          obtain ⟨t, r, htr, rfl, rfl, rfl, rfl⟩ := hrel
          by_cases hr : 0 < r
          · obtain ⟨q, rfl⟩ : ∃ q, r = q + 1 := ⟨r - 1, by omega⟩
            have cb := KB.out t (q + 1) htr (by omega)
            rw [Nat.add_sub_cancel] at cb
            have KO := Lib.hid (or_step X t (by omega))
            have KW := Lib.hid (wrap_pow (X / 256 ^ t % 256) t (by omega) (Nat.mod_lt _ (by decide)))
            have e1 : ((q + 1 : Nat) : Int) - 1 = (q : Int) := by omega
            have e2 : (0 : Int) < ((q + 1 : Nat) : Int) := by omega
            have e3 : q < n := by omega
            have y8 : X / 256 ^ t % 256 < 256 := Nat.mod_lt _ (by decide)
            obtain ⟨r1, hr1⟩ : ∃ r1, r1 = q + 1 := ⟨_, rfl⟩
            rw [← hr1] at e1 e2 ⊢
            obtain ⟨t8, ht8⟩ : ∃ t8, t8 = 8 * t := ⟨_, rfl⟩
            have ht9 : t8 ≤ 48 := by omega
            rw [← ht8]
            generalize X / 256 ^ t % 256 = x8 at *
            generalize X % 256 ^ t = xt at *
            obtain ⟨xn, hxn⟩ : ∃ xn, xn = X % 256 ^ (t + 1) := ⟨_, rfl⟩
            rw [← hxn] at KO
            have KX1 := Lib.hid hxn
            clear hxn
            go_wp2_with fail
            go_roundw
            case rel => exact ⟨t + 1, q, by omega, rfl, by rw [KW.out, KO.out, KX1.out], by go_num, trivial⟩
            case measure => simp [intOf] <;> omega
          · obtain rfl : r = 0 := by omega
            obtain rfl : t = i := by omega
            rw [← KY.out]
            go_wp2_with fail
            with_reducible refine KN.out.mono ?_
            rintro e w' ⟨q, rfl, HH⟩
            go_wp2_with fail
            go_returns
            exact ⟨b, q, cz, rfl, HH.out⟩
end Go.Proofs.YtldejfallphhbaaGreatDoor
namespace Go.Proofs.YtldejfallphhbaaGreatDoor
set_option linter.unusedVariables false
open Go.RowKit
def Abs (w : World) (v : Value) (X : Nat) : Prop := (v = .slice none 0 0 ∧ X = 0) ∨ ∃ b k cc, v = .slice (some ⟨b, 0, none⟩) k cc ∧ 1 ≤ k ∧ k ≤ 40 ∧ k ≤ cc ∧ 1 ≤ cc ∧ cc ≤ 4000 ∧ Nrm X k ∧ Ws w b 0 k X ∧ Blk w b cc
theorem Abs.fr {w w' : World} {v : Value} {X p : Nat} (h : Abs w v X) (hf : Fr w w' (fun k _ => k = p)) (hp : ∀ b k c, v = .slice (some ⟨b, 0, none⟩) k c → b ≠ p) : Abs w' v X := by
  rcases h with h | ⟨b, k, cc, rfl, h1, h2, h3, h4, h5, h6, h7, h8⟩
  · exact Or.inl h
  · exact Or.inr ⟨b, k, cc, rfl, h1, h2, h3, h4, h5, h6, h7.fr hf (fun i _ => hp _ _ _ rfl), h8.fr hf⟩
structure Bi (w : World) (p : Nat) (neg : Bool) (v : Value) : Prop where
  B : Blk w p 2
  c0 : w.cell? ⟨p, 0, none⟩ = some (.bool neg)
  c1 : w.cell? ⟨p, 1, none⟩ = some v
theorem Bi.fr {w w' : World} {S : Nat → Nat → Prop} {p : Nat} {neg : Bool} {v : Value} (h : Bi w p neg v) (hf : Fr w w' S) (hS : ∀ j, ¬ S p j) : Bi w' p neg v := ⟨h.B.fr hf, hf.keep h.c0 (hS 0), hf.keep h.c1 (hS 1)⟩
theorem Nrm.pos {X k : Nat} (h : Nrm X k) (hk : 1 ≤ k) : 1 ≤ X := Nat.le_trans (bp_pos _) (h.2 hk)
set_option maxRecDepth 100000 in
theorem BitLen_c (p X : Nat) (neg : Bool) (v : Value) (w : World) (h : Bi w p neg v) (hv : Abs w v X) :
    Calls Tryz.prog 109 #[.pointer (some ⟨p, 0, none⟩)] w fun e w' => ∃ L : Nat, e = .returned (.int .i64 L) ∧ (X = 0 → L = 0) ∧ (1 ≤ X → 2 ^ (L - 1) ≤ X ∧ 1 ≤ L) ∧ X < 2 ^ L ∧ L ≤ 2560 ∧ w' = w := by
  have c1 := h.c1
  clear h
  rcases hv with ⟨rfl, rfl⟩ | ⟨b, k, cc, rfl, h1, h2, h3, h4, h5, h6, h7, h8⟩
  · go_enter Tryz.func109, Tryz.ntmps109
    go_wp2_with (first | (go_at_call 123; go_in))
    go_returns
    exact ⟨0, rfl, fun _ => rfl, fun h => absurd h (by omega), by decide, by omega, rfl⟩
  · have K := Lib.hid (bitLen_c b k cc X w h7 h1 (by omega) h6)
    have KX := Lib.hid (Nrm.pos h6 h1)
    clear h1 h3 h4 h5 h6 h7 h8
    go_enter Tryz.func109, Tryz.ntmps109
    go_wp2_with fail
    with_reducible refine K.out.mono ?_
    rintro e w' ⟨L, rfl, g1, g2, g3, g4, rfl⟩
    have KG := Lib.hid (And.intro g1 (And.intro g2 (And.intro g3 g4)))
    clear g1 g2 g3 g4
    go_wp2_with fail
    go_returns
    exact ⟨L, rfl, fun h => absurd KX.out (by omega), fun _ => ⟨KG.out.2.1, KG.out.1⟩, KG.out.2.2.1, by have := KG.out.2.2.2; omega, rfl⟩
set_option maxRecDepth 100000 in
theorem low64_c (X : Nat) (v : Value) (w : World) (hv : Abs w v X) :
    Calls Tryz.prog 110 #[v] w fun e w' => e = .returned (.int .u64 ((wd X 0 : Nat) : Int)) ∧ w' = w := by
  rcases hv with ⟨rfl, rfl⟩ | ⟨b, k, cc, rfl, h1, h2, h3, h4, h5, h6, h7, h8⟩
  · rw [wd_zero]
    go_enter Tryz.func110, Tryz.ntmps110
    go_wp2_with fail
    go_returns
    exact ⟨rfl, rfl⟩
  · have ct := h7 0 h1
    rw [Nat.add_zero] at ct
    have h0 : ¬ k = 0 := by omega
    have h0' : 0 < k := by omega
    clear h2 h3 h4 h5 h6 h7 h8 h1
    generalize wd X 0 = x at *
    go_enter Tryz.func110, Tryz.ntmps110
    go_wp2_with fail
    go_returns
    exact ⟨rfl, rfl⟩
set_option maxRecDepth 100000 in
theorem Int64_c (p X : Nat) (neg : Bool) (v : Value) (w : World) (h : Bi w p neg v) (hv : Abs w v X) (hX : X < 4294967296) :
    Calls Tryz.prog 91 #[.pointer (some ⟨p, 0, none⟩)] w fun e w' => e = .returned (.int .i64 (if neg then -(X : Int) else (X : Int))) ∧ w' = w := by
  have c1 := h.c1
  have c0 := h.c0
  have K := Lib.hid (low64_c X v w hv)
  have e : wd X 0 = X := by unfold wd; rw [Nat.pow_zero, Nat.div_one]; omega
  rw [e] at K
  clear h hv e
  cases neg
  · go_enter Tryz.func91, Tryz.ntmps91
    go_wp2_with fail
    with_reducible refine K.out.mono ?_
    rintro e w' ⟨rfl, rfl⟩
    go_wp2_with fail
    go_returns
    exact ⟨rfl, rfl⟩
  · go_enter Tryz.func91, Tryz.ntmps91
    go_wp2_with fail
    with_reducible refine K.out.mono ?_
    rintro e w' ⟨rfl, rfl⟩
    go_wp2_with fail
    go_returns
    exact ⟨rfl, rfl⟩
end Go.Proofs.YtldejfallphhbaaGreatDoor
namespace Go.Proofs.YtldejfallphhbaaGreatDoor
set_option linter.unusedVariables false
open Go.RowKit
def sml (neg : Bool) (X : Nat) : Bool := decide (X < 2147483648) || (decide (X = 2147483648) && neg)
set_option maxRecDepth 100000 in
theorem isSmall_c (p X : Nat) (neg : Bool) (v : Value) (w : World) (h : Bi w p neg v) (hv : Abs w v X) :
    Calls Tryz.prog 89 #[.pointer (some ⟨p, 0, none⟩)] w fun e w' => e = .returned (.bool (sml neg X)) ∧ w' = w := by
  have K := Lib.hid (BitLen_c p X neg v w h hv)
  have K2 := Lib.hid (fun hX => Int64_c p X neg v w h hv hX)
  clear h hv
  go_enter Tryz.func89, Tryz.ntmps89
  go_wp2_with fail
  with_reducible refine K.out.mono ?_
  rintro e w' ⟨L, rfl, g0, g1, g2, g3, rfl⟩
  rcases Nat.lt_trichotomy L 32 with hL | hL | hL
  · have e : sml neg X = true := by
      have : 2 ^ L ≤ 2 ^ 31 := Nat.pow_le_pow_right (by decide) (by omega)
      unfold sml
      rw [decide_eq_true (by omega : X < 2147483648)]
      rfl
    have KE := Lib.hid e
    have hL' : (L : Int) < 32 := by omega
    clear g0 g1 g2 g3 K K2 e
    go_wp2_with fail
    go_returns
    exact ⟨by rw [KE.out]; first | rfl | (simp; omega), rfl⟩
  · subst hL
    have g4 : X < 4294967296 := g2
    have K3 := Lib.hid (K2.out g4)
    have e : sml neg X = ((if neg then -(X : Int) else (X : Int)) == -2147483648) := by
      have : 2147483648 ≤ X := by
        rcases Nat.eq_zero_or_pos X with h | h
        · have := g0 h; omega
        · exact (g1 h).1
      cases neg
      · unfold sml
        rw [decide_eq_false (by omega : ¬ X < 2147483648), Bool.and_false]
        exact (beq_eq_false_iff_ne.2 (by simp <;> omega)).symm
      · unfold sml
        rw [decide_eq_false (by omega : ¬ X < 2147483648), Bool.and_true, Bool.false_or]
        by_cases h : X = 2147483648
        · subst h; rfl
        · rw [decide_eq_false h]
          exact (beq_eq_false_iff_ne.2 (by simp <;> omega)).symm
    have KE := Lib.hid e
    generalize (if neg then -(X : Int) else (X : Int)) = y at *
    clear g0 g1 g2 g3 K K2 e g4
    go_wp2_with (go_at_call 91; with_reducible refine K3.out.mono ?_; rintro e w2 ⟨rfl, rfl⟩)
    go_returns
    exact ⟨by rw [KE.out]; first | rfl | (simp; omega), rfl⟩
  · have e : sml neg X = false := by
      have : 2147483648 < X := by
        rcases Nat.eq_zero_or_pos X with h | h
        · have := g0 h; omega
        · have h2 := (g1 h).1
          have : 2 ^ 32 ≤ 2 ^ (L - 1) := Nat.pow_le_pow_right (by decide) (by omega)
          omega
      unfold sml
      rw [decide_eq_false (by omega : ¬ X < 2147483648), decide_eq_false (by omega : ¬ X = 2147483648)]
      rfl
    have KE := Lib.hid e
    have hL' : ¬ (L : Int) < 32 := by omega
    have hL2 : ((L : Int) == 32) = false := by simp; omega
    have hL3 : decide ((L : Int) < 32) = false := decide_eq_false hL'
    clear g0 g1 g2 g3 K K2 e
    go_wp2_with fail
    go_returns
    exact ⟨by rw [KE.out]; first | rfl | (simp; omega), rfl⟩
def smallV (x : Int) : Value := .agg #[.int .i64 x, .pointer none]
def bigV (p : Nat) : Value := .agg #[.int .i64 0, .pointer (some ⟨p, 0, none⟩)]
set_option maxRecDepth 100000 in
theorem small_c (x : Int) (w : World) :
    Calls Tryz.prog 90 #[.int .i64 x] w fun e w' => e = .returned (smallV x) ∧ Fr w w' No := by
  go_enter Tryz.func90, Tryz.ntmps90
  go_wp2_with fail
  go_returns
  exact ⟨rfl, (Fr.refl _ _).alloc _⟩
set_option maxRecDepth 100000 in
theorem big_c (p : Nat) (w : World) :
    Calls Tryz.prog 92 #[.pointer (some ⟨p, 0, none⟩)] w fun e w' => e = .returned (bigV p) ∧ Fr w w' No := by
  go_enter Tryz.func92, Tryz.ntmps92
  go_wp2_with fail
  go_returns
  exact ⟨rfl, (Fr.refl _ _).alloc _⟩
end Go.Proofs.YtldejfallphhbaaGreatDoor
namespace Go.Proofs.YtldejfallphhbaaGreatDoor
set_option linter.unusedVariables false
open Go.RowKit
theorem info103 : (Tryz.prog.info? 103).map (fun i => (i.zero, i.size, i.bytes)) = some (some (.agg #[.bool false, .slice none 0 0]), 2, 32) := by kernel_rfl
theorem neq_other {p q : Nat} {n1 n2 : Nat} (w : World) (hne : p ≠ q) (hp : Blk w p n1) (hq : Blk w q n2) :
    (binOp .neq 70 (.pointer (some ⟨p, 0, none⟩)) (.pointer (some ⟨q, 0, none⟩))).run Tryz.prog w = .ok (.bool true) w := by
  obtain ⟨ax, tx, hx1, _⟩ := hp
  obtain ⟨ay, ty, hy1, _⟩ := hq
  obtain ⟨j, hte⟩ : ∃ j, Tryz.prog.info? 103 = some j := by
    cases h : Tryz.prog.info? 103 with
    | none => have := info103; rw [h] at this; cases this
    | some j => exact ⟨j, rfl⟩
  have hsz : j.size ≠ 0 := by
    have := info103
    rw [hte] at this
    simp only [Option.map_some, Option.some.injEq, Prod.mk.injEq] at this
    omega
  have h : ∀ d : Nat, (Op.equalIn (d + 1) 70 (.pointer (some ⟨p, 0, none⟩)) (.pointer (some ⟨q, 0, none⟩))).run Tryz.prog w = .ok false w := fun d => by
    simp [Op.equalIn, run_underlying Tryz.underlying70, sizeOf, typeInfo, hte, hsz, run_sameAddr_other w (a := ⟨p, 0, none⟩) (b := ⟨q, 0, none⟩) (by simp [hne]) hx1 hy1]
  simp only [binOp]
  simp [Op.equal, Op.maxDepth, h 9999]
theorem neq_same (p : Nat) (w : World) : (binOp .neq 70 (.pointer (some ⟨p, 0, none⟩)) (.pointer (some ⟨p, 0, none⟩))).run Tryz.prog w = .ok (.bool false) w := by
  obtain ⟨j, hte⟩ : ∃ j, Tryz.prog.info? 103 = some j := by
    cases h : Tryz.prog.info? 103 with
    | none => have := info103; rw [h] at this; cases this
    | some j => exact ⟨j, rfl⟩
  have h : ∀ d : Nat, (Op.equalIn (d + 1) 70 (.pointer (some ⟨p, 0, none⟩)) (.pointer (some ⟨p, 0, none⟩))).run Tryz.prog w = .ok true w := fun d => by
    simp [Op.equalIn, run_underlying Tryz.underlying70, sizeOf, typeInfo, hte, run_sameAddr_same]
  simp only [binOp]
  simp [Op.equal, Op.maxDepth, h 9999]
set_option maxRecDepth 100000 in
theorem set_same (p : Nat) (neg : Bool) (v : Value) (w : World) (h : Bi w p neg v) :
    Calls Tryz.prog 88 #[.pointer (some ⟨p, 0, none⟩), .pointer (some ⟨p, 0, none⟩)] w fun e w' => e = .returned (.pointer (some ⟨p, 0, none⟩)) ∧ w' = w := by
  have hc := neq_same p w
  go_enter Tryz.func88, Tryz.ntmps88
  go_wp2_with fail
  go_returns
  exact ⟨rfl, rfl⟩
set_option maxRecDepth 100000 in
theorem neg_c (p X : Nat) (v : Value) (w : World) (h : Bi w p false v) (hv : Abs w v X) :
    Calls Tryz.prog 69 #[.pointer (some ⟨p, 0, none⟩), .pointer (some ⟨p, 0, none⟩)] w fun e w' => ∃ ng, e = .returned (.pointer (some ⟨p, 0, none⟩)) ∧ ng = decide (1 ≤ X) ∧ Bi w' p ng v ∧ Fr w w' (fun k _ => k = p) := by
  have K := Lib.hid (set_same p false v w h)
  have c0 := h.c0
  have c1 := h.c1
  have fz := h.B.fz 0
  have KN : Hid (∀ ng, Bi (w.setCell ⟨p, 0, none⟩ (.bool ng)) p ng v ∧ Fr w (w.setCell ⟨p, 0, none⟩ (.bool ng)) (fun k _ => k = p)) := Lib.hid (fun ng => by
    have hF : Fr w (w.setCell ⟨p, 0, none⟩ (.bool ng)) (fun k _ => k = p) := (Fr.refl _ _).set _ _ _ (fun _ => rfl)
    exact ⟨⟨h.B.fr hF, h.B.get 0 (by decide) _, by rw [cell_set_ne _ _ _ _ _ _ (by simp)]; exact h.c1⟩, hF⟩)
  clear h
  rcases hv with ⟨rfl, rfl⟩ | ⟨b, k, cc, rfl, h1, h2, h3, h4, h5, h6, h7, h8⟩
  · go_enter Tryz.func69, Tryz.ntmps69
    go_wp2_with fail
    with_reducible refine K.out.mono ?_
    rintro e w' ⟨rfl, rfl⟩
    go_wp2_with fail
    go_returns
    exact ⟨false, rfl, rfl, (KN.out false).1, (KN.out false).2⟩
  · have KX := Lib.hid (Nrm.pos h6 h1)
    clear h2 h3 h4 h5 h6 h7 h8
    have h1' : 0 < k := h1
    go_enter Tryz.func69, Tryz.ntmps69
    go_wp2_with fail
    with_reducible refine K.out.mono ?_
    rintro e w' ⟨rfl, rfl⟩
    go_wp2_with fail
    go_returns
    exact ⟨true, rfl, (decide_eq_true KX.out).symm, (KN.out true).1, (KN.out true).2⟩
end Go.Proofs.YtldejfallphhbaaGreatDoor
