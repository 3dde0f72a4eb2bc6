/-
  A part of the proof of FnMathWhole (packed out of smaller texts by a program of this session; what the proof does not reach is left out).
-/
import Derived.Test.YtldejfallphhbaaGreatDoorZl
import Derived.Test.YtldejfallphhbaaGreatDoorZk
import Derived.Test.YtldejfallphhbaaGreatDoorZb
import Derived.Lib.QuietBelow
import Derived.Deep.RegionHeld3
namespace Go.Proofs.YtldejfallphhbaaGreatDoor
set_option linter.unusedVariables false
open Go.RowKit Go.Proofs.YtldejfallphhbaaGreatDoorW.PrintWords Go.Proofs.YtldejfallphhbaaGreatDoorW.PrintLast Go.Proofs.YtldejfallphhbaaGreatDoorW.PrintMore
open PNearest
theorem fr_of_below {w w' : World} (h : Below w.heap.size w w') : Fr w w' No :=
  ⟨h.os, h.tape, h.output, h.size, fun k j hk _ => World.cell?_of_block (w := w) (h.block k hk), fun k arr T hk => ⟨arr, (h.block k (Array.getElem?_eq_some_iff.1 hk).1).trans hk, rfl⟩, fun k hk _ => h.block k hk⟩
theorem below_of_fr {w w' : World} (h : Fr w w' No) : Below w.heap.size w w' := ⟨h.os, h.tape, h.output, h.size, fun k hk => h.block k hk (fun _ c => c)⟩
theorem dl_of_R {w : World} {base : Nat} {ok : Nat → Prop} {v : Value} {l : List Int} (h : Kd.R (Kd.int .u8) 5 w base ok v l) : Dl w v l := by
  by_cases h0 : l.length = 0
  · have hl : l = [] := List.eq_nil_of_length_eq_zero h0
    subst hl
    obtain ⟨A, c, rfl⟩ := Kd.R_slice h
    exact Or.inl ⟨rfl, A, c, rfl⟩
  · obtain ⟨inner, ho⟩ := Kd.R_own h
    rcases ho.2 with ⟨rfl, hl⟩ | ⟨g, cap, cur, rfl, hg, hh, r⟩
    · exact absurd hl h0
    · refine Or.inr ⟨g, 0, cap, rfl, (Kd.R_reads' h).2.1, fun i hi => ?_, by omega⟩
      have := (Kd.R_cell (0 : Int) h (i : Int) (by omega) (by omega)).1
      rw [Int.toNat_natCast] at this
      rw [Nat.zero_add, this]
      unfold rdOf
      rw [Int.toNat_natCast]
def Rb (w : World) (A : Option Addr) (c : Nat) (l : List Int) : Prop := Kd.C (Kd.int .u8) w A l.length l ∧ l.length ≤ c
theorem Rb.fr {w w' : World} {A : Option Addr} {c : Nat} {l : List Int} (h : Rb w A c l) (hf : Fr w w' No) : Rb w' A c l := ⟨Kd.C_below h.1 (below_of_fr hf), h.2⟩
theorem Rb.of_R {w : World} {base : Nat} {ok : Nat → Prop} {v : Value} {l : List Int} (h : Kd.R (Kd.int .u8) 5 w base ok v l) : ∃ A c, v = .slice A l.length c ∧ Rb w A c l := by
  obtain ⟨A, c, rfl⟩ := Kd.R_slice h
  exact ⟨A, c, rfl, (Kd.R_reads' h).2.2, (Kd.R_reads' h).2.1⟩
theorem Rb.of_dl {w : World} {v : Value} {l : List Int} (h : Dl w v l) (hl : l.length ≤ 1000000) : ∃ A c, v = .slice A l.length c ∧ Rb w A c l := by
  rcases h with ⟨rfl, A, c, rfl⟩ | ⟨g, o, c, rfl, h1, h2, h3⟩
  · exact ⟨A, c, rfl, ⟨rfl, by simp, fun h => absurd h (by simp)⟩, Nat.zero_le _⟩
  · refine ⟨some ⟨g, o, none⟩, c, rfl, ⟨rfl, by omega, fun _ => ⟨⟨g, o, none⟩, rfl, fun j p hj => ⟨[.int .u8 p], rfl, rfl, fun i u hu => ?_⟩⟩⟩, h1⟩
    have hjl : j < l.length := by
      rcases Nat.lt_or_ge j l.length with h | h
      · exact h
      · rw [List.getElem?_eq_none h] at hj; cases hj
    obtain rfl : i = 0 := by
      rcases Nat.eq_zero_or_pos i with h | h
      · exact h
      · rw [List.getElem?_eq_none (by simp; omega)] at hu; cases hu
    have hu' : Value.int .u8 p = u := by simpa using hu
    rw [show j * (Kd.int .u8).sz + 0 = j from by show j * 1 + 0 = j; omega]
    have e : (⟨g, o, none⟩ : Addr).add j = ⟨g, o + j, none⟩ := by unfold Addr.add; split <;> simp_all
    rw [e, h2 j hjl, ← hu', List.getD, hj]
    rfl
def Sp (w : World) (v : Value) (z : Int) : Prop := ∃ s A c l, v = .agg #[.bool s, .slice A l.length c] ∧ Rb w A c l ∧ Ref.Is s l z
theorem Sp.fr {w w' : World} {v : Value} {z : Int} (h : Sp w v z) (hf : Fr w w' No) : Sp w' v z := by
  obtain ⟨s, A, c, l, rfl, h1, h2⟩ := h
  exact ⟨s, A, c, l, rfl, h1.fr hf, h2⟩
def Sm (z : Int) : Prop := z.natAbs < 256 ^ 400
theorem Ref.Is.len {s : Bool} {l : List Int} {z : Int} (h : Ref.Is s l z) (hz : Sm z) : l.length ≤ 400 := h.can.len_le hz
def Sq (w : World) (lo : Nat) (v : Value) (z : Int) : Prop := ∃ s A c l, v = .agg #[.bool s, .slice A l.length c] ∧ Rb w A c l ∧ Ref.Is s l z ∧ ∀ ad, A = some ad → 0 < l.length → lo ≤ ad.block
theorem Sq.sp {w : World} {lo : Nat} {v : Value} {z : Int} (h : Sq w lo v z) : Sp w v z := by
  obtain ⟨s, A, c, l, h0, h1, h2, _⟩ := h
  exact ⟨s, A, c, l, h0, h1, h2⟩
theorem Sq.fr {w w' : World} {lo : Nat} {v : Value} {z : Int} (h : Sq w lo v z) (hf : Fr w w' No) : Sq w' lo v z := by
  obtain ⟨s, A, c, l, rfl, h1, h2, h3⟩ := h
  exact ⟨s, A, c, l, rfl, h1.fr hf, h2, h3⟩
theorem Sq.mono {w : World} {lo lo2 : Nat} {v : Value} {z : Int} (h : Sq w lo v z) (hl : lo2 ≤ lo) : Sq w lo2 v z := by
  obtain ⟨s, A, c, l, rfl, h1, h2, h3⟩ := h
  exact ⟨s, A, c, l, rfl, h1, h2, fun ad ha hn => Nat.le_trans hl (h3 ad ha hn)⟩
theorem Rb.set {w : World} {A : Option Addr} {c lo : Nat} {l : List Int} (h : Rb w A c l) (hl : ∀ ad, A = some ad → 0 < l.length → lo ≤ ad.block) (g i : Nat) (u : Value) (hg : g < lo) : Rb (w.setCell ⟨g, i, none⟩ u) A c l :=
  ⟨Kd.C_keep 0 h.1 ((KeepBut.refl w g none).set_ i u) (fun ad ha hn => by have := hl ad ha hn; omega), h.2⟩
theorem Sq.set {w : World} {lo : Nat} {v : Value} {z : Int} (h : Sq w lo v z) (g i : Nat) (u : Value) (hg : g < lo) : Sq (w.setCell ⟨g, i, none⟩ u) lo v z := by
  obtain ⟨s, A, c, l, rfl, h1, h2, h3⟩ := h
  exact ⟨s, A, c, l, rfl, h1.set h3 g i u hg, h2, h3⟩
theorem Sp.of_R {w : World} {base : Nat} {v : Value} {s : Bool} {l : List Int} {z : Int} (h : Kd.R (Kd.int .u8) 5 w base (fun _ => True) v l) (hz : Ref.Is s l z) : Sq w base (.agg #[.bool s, v]) z := by
  obtain ⟨A, c, rfl, h1⟩ := Rb.of_R h
  exact ⟨s, A, c, l, rfl, h1, hz, fun ad ha _ => by subst ha; exact Kd.R_base h _ rfl⟩
theorem of_c (s : Bool) (A : Option Addr) (c : Nat) (l : List Int) (N : Nat) (w : World) (h : Rb w A c l) (hb : Ref.Byt l) (hl : l.length ≤ 1000000) (hN : Ref.val l = N) :
    Calls Tryz.prog 6 #[.bool s, .slice A l.length c] w fun e w' => ∃ v, e = .returned v ∧ Hid (Sq w' w.heap.size v (Ref.iv s N) ∧ Fr w w' No) := by
  obtain ⟨r, h1, h2⟩ := Ref.of_evs s hb hl
  rw [hN] at h1 h2
  obtain ⟨k, hk⟩ := Ref.ev_at h1
  refine (spec_Of.calls k s A c l _ r w h.1 h.2 hk).mono ?_
  rintro e w' ⟨v, rfl, hR, hB⟩
  exact ⟨_, rfl, Lib.hid ⟨Sp.of_R hR (Ref.Is.of h2), fr_of_below hB⟩⟩
theorem minus_c (v : Value) (z : Int) (w : World) (h : Sp w v z) (hz : Sm z) :
    Calls Tryz.prog 29 #[v] w fun e w' => ∃ v', e = .returned v' ∧ Hid (Sq w' w.heap.size v' (-z) ∧ Fr w w' No) := by
  obtain ⟨s, A, c, l, rfl, h1, h2⟩ := h
  have := h2.len hz
  obtain ⟨t, r, h3, h4⟩ := Ref.minus_ev h2 (by omega)
  obtain ⟨k, hk⟩ := Ref.ev_at h3
  refine (spec_Int_Minus.calls k s A c l t r w h1.1 h1.2 hk).mono ?_
  rintro e w' ⟨v, rfl, hR, hB⟩
  exact ⟨_, rfl, Lib.hid ⟨Sp.of_R hR h4, fr_of_below hB⟩⟩
theorem add_c (u v : Value) (y z : Int) (w : World) (hu : Sp w u y) (hv : Sp w v z) (hy : Sm y) (hz : Sm z) :
    Calls Tryz.prog 40 #[u, v] w fun e w' => ∃ v', e = .returned v' ∧ Hid (Sq w' w.heap.size v' (y + z) ∧ Fr w w' No) := by
  obtain ⟨s, A, c, l, rfl, h1, h2⟩ := hu
  obtain ⟨s', A', c', l', rfl, h1', h2'⟩ := hv
  have := h2.len hy
  have := h2'.len hz
  obtain ⟨t, r, h3, h4⟩ := Ref.add_ev2 h2 h2' (by omega) (by omega)
  obtain ⟨k, hk⟩ := Ref.ev_at h3
  refine (spec_Int_Add.calls k s A c l s' A' c' l' t r w h1.1 h1.2 h1'.1 h1'.2 hk).mono ?_
  rintro e w' ⟨v, rfl, hR, hB⟩
  exact ⟨_, rfl, Lib.hid ⟨Sp.of_R hR h4, fr_of_below hB⟩⟩
theorem sub_c (u v : Value) (y z : Int) (w : World) (hu : Sp w u y) (hv : Sp w v z) (hy : Sm y) (hz : Sm z) :
    Calls Tryz.prog 33 #[u, v] w fun e w' => ∃ v', e = .returned v' ∧ Hid (Sq w' w.heap.size v' (y - z) ∧ Fr w w' No) := by
  obtain ⟨s, A, c, l, rfl, h1, h2⟩ := hu
  obtain ⟨s', A', c', l', rfl, h1', h2'⟩ := hv
  have := h2.len hy
  have := h2'.len hz
  obtain ⟨t, r, h3, h4⟩ := Ref.sub_ev2 h2 h2' (by omega) (by omega)
  obtain ⟨k, hk⟩ := Ref.ev_at h3
  refine (spec_Int_Sub.calls k s A c l s' A' c' l' t r w h1.1 h1.2 h1'.1 h1'.2 hk).mono ?_
  rintro e w' ⟨v, rfl, hR, hB⟩
  exact ⟨_, rfl, Lib.hid ⟨Sp.of_R hR h4, fr_of_below hB⟩⟩
theorem cmp_c (u v : Value) (y z : Int) (w : World) (hu : Sp w u y) (hv : Sp w v z) (hy : Sm y) (hz : Sm z) :
    Calls Tryz.prog 26 #[u, v] w fun e w' => e = .returned (.int .i64 (Ref.cmpI y z)) ∧ Hid (Fr w w' No) := by
  obtain ⟨s, A, c, l, rfl, h1, h2⟩ := hu
  obtain ⟨s', A', c', l', rfl, h1', h2'⟩ := hv
  have := h2.len hy
  have := h2'.len hz
  obtain ⟨k, hk⟩ := Ref.ev_at (Ref.cmp_ev2 h2 h2' (by omega) (by omega))
  refine (spec_Int_Cmp.calls k s A c l s' A' c' l' _ w h1.1 h1.2 h1'.1 h1'.2 hk).mono ?_
  rintro e w' ⟨rfl, hB⟩
  exact ⟨rfl, Lib.hid (fr_of_below hB)⟩
theorem one_c (w : World) : Calls Tryz.prog 34 #[.int .i64 1] w fun e w' => ∃ v', e = .returned v' ∧ Hid (Sq w' w.heap.size v' 1 ∧ Fr w w' No) := by
  refine (spec_Small.calls 20 1 false [1] w (Ref.small_one 20 (Nat.le_refl _))).mono ?_
  rintro e w' ⟨v, rfl, hR, hB⟩
  exact ⟨_, rfl, Lib.hid ⟨Sp.of_R hR ⟨Ref.can_one, by decide⟩, fr_of_below hB⟩⟩
theorem lshI_c (v : Value) (z : Int) (n : Nat) (w : World) (h : Sp w v z) (hz : Sm z) (hn : n ≤ 4000) :
    Calls Tryz.prog 55 #[v, .int .i64 (n : Int)] w fun e w' => ∃ v', e = .returned v' ∧ Hid (Sq w' w.heap.size v' (z * ((2 ^ n : Nat) : Int)) ∧ Fr w w' No) := by
  obtain ⟨s, A, c, l, rfl, h1, h2⟩ := h
  have := h2.len hz
  obtain ⟨t, r, h3, h4⟩ := Ref.lsh_ev2 h2 (by omega) n hn
  obtain ⟨k, hk⟩ := Ref.ev_at h3
  refine (spec_Int_Lsh.calls k s A c l _ t r w h1.1 h1.2 hk).mono ?_
  rintro e w' ⟨v, rfl, hR, hB⟩
  exact ⟨_, rfl, Lib.hid ⟨Sp.of_R hR h4, fr_of_below hB⟩⟩
theorem bytesOf_c (u : Nat) (hu : u < 18446744073709551616) (w : World) :
    Calls Tryz.prog 54 #[.int .u64 (u : Int)] w fun e w' => ∃ A c l, e = .returned (.slice A l.length c) ∧ Hid (Rb w' A c l ∧ Ref.Byt l ∧ l.length ≤ 8 ∧ Ref.val l = u ∧ Fr w w' No) := by
  refine (spec_bytesOf.calls 20 _ _ w (Ref.bytes_f u 20 (Nat.le_refl _))).mono ?_
  rintro e w' ⟨v, rfl, hR, hB⟩
  obtain ⟨A, c, rfl, h1⟩ := Rb.of_R hR
  exact ⟨A, c, _, rfl, Lib.hid ⟨h1, Ref.bytes_byt u, by simp, Ref.bytes_val hu, fr_of_below hB⟩⟩
end Go.Proofs.YtldejfallphhbaaGreatDoor
namespace Go.Proofs.YtldejfallphhbaaGreatDoor
set_option linter.unusedVariables false
set_option exponentiation.threshold 3000
open Go.RowKit
theorem and_low (m k : Nat) (hm : m < 18446744073709551616) (hk : k ≤ 63) : bits .and .u64 (m : Int) ((2 ^ k - 1 : Nat) : Int) = ((m % 2 ^ k : Nat) : Int) := by
  have hle : 2 ^ k ≤ 2 ^ 63 := Nat.pow_le_pow_right (by decide) hk
  have h := bits_and_u64_nat m (2 ^ k - 1) hm (by omega)
  rw [Nat.and_two_pow_sub_one_eq_mod] at h
  exact h
theorem parts_U (x : Nat) (hx : x < 18446744073709551616) (hf : Fl.Fin x) : mantOf x < 9007199254740992 ∧ -1074 ≤ expOf x ∧ expOf x ≤ 971 ∧ mantOf x * 2 ^ (expOf x + 1074).toNat = Fl.U (Fl.rg x) ∧ ((x : Int) / 9223372036854775808 == 1) = Fl.sg x := by
  have hE : x / 4503599627370496 % 2048 = Fl.rg x / 4503599627370496 := by unfold Fl.rg; omega
  have hF : x % 4503599627370496 = Fl.rg x % 4503599627370496 := by unfold Fl.rg; omega
  have hM := Fl.mant_law x
  unfold mantOf expOf
  rw [hE, hF]
  unfold Fl.Fin at hf
  refine ⟨by split <;> omega, by split <;> omega, by split <;> omega, ?_, ?_⟩
  · rw [← hM]
    congr 1
    congr 1
    split <;> omega
  · unfold Fl.sg
    have : x / 9223372036854775808 = 0 ∨ x / 9223372036854775808 = 1 := by omega
    rcases this with h | h
    · rw [h, show (x : Int) / 9223372036854775808 = 0 from by omega]; rfl
    · rw [h, show (x : Int) / 9223372036854775808 = 1 from by omega]; rfl
def Nw (x : Nat) : Nat := Fl.U (Fl.rg x) / Fl.B
def Aw (x : Nat) : Bool := decide (Fl.U (Fl.rg x) % Fl.B = 0)
theorem whole_up (m j : Nat) (X : Nat) (h : m * 2 ^ (j + 1074) = X) : X / Fl.B = m * 2 ^ j ∧ X % Fl.B = 0 := by
  have e : X = m * 2 ^ j * Fl.B := by
    rw [← h]; unfold Fl.B; rw [Nat.pow_add, Nat.mul_assoc]
  rw [e]
  exact ⟨Nat.mul_div_cancel _ Fl.B_pos, Nat.mul_mod_left _ _⟩
theorem whole_low (m k : Nat) (hk : k ≤ 1074) (X : Nat) (h : m * 2 ^ (1074 - k) = X) : X / Fl.B = m / 2 ^ k ∧ (X % Fl.B = 0 ↔ m % 2 ^ k = 0) := by
  have hp : 0 < 2 ^ (1074 - k) := Nat.pow_pos (by decide)
  have e : Fl.B = 2 ^ k * 2 ^ (1074 - k) := (Fl.B_of k (1074 - k) (by omega)).symm
  rw [e, ← h]
  refine ⟨Nat.mul_div_mul_right _ _ hp, ?_⟩
  rw [Nat.mul_mod_mul_right]
  constructor
  · intro h; rcases Nat.mul_eq_zero.1 h with h | h; exact h; omega
  · intro h; rw [h, Nat.zero_mul]
theorem iv_sm (s : Bool) (m : Nat) (h : m < 256 ^ 400) : Sm (Ref.iv s m) := by
  unfold Sm Ref.iv
  cases s <;> simpa using h
theorem sp_store {w w3 w4 : World} {r lo : Nat} {s : Bool} {A : Option Addr} {n c : Nat} {z : Int} (hB : Blk w3 r 2) (hF : Fr w w3 No) (hS : Sq w3 lo (.agg #[.bool s, .slice A n c]) z) (hr : w.heap.size ≤ r) (hlo : r < lo) (h : (w3.setCell ⟨r, 0, none⟩ (.bool s)).setCell ⟨r, 1, none⟩ (.slice A n c) = w4) :
    w4.cell? ⟨r, 0, none⟩ = some (.bool s) ∧ w4.cell? ⟨r, 1, none⟩ = some (.slice A n c) ∧ Sq w4 w.heap.size (.agg #[.bool s, .slice A n c]) z ∧ Fr w w4 No := by
  obtain ⟨a, b, c', d⟩ := rd3 hB h hF hr
  have hs := (hS.set r 0 (.bool s) hlo).set r 1 (.slice A n c) hlo
  rw [h] at hs
  exact ⟨a, b, hs.mono (by omega), c'⟩
theorem iv_zero (s : Bool) : Ref.iv s 0 = 0 := by unfold Ref.iv; cases s <;> rfl
theorem nil_sq (w : World) (lo : Nat) : Sq w lo (.agg #[.bool false, .slice none 0 0]) 0 := ⟨false, none, 0, [], rfl, ⟨⟨rfl, by simp, fun h => absurd h (by simp)⟩, Nat.le_refl _⟩, ⟨Ref.Can.nil, by decide⟩, fun ad h => by cases h⟩
set_option maxRecDepth 100000 in
set_option maxHeartbeats 1000000 in
theorem whole_c (x : Nat) (hx : x < 18446744073709551616) (hf : Fl.Fin x) (w : World) :
    Calls Tryz.prog 30 #[.float .f64 x] w fun e w' => ∃ v, e = .returned (.tuple #[v, .bool (Aw x)]) ∧ Hid (Sq w' w.heap.size v (Ref.iv (Fl.sg x) (Nw x)) ∧ Fr w w' No) := by
  obtain ⟨hm, he1, he2, hU, hs⟩ := parts_U x hx hf
  have KP := Lib.hid (parts_c x)
  rw [hs] at KP
  have A0 := new40 w #[.bool false, .slice none 0 0] 31
  have KA := Lib.hid A0
  have KB := Lib.hid (Blk.new w #[.bool false, .slice none 0 0] 31 2 rfl)
  obtain ⟨N, hN⟩ : ∃ N, N = Nw x := ⟨_, rfl⟩
  obtain ⟨al, hal⟩ : ∃ al, al = Aw x := ⟨_, rfl⟩
  rw [← hN, ← hal]
  unfold Nw at hN
  unfold Aw at hal
  generalize mantOf x = m at *
  generalize expOf x = e at *
  generalize Fl.U (Fl.rg x) = X at *
  generalize Fl.sg x = s at *
  have KT := Lib.hid (bytesOf_c m (by omega))
  have KO := Lib.hid (fun A c l w h hb hl hv => of_c s A c l m w h hb hl hv)
  clear A0 hx hf
  by_cases c1 : 0 ≤ e
  · obtain ⟨j, rfl⟩ : ∃ j : Nat, e = (j : Int) := ⟨e.toNat, by omega⟩
    obtain ⟨g1, g2⟩ := whole_up m j X (by rw [← hU]; congr 2)
    rw [g1] at hN
    rw [g2] at hal
    have hal' : al = true := by rw [hal]; exact decide_eq_true rfl
    subst hal'
    have KL := Lib.hid (fun v w (h : Sp w v (Ref.iv s m)) => lshI_c v (Ref.iv s m) j w h (iv_sm s m (by omega)) (by omega))
    rw [show Ref.iv s m * ((2 ^ j : Nat) : Int) = Ref.iv s N from by rw [hN]; unfold Ref.iv; cases s <;> simp [Int.neg_mul]] at KL
    clear hm he1 he2 hU hs hN hal g1 g2 c1
    go_enter Tryz.func30, Tryz.ntmps30
    go_wp2_with fail
    refine (KP.out _).mono ?_
    rintro en w1 ⟨rfl, rfl⟩
    go_wp2_with fail
    with_reducible refine (KT.out _).mono ?_
    rintro en w2 ⟨A2, c2, l2, rfl, H2⟩
    go_wp2_with fail
    with_reducible refine (KO.out A2 c2 l2 w2 H2.out.1 H2.out.2.1 (by have := H2.out.2.2.1; omega) H2.out.2.2.2.1).mono ?_
    rintro en w3 ⟨v3, rfl, H3⟩
    have H3' := H3.out
    obtain ⟨⟨s3, A3, c3, l3, rfl, hR3, hI3, hL3⟩, hF3⟩ := H3'
    have f4 := new40 w3 #[.bool s3, .slice A3 l3.length c3] 31
    have K4 := Lib.hid (KL.out _ (w3.alloc (.cells #[.bool s3, .slice A3 l3.length c3] 31)) (H3.out.1.sp.fr f4))
    have KF := Lib.hid (((KA.out.trans H2.out.2.2.2.2 (fun _ _ _ c => c)).trans hF3 (fun _ _ _ c => c)).trans f4 (fun _ _ _ c => c))
    have KZ : Hid (w.heap.size < (w3.alloc (.cells #[.bool s3, .slice A3 l3.length c3] 31)).heap.size) := Lib.hid (by have := hF3.size; have a := H2.out.2.2.2.2.size; rw [size_new] at *; omega)
    have KB4 := Lib.hid (((KB.out.fr H2.out.2.2.2.2).fr hF3).fr f4)
    clear hR3 hI3 hF3 hL3 f4 H3 H2 KT KO KL KP
    go_wp2_with fail
    with_reducible refine K4.out.mono ?_
    rintro en w5 ⟨v5, rfl, H5⟩
    have H5' := H5.out
    obtain ⟨⟨s5, A5, c5, l5, rfl, hR5, hI5, hL5⟩, hF5⟩ := H5'
    have hB5 := KB4.out.fr hF5
    have fz0 := hB5.fz 0
    have fz1 := hB5.fz 1
    obtain ⟨u0, hu0⟩ := hB5.here 0 (by decide)
    obtain ⟨u1, hu1⟩ := hB5.here 1 (by decide)
    have K5 := Lib.hid (And.intro hB5 (And.intro (KF.out.trans hF5 (fun _ _ _ c => c)) H5.out.1))
    clear hR5 hI5 hL5 hF5 hB5 H5 KF KB4 K4 KA KB
    go_wp2_with fail
    generalize hw : World.setCell _ _ _ = w6
    obtain ⟨r0, r1, r2⟩ := sp_store (w := w) K5.out.1 K5.out.2.1 K5.out.2.2 (Nat.le_refl _) KZ.out hw
    clear hw
    refine bodyPost_ret (by simp [results, Tryz.results30, go_sem, r0, r1]; try rfl) rfl ?_
    exact ⟨_, rfl, Lib.hid r2⟩
  · by_cases c2 : e < -63
    · have hN0 : N = 0 ∧ (al = decide (m = 0)) := by
        obtain ⟨j, hj⟩ : ∃ j : Nat, j = (e + 1074).toNat := ⟨_, rfl⟩
        rw [← hj] at hU
        have hlt : X < Fl.B := by
          rw [← hU]
          have h1 : m * 2 ^ j < 2 ^ 53 * 2 ^ j := Nat.mul_lt_mul_of_pos_right hm (Nat.pow_pos (by decide))
          rw [← Nat.pow_add] at h1
          refine Nat.lt_of_lt_of_le h1 ?_
          unfold Fl.B
          exact Nat.pow_le_pow_right (by decide) (by omega)
        rw [Nat.div_eq_of_lt hlt] at hN
        rw [Nat.mod_eq_of_lt hlt] at hal
        refine ⟨hN, ?_⟩
        rw [hal]
        refine decide_eq_decide.2 ?_
        rw [← hU]
        constructor
        · intro h
          rcases Nat.mul_eq_zero.1 h with h | h
          · exact h
          · exact absurd h (Nat.ne_of_gt (Nat.pow_pos (by decide)))
        · intro h; rw [h, Nat.zero_mul]
      obtain ⟨rfl, hal2⟩ := hN0
      have q1 : ((m : Int) == 0) = al := by rw [hal2]; exact Bool.eq_iff_iff.2 (by simp)
      have q2 : ¬ 0 ≤ e := c1
      have KI := Lib.hid (iv_zero s)
      clear hm he1 he2 hU hs hN hal c1 hal2
      go_enter Tryz.func30, Tryz.ntmps30
      go_wp2_with fail
      refine (KP.out _).mono ?_
      rintro en w1 ⟨rfl, rfl⟩
      go_wp2_with fail
      with_reducible refine (KT.out _).mono ?_
      rintro en w2 ⟨A2, c2, l2, rfl, H2⟩
      go_wp2_with fail
      with_reducible refine (KO.out A2 c2 l2 w2 H2.out.1 H2.out.2.1 (by have := H2.out.2.2.1; omega) H2.out.2.2.2.1).mono ?_
      rintro en w3 ⟨v3, rfl, H3⟩
      have H3' := H3.out
      obtain ⟨⟨s3, A3, c3, l3, rfl, hR3, hI3, hL3⟩, hF3⟩ := H3'
      have f4 := new40 w3 #[.bool s3, .slice A3 l3.length c3] 31
      have KF := Lib.hid (((KA.out.trans H2.out.2.2.2.2 (fun _ _ _ c => c)).trans hF3 (fun _ _ _ c => c)).trans f4 (fun _ _ _ c => c))
      have KZ : Hid (w.heap.size < (w3.alloc (.cells #[.bool s3, .slice A3 l3.length c3] 31)).heap.size) := Lib.hid (by have := hF3.size; have a := H2.out.2.2.2.2.size; rw [size_new] at *; omega)
      have KB4 := Lib.hid (((KB.out.fr H2.out.2.2.2.2).fr hF3).fr f4)
      clear hR3 hI3 hF3 hL3 f4 H3 H2 KT KO KP
      have hB5 := KB4.out
      have fz0 := hB5.fz 0
      have fz1 := hB5.fz 1
      obtain ⟨u0, hu0⟩ := hB5.here 0 (by decide)
      obtain ⟨u1, hu1⟩ := hB5.here 1 (by decide)
      clear hB5
      go_wp2_with fail
      generalize hw : World.setCell _ _ _ = w6
      obtain ⟨r0, r1, r2⟩ := sp_store (w := w) KB4.out KF.out (nil_sq _ _) (Nat.le_refl _) KZ.out hw
      clear hw
      refine bodyPost_ret (by simp [results, Tryz.results30, go_sem, r0, r1]; try rfl) rfl ?_
      exact ⟨_, rfl, Lib.hid (by rw [KI.out]; exact r2)⟩
    · obtain ⟨k, rfl⟩ : ∃ k : Nat, e = -(k : Int) := ⟨(-e).toNat, by omega⟩
      have hk1 : 1 ≤ k := by omega
      have hk2 : k ≤ 63 := by omega
      obtain ⟨g1, g2⟩ := whole_low m k (by omega) X (by rw [← hU]; congr 2; omega)
      rw [g1] at hN
      have hal2 : al = decide (m % 2 ^ k = 0) := by rw [hal]; exact decide_eq_decide.2 g2
      have KL := Lib.hid (and_low m k (by omega) hk2)
      obtain ⟨V, hV⟩ : ∃ V, V = 2 ^ k := ⟨_, rfl⟩
      have hVl : V ≤ 9223372036854775808 := by rw [hV]; exact Nat.pow_le_pow_right (by decide) (show k ≤ 63 from hk2)
      have hVp : 1 ≤ V := by rw [hV]; exact Nat.pow_pos (by decide)
      have q8 : (2 : Int) ^ k = (V : Int) := by rw [hV, Int.natCast_pow]; rfl
      obtain ⟨V1, hV1⟩ : ∃ V1, V1 = V - 1 := ⟨_, rfl⟩
      have q9 : (V : Int) - 1 = (V1 : Int) := by omega
      rw [← hV] at hN hal2 KL
      rw [← hV1] at KL
      obtain ⟨mr, hmr⟩ : ∃ mr, mr = m % V := ⟨_, rfl⟩
      rw [← hmr] at hal2 KL
      have q10 := KL.out
      have q11 : ((mr : Int) == 0) = al := by rw [hal2]; exact Bool.eq_iff_iff.2 (by simp)
      have q12 : (m : Int) / (V : Int) = (N : Int) := by rw [hN, Int.natCast_ediv]
      have hNl : N < 18446744073709551616 := by rw [hN]; exact Nat.lt_of_le_of_lt (Nat.div_le_self _ _) (by omega)
      have KT2 := Lib.hid (bytesOf_c N hNl)
      have KO2 := Lib.hid (fun A c l w h hb hl hv => of_c s A c l N w h hb hl hv)
      have q13 : ¬ (k : Int) ≤ 0 := by omega
      have q14 : ¬ 63 < (k : Int) := by omega
      clear hm he1 he2 hU hs hN hal c1 c2 hal2 hmr hV hV1 KL
      go_enter Tryz.func30, Tryz.ntmps30
      go_wp2_with fail
      refine (KP.out _).mono ?_
      rintro en w1 ⟨rfl, rfl⟩
      go_wp2_with fail
      with_reducible refine (KT.out _).mono ?_
      rintro en w2 ⟨A2, c2, l2, rfl, H2⟩
      go_wp2_with fail
      with_reducible refine (KO.out A2 c2 l2 w2 H2.out.1 H2.out.2.1 (by have := H2.out.2.2.1; omega) H2.out.2.2.2.1).mono ?_
      rintro en w3 ⟨v3, rfl, H3⟩
      have H3' := H3.out
      obtain ⟨⟨s3, A3, c3, l3, rfl, hR3, hI3, hL3⟩, hF3⟩ := H3'
      have f4 := new40 w3 #[.bool s3, .slice A3 l3.length c3] 31
      have KF := Lib.hid (((KA.out.trans H2.out.2.2.2.2 (fun _ _ _ c => c)).trans hF3 (fun _ _ _ c => c)).trans f4 (fun _ _ _ c => c))
      have KZ : Hid (w.heap.size < (w3.alloc (.cells #[.bool s3, .slice A3 l3.length c3] 31)).heap.size) := Lib.hid (by have := hF3.size; have a := H2.out.2.2.2.2.size; rw [size_new] at *; omega)
      have KB4 := Lib.hid (((KB.out.fr H2.out.2.2.2.2).fr hF3).fr f4)
      clear hR3 hI3 hF3 hL3 f4 H3 H2 KT KO KP
      go_wp2_with fail
      with_reducible refine (KT2.out _).mono ?_
      rintro en w5 ⟨A5, c5, l5, rfl, H5⟩
      go_wp2_with fail
      with_reducible refine (KO2.out A5 c5 l5 w5 H5.out.1 H5.out.2.1 (by have := H5.out.2.2.1; omega) H5.out.2.2.2.1).mono ?_
      rintro en w6 ⟨v6, rfl, H6⟩
      have H6' := H6.out
      obtain ⟨⟨s6, A6, c6, l6, rfl, hR6, hI6, hL6⟩, hF6⟩ := H6'
      have F56 := H5.out.2.2.2.2.trans hF6 (fun _ _ _ c => c)
      have KF6 := Lib.hid (KF.out.trans F56 (fun _ _ _ c => c))
      have KZ6 : Hid (w.heap.size < w5.heap.size) := Lib.hid (by have := KZ.out; have a := H5.out.2.2.2.2.size; omega)
      have hB5 := KB4.out.fr F56
      have KS6 := Lib.hid (And.intro hB5 H6.out.1)
      clear hR6 hI6 hL6 hF6 F56 H5 H6 KT2 KO2
      have fz0 := hB5.fz 0
      have fz1 := hB5.fz 1
      obtain ⟨u0, hu0⟩ := hB5.here 0 (by decide)
      obtain ⟨u1, hu1⟩ := hB5.here 1 (by decide)
      clear hB5
      go_wp2_with fail
      generalize hw : World.setCell _ _ _ = w7
      obtain ⟨r0, r1, r2⟩ := sp_store (w := w) KS6.out.1 KF6.out KS6.out.2 (Nat.le_refl _) KZ6.out hw
      clear hw
      refine bodyPost_ret (by simp [results, Tryz.results30, go_sem, r0, r1]; try rfl) rfl ?_
      exact ⟨_, rfl, Lib.hid r2⟩
end Go.Proofs.YtldejfallphhbaaGreatDoor
namespace Go.Proofs.YtldejfallphhbaaGreatDoor
set_option linter.unusedVariables false
set_option exponentiation.threshold 4000
open Go.RowKit
set_option maxRecDepth 100000 in
theorem inf_p (x : Nat) (hf : Fl.Fin x) (w : World) : Calls Tryz.prog 17 #[.float .f64 x, .int .i64 1] w fun e w' => e = .returned (.bool false) ∧ w = w' := by
  have HT : Hid ((Ieee.double.order x 9218868437227405311 == some .gt) = false) := Lib.hid (by
    have hf' : x % 9223372036854775808 < 9218868437227405312 := hf
    rcases order_max x hf' with h | h <;> rw [h] <;> rfl)
  clear hf
  go_enter Tryz.func17, Tryz.ntmps17
  go_wp2_with fail
  go_ret
  exact ⟨by rw [← HT.out]; rfl, rfl⟩
theorem neg_run (x : Nat) (hx : x < 18446744073709551616) (w : World) : (Op.unary .neg (.float .f64 x)).run Tryz.prog w = .ok (.float .f64 (Fl.wordOf (!Fl.sg x) (Fl.rg x))) w := by
  rw [← Fl.neg_xor x hx]; rfl
set_option maxRecDepth 100000 in
theorem inf_m (x : Nat) (hx : x < 18446744073709551616) (hf : Fl.Fin x) (w : World) : Calls Tryz.prog 17 #[.float .f64 x, .int .i64 (-1)] w fun e w' => e = .returned (.bool false) ∧ w = w' := by
  have HT : Hid ((Ieee.double.order (Fl.wordOf (!Fl.sg x) (Fl.rg x)) 9218868437227405311 == some .gt) = false) := Lib.hid (by
    have hf' : Fl.wordOf (!Fl.sg x) (Fl.rg x) % 9223372036854775808 < 9218868437227405312 := Fl.fin_word _ _ hf
    rcases order_max _ hf' with h | h <;> rw [h] <;> rfl)
  have hn := neg_run x hx
  generalize Fl.wordOf (!Fl.sg x) (Fl.rg x) = y at *
  clear hf hx
  go_enter Tryz.func17, Tryz.ntmps17
  go_wp2_with fail
  go_ret
  exact ⟨by rw [← HT.out]; rfl, rfl⟩
theorem neg_zero (x : Nat) (hf : Fl.Fin x) (hU : Fl.U (Fl.rg x) ≠ 0) : (Ieee.double.order x 0 == some Ordering.lt) = Fl.sg x := by
  rw [Fl.order_fin x 0 hf Fl.fin_0, Fl.ord_lt, Fl.sU_0]
  unfold Fl.sU
  cases Fl.sg x
  · rw [if_neg (by decide)]; exact decide_eq_false (by omega)
  · rw [if_pos rfl]; exact decide_eq_true (by omega)
def cfl (z : Int) (x : Nat) : Int := if Ref.cmpI z (Ref.iv (Fl.sg x) (Nw x)) ≠ 0 ∨ Aw x = true then Ref.cmpI z (Ref.iv (Fl.sg x) (Nw x)) else if Fl.sg x then 1 else -1
theorem nw_sm (x : Nat) (hx : x < 18446744073709551616) (hf : Fl.Fin x) : Sm (Ref.iv (Fl.sg x) (Nw x)) := by
  refine iv_sm _ _ ?_
  obtain ⟨hm, he1, he2, hU, hs⟩ := parts_U x hx hf
  unfold Nw
  rw [← hU]
  refine Nat.lt_of_le_of_lt (Nat.div_le_div_right (Nat.mul_le_mul (Nat.le_of_lt hm) (Nat.pow_le_pow_right (by decide) (show (expOf x + 1074).toNat ≤ 2045 by omega)))) ?_
  unfold Fl.B
  rw [show (2045 : Nat) = 971 + 1074 from rfl, Nat.pow_add, ← Nat.mul_assoc, Nat.mul_div_cancel _ (Nat.pow_pos (by decide))]
  rw [show (9007199254740992 : Nat) = 2 ^ 53 from by decide, ← Nat.pow_add, show (256 : Nat) = 2 ^ 8 from by decide, ← Nat.pow_mul]
  exact Nat.pow_lt_pow_right (by decide) (by decide)
set_option maxRecDepth 100000 in
set_option maxHeartbeats 1000000 in
theorem cmpFloat_c (u : Value) (z : Int) (x : Nat) (hx : x < 18446744073709551616) (hf : Fl.Fin x) (w : World) (hu : Sp w u z) (hz : Sm z) :
    Calls Tryz.prog 32 #[u, .float .f64 x] w fun e w' => e = .returned (.int .i64 (cfl z x)) ∧ Hid (Fr w w' No) := by
  have KN := Lib.hid (nan_no x hf)
  have KI := Lib.hid (inf_p x hf)
  have KM := Lib.hid (inf_m x hx hf)
  have KW := Lib.hid (whole_c x hx hf)
  have KS := Lib.hid (And.intro hz (nw_sm x hx hf))
  have KZ : Hid (Aw x = false → (Ieee.double.order x 0 == some Ordering.lt) = Fl.sg x) := Lib.hid (fun h => neg_zero x hf (fun e => by
    unfold Aw at h
    rw [e, Nat.zero_mod] at h
    cases h))
  obtain ⟨R, hR⟩ : ∃ R, R = cfl z x := ⟨_, rfl⟩
  rw [← hR]
  have KR := Lib.hid hR
  have KU := Lib.hid hu
  obtain ⟨s0, A0, c0, l0, rfl, hr0, hi0⟩ := hu
  have f1 := new40 w #[.bool s0, .slice A0 l0.length c0] 31
  have KA := Lib.hid f1
  clear hx hf hz hR f1 hr0 hi0
  go_enter Tryz.func32, Tryz.ntmps32
  go_wp2_with fail
  refine (KN.out _).mono ?_
  rintro e w' ⟨rfl, rfl⟩
  go_wp2_with fail
  refine (KI.out _).mono ?_
  rintro e w' ⟨rfl, rfl⟩
  go_wp2_with fail
  refine (KM.out _).mono ?_
  rintro e w' ⟨rfl, rfl⟩
  go_wp2_with fail
  with_reducible refine (KW.out _).mono ?_
  rintro e w2 ⟨v2, rfl, H2⟩
  have H2' := H2.out
  obtain ⟨⟨s2, A2, c2, l2, rfl, hR2, hI2, hL2⟩, hF2⟩ := H2'
  have d0 := KA.out.trans hF2 (fun _ _ _ c => c)
  have e0 : w2.cell? ⟨w.heap.size, 0, none⟩ = some (.bool s0) := hF2.keep (cell_new w #[.bool s0, .slice A0 l0.length c0] 31 0 _ rfl) (fun c => c)
  have e1 : w2.cell? ⟨w.heap.size, 1, none⟩ = some (.slice A0 l0.length c0) := hF2.keep (cell_new w #[.bool s0, .slice A0 l0.length c0] 31 1 _ rfl) (fun c => c)
  have f3 := new40 w2 #[.bool s2, .slice A2 l2.length c2] 31
  have K3 := Lib.hid (cmp_c _ _ z (Ref.iv (Fl.sg x) (Nw x)) _ (KU.out.fr (d0.trans f3 (fun _ _ _ c => c))) (H2.out.1.sp.fr f3) KS.out.1 KS.out.2)
  have KF := Lib.hid (d0.trans f3 (fun _ _ _ c => c))
  have g0 := f3.keep e0 (fun c => c)
  have g1 := f3.keep e1 (fun c => c)
  clear hR2 hI2 hL2 hF2 d0 f3
  go_wp2_with fail
  with_reducible refine K3.out.mono ?_
  rintro e w4 ⟨rfl, H4⟩
  have KE := Lib.hid (KF.out.trans H4.out (fun _ _ _ c => c))
  have hr := KR.out
  have hz := KZ.out
  unfold cfl at hr
  clear KR KZ K3 H4 KF g0 g1 e0 e1 H2 KS KW KN KI KM KU KA
  generalize Ref.cmpI z (Ref.iv (Fl.sg x) (Nw x)) = k at *
  generalize Aw x = al at *
  generalize Fl.sg x = s at *
  by_cases hk : k = 0
  · subst hk
    cases al
    · have ho : (FloatKind.f64.format.order x 0 == some Ordering.lt) = s := hz rfl
      clear hz
      cases s
      · have hR : R = -1 := by rw [hr]; simp
        subst hR
        clear hr
        go_wp2_with fail
        go_returns
        exact ⟨rfl, KE⟩
      · have hR : R = 1 := by rw [hr]; simp
        subst hR
        clear hr
        go_wp2_with fail
        go_returns
        exact ⟨rfl, KE⟩
    · have hR : R = 0 := by rw [hr]; simp
      subst hR
      clear hr hz
      go_wp2_with fail
      go_returns
      exact ⟨rfl, KE⟩
  · have hR : R = k := by rw [hr, if_pos (Or.inl hk)]
    subst hR
    clear hr hz
    go_wp2_with fail
    go_returns
    exact ⟨rfl, KE⟩
end Go.Proofs.YtldejfallphhbaaGreatDoor
namespace Go.Proofs.YtldejfallphhbaaGreatDoor
set_option linter.unusedVariables false
set_option exponentiation.threshold 3000
open Go.RowKit
theorem trunc2_c (x : Nat) (hf : Fl.Fin x) : ∃ y, y < 18446744073709551616 ∧ Fl.Fin y ∧ Fl.sg y = Fl.sg x ∧ Fl.U (Fl.rg y) = Nw x * Fl.B ∧ ∀ w, Calls Tryz.prog 31 #[.float .f64 x] w fun e w' => e = .returned (.float .f64 y) ∧ w' = w := by
  obtain ⟨r, hr, hU, hw⟩ := Fl.encode_integral .zero (by decide) x hf
  have hN : Fl.wholeN .zero x = Nw x := by unfold Fl.wholeN Fl.more Nw; rfl
  refine ⟨Fl.wordOf (Fl.sg x) r, Fl.wordOf_lt _ _ hr, Fl.fin_word _ _ hr, Fl.sg_word _ _ hr, by rw [Fl.rg_word _ _ hr, hU, hN], fun w => ?_⟩
  have := trunc_c x hf w
  rw [hw] at this
  exact this
theorem nw_whole {y N : Nat} (h : Fl.U (Fl.rg y) = N * Fl.B) : Nw y = N ∧ Aw y = true := by
  unfold Nw Aw
  rw [h]
  exact ⟨Nat.mul_div_cancel _ Fl.B_pos, decide_eq_true (Nat.mul_mod_left _ _)⟩
theorem cmpI_self (z : Int) : Ref.cmpI z z = 0 := by unfold Ref.cmpI; rw [if_neg (by omega), if_pos rfl]
theorem cfl_self (x : Nat) : cfl (Ref.iv (Fl.sg x) (Nw x)) x = if Aw x = true then 0 else if Fl.sg x then 1 else -1 := by
  unfold cfl
  rw [cmpI_self]
  by_cases h : Aw x = true
  · rw [if_pos (Or.inr h), if_pos h]
  · rw [if_neg (by simp [h]), if_neg h]
structure Lv (w : World) (p lo : Nat) (s : Bool) (A : Option Addr) (n c : Nat) (z : Int) : Prop where
  B : Blk w p 2
  c0 : w.cell? ⟨p, 0, none⟩ = some (.bool s)
  c1 : w.cell? ⟨p, 1, none⟩ = some (.slice A n c)
  S : Sq w lo (.agg #[.bool s, .slice A n c]) z
theorem Lv.fr {w w' : World} {p lo : Nat} {s : Bool} {A : Option Addr} {n c : Nat} {z : Int} (h : Lv w p lo s A n c z) (hf : Fr w w' No) : Lv w' p lo s A n c z :=
  ⟨h.B.fr hf, hf.keep h.c0 (fun c => c), hf.keep h.c1 (fun c => c), h.S.fr hf⟩
theorem Lv.new {w : World} {lo : Nat} {s : Bool} {A : Option Addr} {n c : Nat} {z : Int} (h : Sq w lo (.agg #[.bool s, .slice A n c]) z) : Lv (w.alloc (.cells #[.bool s, .slice A n c] 31)) w.heap.size lo s A n c z ∧ Fr w (w.alloc (.cells #[.bool s, .slice A n c] 31)) No :=
  ⟨⟨Blk.new w _ 31 2 rfl, cell_new w #[.bool s, .slice A n c] 31 0 _ rfl, cell_new w #[.bool s, .slice A n c] 31 1 _ rfl, h.fr (new40 w _ 31)⟩, new40 w _ 31⟩
theorem Lv.put {w : World} {p lo lo' : Nat} {s s' : Bool} {A A' : Option Addr} {n c n' c' : Nat} {z z' : Int} (h : Lv w p lo s A n c z) (hs : Sq w lo' (.agg #[.bool s', .slice A' n' c']) z') (hp : p < lo') :
    Lv ((w.setCell ⟨p, 0, none⟩ (.bool s')).setCell ⟨p, 1, none⟩ (.slice A' n' c')) p lo' s' A' n' c' z' ∧ Fr w ((w.setCell ⟨p, 0, none⟩ (.bool s')).setCell ⟨p, 1, none⟩ (.slice A' n' c')) (fun k _ => k = p) := by
  have h1 : Fr w (w.setCell ⟨p, 0, none⟩ (.bool s')) (fun k _ => k = p) := (Fr.refl _ _).set _ _ _ (fun _ => rfl)
  have h2 := h1.set p 1 (.slice A' n' c') (fun _ => rfl)
  refine ⟨⟨h.B.fr h2, ?_, (h.B.fr h1).get 1 (by decide) _, (hs.set p 0 _ hp).set p 1 _ hp⟩, h2⟩
  rw [cell_set_ne _ _ _ _ _ _ (by simp)]
  exact h.B.get 0 (by decide) _
theorem Lv.out {w w3 : World} {p lo r : Nat} {s : Bool} {A : Option Addr} {n c : Nat} {z : Int} (h : Lv w3 p lo s A n c z) (hF : Fr w w3 No) (hB : Blk w3 r 2) (hr : w.heap.size ≤ r) (hlo : r < lo) {w4 : World} (he : (w3.setCell ⟨r, 0, none⟩ (.bool s)).setCell ⟨r, 1, none⟩ (.slice A n c) = w4) :
    w4.cell? ⟨r, 0, none⟩ = some (.bool s) ∧ w4.cell? ⟨r, 1, none⟩ = some (.slice A n c) ∧ Sq w4 w.heap.size (.agg #[.bool s, .slice A n c]) z ∧ Fr w w4 No :=
  sp_store hB hF h.S hr hlo he
theorem one2_c (w4 wx : World) (hx : Fr w4 wx No) : Calls Tryz.prog 34 #[.int .i64 1] wx fun e w5 => ∃ s5 A5 c5 n5, e = .returned (.agg #[.bool s5, .slice A5 n5 c5]) ∧ Hid (Sp w5 (.agg #[.bool s5, .slice A5 n5 c5]) 1 ∧ Fr w4 w5 No) := by
  refine (one_c wx).mono ?_
  rintro e w5 ⟨v, rfl, H⟩
  obtain ⟨⟨s5, A5, c5, l5, rfl, h1, h2, _⟩, h3⟩ := H.out
  exact ⟨s5, A5, c5, l5.length, rfl, Lib.hid ⟨⟨s5, A5, c5, l5, rfl, h1, h2⟩, hx.trans h3 (fun _ _ _ c => c)⟩⟩
def Got (w4 w6 : World) (p : Nat) (s6 : Bool) (A6 : Option Addr) (c6 n6 : Nat) (z : Int) : Prop := Sq w6 w4.heap.size (.agg #[.bool s6, .slice A6 n6 c6]) z ∧ Fr w4 w6 No
theorem sm_one : Sm 1 := by
  unfold Sm
  exact Nat.one_lt_pow (by decide) (by decide)
theorem sub2_c (w4 w5 wx : World) (u : Value) (z : Int) (p lo s2 A2 n2 c2 s5 A5 c5 n5) (hL : Lv w4 p lo s2 A2 n2 c2 z) (hz : Sm z) (h5 : Sp w5 (.agg #[.bool s5, .slice A5 n5 c5]) 1 ∧ Fr w4 w5 No) (hx : Fr w5 wx No) :
    Calls Tryz.prog 33 #[.agg #[.bool s2, .slice A2 n2 c2], .agg #[.bool s5, .slice A5 n5 c5]] wx fun e w6 => ∃ s6 A6 c6 n6, e = .returned (.agg #[.bool s6, .slice A6 n6 c6]) ∧ (∀ i, w6.frozen? ⟨p, i, none⟩ = false) ∧ w6.cell? ⟨p, 0, none⟩ = some (.bool s2) ∧ w6.cell? ⟨p, 1, none⟩ = some (.slice A2 n2 c2) ∧ Hid (Got w4 w6 p s6 A6 c6 n6 (z - 1)) := by
  have hF := h5.2.trans hx (fun _ _ _ c => c)
  refine (sub_c _ _ z 1 wx (hL.S.sp.fr hF) (h5.1.fr hx) hz sm_one).mono ?_
  rintro e w6 ⟨v, rfl, H⟩
  obtain ⟨⟨s6, A6, c6, l6, rfl, h1, h2, h3⟩, h4⟩ := H.out
  have hF6 := hF.trans h4 (fun _ _ _ c => c)
  have hL6 := hL.fr hF6
  exact ⟨s6, A6, c6, l6.length, rfl, fun i => hL6.B.fz i, hL6.c0, hL6.c1, Lib.hid ⟨H.out.1.mono hF.size, hF6⟩⟩
theorem add2_c (w4 w5 wx : World) (u : Value) (z : Int) (p lo s2 A2 n2 c2 s5 A5 c5 n5) (hL : Lv w4 p lo s2 A2 n2 c2 z) (hz : Sm z) (h5 : Sp w5 (.agg #[.bool s5, .slice A5 n5 c5]) 1 ∧ Fr w4 w5 No) (hx : Fr w5 wx No) :
    Calls Tryz.prog 40 #[.agg #[.bool s2, .slice A2 n2 c2], .agg #[.bool s5, .slice A5 n5 c5]] wx fun e w6 => ∃ s6 A6 c6 n6, e = .returned (.agg #[.bool s6, .slice A6 n6 c6]) ∧ (∀ i, w6.frozen? ⟨p, i, none⟩ = false) ∧ w6.cell? ⟨p, 0, none⟩ = some (.bool s2) ∧ w6.cell? ⟨p, 1, none⟩ = some (.slice A2 n2 c2) ∧ Hid (Got w4 w6 p s6 A6 c6 n6 (z + 1)) := by
  have hF := h5.2.trans hx (fun _ _ _ c => c)
  refine (add_c _ _ z 1 wx (hL.S.sp.fr hF) (h5.1.fr hx) hz sm_one).mono ?_
  rintro e w6 ⟨v, rfl, H⟩
  obtain ⟨⟨s6, A6, c6, l6, rfl, h1, h2, h3⟩, h4⟩ := H.out
  have hF6 := hF.trans h4 (fun _ _ _ c => c)
  have hL6 := hL.fr hF6
  exact ⟨s6, A6, c6, l6.length, rfl, fun i => hL6.B.fz i, hL6.c0, hL6.c1, Lib.hid ⟨H.out.1.mono hF.size, hF6⟩⟩
theorem Got.put {w4 w6 w7 : World} {p lo s6 A6 c6 n6} {z zz : Int} {s2 : Bool} {A2 : Option Addr} {n2 c2 : Nat} (h : Got w4 w6 p s6 A6 c6 n6 z) (hL : Lv w4 p lo s2 A2 n2 c2 zz) (h7 : Fr w6 w7 No) :
    Lv ((w7.setCell ⟨p, 0, none⟩ (.bool s6)).setCell ⟨p, 1, none⟩ (.slice A6 n6 c6)) p w4.heap.size s6 A6 n6 c6 z ∧ Fr w4 ((w7.setCell ⟨p, 0, none⟩ (.bool s6)).setCell ⟨p, 1, none⟩ (.slice A6 n6 c6)) (fun k _ => k = p) := by
  have hF := h.2.trans h7 (fun _ _ _ c => c)
  obtain ⟨a, b⟩ := (hL.fr hF).put (h.1.fr h7) hL.B.lt
  exact ⟨a, (hF.no).trans b (fun _ _ _ c => c)⟩
def Dn (x : Nat) : Int := if Aw x = false ∧ Fl.sg x = true then Ref.iv (Fl.sg x) (Nw x) - 1 else Ref.iv (Fl.sg x) (Nw x)
set_option maxRecDepth 100000 in
set_option maxHeartbeats 1000000 in
theorem down_c (x : Nat) (hx : x < 18446744073709551616) (hf : Fl.Fin x) (w : World) :
    Calls Tryz.prog 11 #[.float .f64 x] w fun e w' => ∃ v, e = .returned v ∧ Hid (Sq w' w.heap.size v (Dn x) ∧ Fr w w' No) := by
  obtain ⟨y, hy, hfy, hsy, hUy, hT⟩ := trunc2_c x hf
  obtain ⟨hn, ha⟩ := nw_whole hUy
  have KT := Lib.hid hT
  have KW := Lib.hid (whole_c y hy hfy)
  rw [hn, hsy, ha] at KW
  have hsm := nw_sm x hx hf
  have KC := Lib.hid (fun u w (h : Sp w u (Ref.iv (Fl.sg x) (Nw x))) => cmpFloat_c u _ x hx hf w h hsm)
  rw [cfl_self] at KC
  have KD : Hid (Dn x = if Aw x = false ∧ Fl.sg x = true then Ref.iv (Fl.sg x) (Nw x) - 1 else Ref.iv (Fl.sg x) (Nw x)) := Lib.hid rfl
  have KB := Lib.hid (And.intro (Blk.new w #[.bool false, .slice none 0 0] 31 2 rfl) (And.intro (new40 w #[.bool false, .slice none 0 0] 31) (size_new w (.cells #[.bool false, .slice none 0 0] 31))))
  have KS := Lib.hid hsm
  generalize Dn x = D at *
  generalize Ref.iv (Fl.sg x) (Nw x) = z at *
  generalize Aw x = al at *
  generalize Fl.sg x = s at *
  clear hx hf hy hfy hsy hUy hT hn ha hsm
  go_enter Tryz.func11, Tryz.ntmps11
  go_wp2_with fail
  refine (KT.out _).mono ?_
  rintro e w' ⟨rfl, rfl⟩
  go_wp2_with fail
  with_reducible refine (KW.out _).mono ?_
  rintro e w2 ⟨v2, rfl, H2⟩
  have H2' := H2.out
  obtain ⟨⟨s2, A2, c2, l2, rfl, hR2, hI2, hL2⟩, hF2⟩ := H2'
  obtain ⟨L3, f3⟩ := Lv.new H2.out.1
  have F3 := (KB.out.2.1.trans hF2 (fun _ _ _ c => c)).trans f3 (fun _ _ _ c => c)
  have KC3 := Lib.hid (KC.out _ _ L3.S.sp)
  have KL := Lib.hid (And.intro L3 (And.intro F3 (And.intro ((KB.out.1.fr hF2).fr f3) (And.intro (by have := hF2.size; have a := KB.out.2.2; omega : w.heap.size < w2.heap.size) (by have a := KB.out.2.2; omega : w.heap.size < (w.alloc (.cells #[.bool false, .slice none 0 0] 31)).heap.size)))))
  have g0 := L3.c0
  have g1 := L3.c1
  clear L3 f3 F3 hR2 hI2 hL2 hF2 H2 KC KW KT KB
  go_wp2_with fail
  with_reducible refine KC3.out.mono ?_
  rintro e w4 ⟨rfl, H4⟩
  have L4 := KL.out.1.fr H4.out
  have KL4 := Lib.hid (And.intro L4 (And.intro (KL.out.2.1.trans H4.out (fun _ _ _ c => c)) (And.intro (KL.out.2.2.1.fr H4.out) KL.out.2.2.2)))
  have e0 := L4.c0
  have e1 := L4.c1
  have hd := KD.out
  clear L4 H4 KL g0 g1 KC3 KD
  generalize (w.alloc (.cells #[.bool false, .slice none 0 0] 31)).heap.size = lo at *
  generalize w2.heap.size = t3 at *
  by_cases hb : al = false ∧ s = true
  · rw [if_pos hb] at hd
    obtain ⟨rfl, rfl⟩ := hb
    subst hd
    have K34 := Lib.hid (one2_c w4)
    have K33 := Lib.hid (fun s5 A5 c5 n5 w5 wx h5 hx => sub2_c w4 w5 wx .nilIface z t3 lo s2 A2 l2.length c2 s5 A5 c5 n5 KL4.out.1 KS.out h5 hx)
    go_upto_region 3 with fail
    go_cut [4] (fun s4 wx => s4 = .bool true ∧ ∃ s A n c, Hid (Lv wx t3 w4.heap.size s A n c (z - 1) ∧ Fr w4 wx (fun k _ => k = t3)))
    case first =>
      go_region_with (first | (go_at_call 34; with_reducible refine (K34.out _ (by first | exact (Fr.refl _ _).drew | exact Fr.refl _ _)).mono ?_; rintro e w5 ⟨s5, A5, c5, n5, rfl, H5⟩; have e0' := H5.out.2.keep e0 (fun c => c); have e1' := H5.out.2.keep e1 (fun c => c)) | (go_at_call 33; with_reducible refine (K33.out _ _ _ _ _ _ H5.out (by first | exact (Fr.refl _ _).drew | exact Fr.refl _ _)).mono ?_; rintro e w6 ⟨s6, A6, c6, n6, rfl, qf, q0, q1, H6⟩; have qf0 := qf 0; have qf1 := qf 1))
      all_goals
        have KP := H6.out.put KL4.out.1 (by first | exact Fr.refl _ _ | exact (Fr.refl _ _).drew | exact ((Fr.refl _ _).drew).drew)
        go_wp2_with fail
        go_meet
        case rel => exact ⟨rfl, s6, A6, n6, c6, Lib.hid KP⟩
    case rest =>
      obtain ⟨rfl, s6, A6, n6, c6, KP⟩ := hcut
      have hB := KL4.out.2.2.1.fr KP.out.2
      have KF := Lib.hid (KL4.out.2.1.trans KP.out.2 (fun k j hk (c : k = t3) => by have := KL4.out.2.2.2.1; omega))
      have KB := Lib.hid hB
      have d0 := KP.out.1.c0
      have d1 := KP.out.1.c1
      have fz0 := hB.fz 0
      have fz1 := hB.fz 1
      obtain ⟨u0, hu0⟩ := hB.here 0 (by decide)
      obtain ⟨u1, hu1⟩ := hB.here 1 (by decide)
      clear hB e0 e1 K34 K33
      go_wp2_with fail
      generalize hw : World.setCell _ _ _ = w6
      obtain ⟨r0, r1, r2⟩ := KP.out.1.out KF.out KB.out (Nat.le_refl _) (by have := KL4.out.2.2.1.lt; omega) hw
      clear hw
      refine bodyPost_ret (by simp [results, Tryz.results11, go_sem, r0, r1]; try rfl) rfl ?_
      exact ⟨_, rfl, Lib.hid r2⟩
  · rw [if_neg hb] at hd
    subst hd
    have hk : ¬ (0 : Int) < (if al = true then 0 else if s = true then 1 else -1) := by
      cases al
      · cases s
        · decide
        · exact absurd ⟨rfl, rfl⟩ hb
      · rw [if_pos rfl]; decide
    generalize (if al = true then (0 : Int) else if s = true then 1 else -1) = k at *
    have hB := KL4.out.2.2.1
    have fz0 := hB.fz 0
    have fz1 := hB.fz 1
    obtain ⟨u0, hu0⟩ := hB.here 0 (by decide)
    obtain ⟨u1, hu1⟩ := hB.here 1 (by decide)
    clear hB hb
    go_wp2_with fail
    generalize hw : World.setCell _ _ _ = w6
    obtain ⟨r0, r1, r2⟩ := KL4.out.1.out KL4.out.2.1 KL4.out.2.2.1 (Nat.le_refl _) KL4.out.2.2.2.2 hw
    clear hw
    refine bodyPost_ret (by simp [results, Tryz.results11, go_sem, r0, r1]; try rfl) rfl ?_
    exact ⟨_, rfl, Lib.hid r2⟩
end Go.Proofs.YtldejfallphhbaaGreatDoor
namespace Go.Proofs.YtldejfallphhbaaGreatDoor
set_option linter.unusedVariables false
set_option exponentiation.threshold 4000
open Go.RowKit
theorem nw_lt (x : Nat) (hx : x < 18446744073709551616) (hf : Fl.Fin x) : Nw x < 2 ^ 1024 := by
  obtain ⟨hm, he1, he2, hU, hs⟩ := parts_U x hx hf
  unfold Nw
  rw [← hU]
  have h1 : mantOf x * 2 ^ (expOf x + 1074).toNat < 2 ^ 53 * 2 ^ (expOf x + 1074).toNat := Nat.mul_lt_mul_of_pos_right hm (Nat.pow_pos (by decide))
  rw [← Nat.pow_add] at h1
  have h2 : mantOf x * 2 ^ (expOf x + 1074).toNat < 2 ^ (1024 + 1074) := Nat.lt_of_lt_of_le h1 (Nat.pow_le_pow_right (by decide) (by omega))
  rw [Nat.pow_add] at h2
  unfold Fl.B
  rw [Nat.div_lt_iff_lt_mul (Nat.pow_pos (by decide))]
  exact h2
theorem big_sm {N k : Nat} (h : N ≤ 2 ^ 1024 + k) (hk : k ≤ 1000) : N < 256 ^ 400 := by
  have h1 : (2 : Nat) ^ 1024 + 2 ^ 1024 ≤ 256 ^ 400 := by
    rw [show (256 : Nat) = 2 ^ 8 from by decide, ← Nat.pow_mul, ← Nat.mul_two, ← Nat.pow_succ]
    exact Nat.pow_le_pow_right (by decide) (by decide)
  have h2 : (2 : Nat) ^ 10 < 2 ^ 1024 := Nat.pow_lt_pow_right (by decide) (by decide)
  have h3 : (2 : Nat) ^ 10 = 1024 := by decide
  rw [h3] at h2
  generalize (2 : Nat) ^ 1024 = a at *
  generalize (256 : Nat) ^ 400 = b at *
  omega
theorem iv_abs (s : Bool) (N : Nat) : (Ref.iv s N).natAbs = N := by unfold Ref.iv; cases s <;> simp
theorem dn_sm (x : Nat) (hx : x < 18446744073709551616) (hf : Fl.Fin x) : Sm (Dn x) := by
  unfold Sm
  refine big_sm (k := 1) ?_ (by decide)
  have h := nw_lt x hx hf
  have ha := iv_abs (Fl.sg x) (Nw x)
  unfold Dn
  generalize (2 : Nat) ^ 1024 = a at *
  split <;> omega
set_option maxRecDepth 100000 in
set_option maxHeartbeats 1000000 in
theorem up_c (x : Nat) (hx : x < 18446744073709551616) (hf : Fl.Fin x) (w : World) :
    Calls Tryz.prog 10 #[.float .f64 x] w fun e w' => ∃ v, e = .returned v ∧ Hid (Sq w' w.heap.size v (-Dn (Fl.wordOf (!Fl.sg x) (Fl.rg x))) ∧ Fr w w' No) := by
  have hn := neg_run x hx
  have hy := Fl.wordOf_lt (!Fl.sg x) (Fl.rg x) hf
  have hfy := Fl.fin_word (!Fl.sg x) (Fl.rg x) hf
  generalize Fl.wordOf (!Fl.sg x) (Fl.rg x) = y at *
  have KD := Lib.hid (down_c y hy hfy)
  have KM := Lib.hid (fun v w (h : Sp w v (Dn y)) => minus_c v _ w h (dn_sm y hy hfy))
  have KB := Lib.hid (And.intro (Blk.new w #[.bool false, .slice none 0 0] 31 2 rfl) (And.intro (new40 w #[.bool false, .slice none 0 0] 31) (size_new w (.cells #[.bool false, .slice none 0 0] 31))))
  clear hx hf hy hfy
  generalize Dn y = D at *
  go_enter Tryz.func10, Tryz.ntmps10
  go_wp2_with fail
  with_reducible refine (KD.out _).mono ?_
  rintro e w2 ⟨v2, rfl, H2⟩
  go_wp2_with fail
  with_reducible refine (KM.out _ _ H2.out.1.sp).mono ?_
  rintro e w3 ⟨v3, rfl, H3⟩
  have H3' := H3.out
  obtain ⟨⟨s3, A3, c3, l3, rfl, hR3, hI3, hL3⟩, hF3⟩ := H3'
  have hB := (KB.out.1.fr H2.out.2).fr hF3
  have KF := Lib.hid (And.intro ((KB.out.2.1.trans H2.out.2 (fun _ _ _ c => c)).trans hF3 (fun _ _ _ c => c)) (And.intro hB (by have := H2.out.2.size; have a := KB.out.2.2; omega : w.heap.size < w2.heap.size)))
  have fz0 := hB.fz 0
  have fz1 := hB.fz 1
  obtain ⟨u0, hu0⟩ := hB.here 0 (by decide)
  obtain ⟨u1, hu1⟩ := hB.here 1 (by decide)
  clear hB hR3 hI3 hL3 hF3 KB KD KM
  go_wp2_with fail
  generalize hw : World.setCell _ _ _ = w6
  obtain ⟨r0, r1, r2⟩ := sp_store (w := w) KF.out.2.1 KF.out.1 H3.out.1 (Nat.le_refl _) KF.out.2.2 hw
  clear hw
  refine bodyPost_ret (by simp [results, Tryz.results10, go_sem, r0, r1]; try rfl) rfl ?_
  exact ⟨_, rfl, Lib.hid r2⟩
end Go.Proofs.YtldejfallphhbaaGreatDoor
