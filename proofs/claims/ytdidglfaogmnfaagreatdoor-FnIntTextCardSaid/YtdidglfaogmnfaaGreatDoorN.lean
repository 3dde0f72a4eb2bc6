/-
  A part of the proof of FnIntText: long division: what a round leaves.
-/
import Derived.Test.YtdidglfaogmnfaaGreatDoorM
import Derived.Test.YtdidglfaogmnfaaGreatDoorF
import Derived.Test.YtdidglfaogmnfaaGreatDoorD
import Derived.StillTailTactics
import Derived.Deep.DeepCutAuto
import Derived.Outline
namespace Go.Proofs.YtdidglfaogmnfaaGreatDoor
open Go.RowKit

/-- the state ahead of a round: j places are still to come -/
structure DivInv (w0 wr : World) (bq bu bv ov b' l m n X v j : Nat) : Prop where
  fr : Fr w0 wr (fun k i => (k = bu ∧ i < m + n) ∨ (k = bq ∧ i < m) ∨ (k = b' ∧ l ≤ i ∧ i < l + n + 1))
  lo : Ws wr bu 0 j X
  hi : Ws wr bu j (m + n - j) (X / 18446744073709551616 ^ j % v)
  q : ∀ i, j ≤ i → i < m → wr.cell? ⟨bq, i, none⟩ = some (.int .u64 ((wd (X / v) i : Nat) : Int))
  v : Ws wr bv ov n v

theorem div_start {w w1 : World} {p a b l bq bu bv ov m n X v Nu Nq a' b' c' L : Nat} (hBu : Blk w bu Nu) (hBq : Blk w bq Nq)
    (hX : Ws w bu 0 (m + n) X) (hV : Ws w bv ov n v) (hn : 1 ≤ n) (hd : (bu ≠ p ∧ bu ≠ a ∧ bu ≠ b) ∧ (bq ≠ p ∧ bq ≠ a ∧ bq ≠ b) ∧ bu ≠ bq ∧ (bv ≠ p ∧ bv ≠ a ∧ bv ≠ bu ∧ bv ≠ bq) ∧ (bv = b → ov + n ≤ l))
    (_hS : Stk w1 p a' b' L) (h6 : Nw w w1 a' a) (h7 : Nw w w1 b' b) (h8 : Fr w w1 (fun k j => k = p ∨ k = a ∨ (k = b ∧ l ≤ j))) (h5 : Blk w1 b' c') (_hL : L ≤ c') :
    Ws w1 bu 0 (m + n) X ∧ Ws w1 bv ov n v ∧ Blk w1 bu Nu ∧ Blk w1 bq Nq ∧ Blk w1 b' c' ∧ (bu ≠ p ∧ bu ≠ a' ∧ bu ≠ b') ∧ (bq ≠ p ∧ bq ≠ a' ∧ bq ≠ b') ∧ bu ≠ bq ∧ (bv ≠ p ∧ bv ≠ a' ∧ bv ≠ bu ∧ bv ≠ bq) ∧ (bv = b' → ov + n ≤ l) := by
  obtain ⟨⟨d1, d1a, d1b⟩, ⟨d2, d2a, d2b⟩, d3, ⟨d4, d4a, d4b, d4c⟩, d5⟩ := hd
  have b1 := hBu.lt
  have b2 := hBq.lt
  have b3 := cell_lt (hV 0 (by omega))
  refine ⟨hX.fr h8 (fun i hi c => ?_), hV.fr h8 (fun i hi c => ?_), hBu.fr h8, hBq.fr h8, h5, ⟨d1, ?_, ?_⟩, ⟨d2, ?_, ?_⟩, d3, ⟨d4, ?_, d4b, d4c⟩, ?_⟩
  · omega
  · rcases c with c | c | c
    · exact d4 c
    · exact d4a c
    · have := d5 c.1; omega
  · rcases h6 with e | e <;> omega
  · rcases h7 with e | e <;> omega
  · rcases h6 with e | e <;> omega
  · rcases h7 with e | e <;> omega
  · rcases h6 with e | e <;> omega
  · rcases h7 with e | e
    · rw [e]; exact d5
    · intro e2; omega
/-- what a round leaves: its section of u, its word of q -/
theorem DivInv.step {w0 wr wx : World} {bq bu bv ov b' l m n X v i T : Nat} (h : DivInv w0 wr bq bu bv ov b' l m n X v (i + 1)) (hi : i < m) (hv : 0 < v) (hvn : v < 18446744073709551616 ^ n)
    (hT : T = X / 18446744073709551616 ^ (i + 1) % v * 18446744073709551616 + wd X i) (d1 : bu ≠ bq) (d2 : bu ≠ b') (d3 : bq ≠ b') (d4 : bv ≠ bu ∧ bv ≠ bq) (d5 : bv = b' → ov + n ≤ l) {Nq : Nat} (hBq : Blk w0 bq Nq) (hNq : m ≤ Nq)
    (hf : Fr wr wx (fun k e => (k = bu ∧ i ≤ e ∧ e < i + n + 1) ∨ (k = b' ∧ l ≤ e ∧ e < l + n + 1))) (hs : Ws wx bu i (n + 1) (T % v)) :
    DivInv w0 (wx.setCell ⟨bq, i, none⟩ (.int .u64 ((T / v : Nat) : Int))) bq bu bv ov b' l m n X v i ∧ wx.frozen? ⟨bq, i, none⟩ = false ∧ (∃ z, wx.cell? ⟨bq, i, none⟩ = some z) := by
  obtain ⟨s1, s2, s3⟩ := step_law X v i hv T hT
  have hF0 : Fr w0 wx (fun k e => (k = bu ∧ e < m + n) ∨ (k = bq ∧ e < m) ∨ (k = b' ∧ l ≤ e ∧ e < l + n + 1)) := h.fr.trans hf (fun k e _ c => by omega)
  have hB := hBq.fr hF0
  refine ⟨⟨hF0.set _ _ _ (fun _ => Or.inr (Or.inl ⟨rfl, hi⟩)), ?_, ?_, ?_, ?_⟩, hB.fz i, hB.here i (by omega)⟩
  · exact ((h.lo.less (by omega)).fr hf (fun k hk c => by omega)).set_ne _ _ _ (fun k hk c => by omega)
  · refine Ws.set_ne (fun k hk => ?_) _ _ _ (fun k hk c => by omega)
    rw [s2]
    by_cases hk1 : k < n + 1
    · exact hs k hk1
    · have hlt : T % v < 18446744073709551616 ^ k := lt_pow_le (Nat.lt_trans (Nat.mod_lt _ hv) hvn) (by omega)
      rw [wd_zero_of_lt _ _ hlt]
      have hlt2 : X / 18446744073709551616 ^ (i + 1) % v < 18446744073709551616 ^ (k - 1) := lt_pow_le (Nat.lt_trans (Nat.mod_lt _ hv) hvn) (by omega)
      have := h.hi (k - 1) (by omega)
      rw [wd_zero_of_lt _ _ hlt2, show i + 1 + (k - 1) = i + k from by omega] at this
      exact hf.keep this (by omega)
  · intro k h1 h2
    by_cases e : k = i
    · subst e; rw [hB.get _ (by omega), s1]
    · rw [cell_set_ne _ _ _ _ _ _ (by omega)]
      exact hf.keep (h.q k (by omega) h2) (by omega)
  · exact (h.v.fr hf (fun k hk c => by omega)).set_ne _ _ _ (fun k hk c => by omega)
/-- likewise the first round, whose word is nought -/
theorem DivInv.step0 {w0 wr wx : World} {bq bu bv ov b' l m n X v T : Nat} (h : DivInv w0 wr bq bu bv ov b' l m n X v (m + 1)) (hv : 0 < v)
    (hT : T = X / 18446744073709551616 ^ (m + 1) % v * 18446744073709551616 + wd X m) (d2 : bu ≠ b') (d4 : bv ≠ bu) (d5 : bv = b' → ov + n ≤ l)
    (hf : Fr wr wx (fun k e => (k = bu ∧ m ≤ e ∧ e < m + n) ∨ (k = b' ∧ l ≤ e ∧ e < l + n + 1))) (hs : Ws wx bu m n (T % v)) :
    DivInv w0 wx bq bu bv ov b' l m n X v m := by
  obtain ⟨s1, s2, s3⟩ := step_law X v m hv T hT
  have hF0 : Fr w0 wx (fun k e => (k = bu ∧ e < m + n) ∨ (k = bq ∧ e < m) ∨ (k = b' ∧ l ≤ e ∧ e < l + n + 1)) := h.fr.trans hf (fun k e _ c => by omega)
  refine ⟨hF0, (h.lo.less (by omega)).fr hf (fun k hk c => by omega), ?_, fun k h1 h2 => by omega, h.v.fr hf (fun k hk c => by omega)⟩
  rw [s2, Nat.add_sub_cancel_left]
  exact hs
/-- the words of the guess times v, laid behind the stack -/
theorem div_mul {w0 wr w2 : World} {bq bu bv ov b' l m n X v i T c' q c R : Nat} (h : DivInv w0 wr bq bu bv ov b' l m n X v (i + 1)) (hB : Blk w0 b' c') (hL : l + (n + 1) ≤ c')
    (hvn : v < 18446744073709551616 ^ n) (hT : T = X / 18446744073709551616 ^ (i + 1) % v * 18446744073709551616 + wd X i) (d2 : bu ≠ b') (d5 : bv = b' → ov + n ≤ l)
    (hR : R < 18446744073709551616 ^ n) (hc : c < 18446744073709551616) (he : R + c * 18446744073709551616 ^ n = v % 18446744073709551616 ^ n * q + 0) (hW : Ws w2 b' l n R) (hF : Fr wr w2 (Rg b' l n)) :
    let w3 := w2.setCell ⟨b', l + n, none⟩ (.int .u64 (c : Int))
    Ws w3 b' l (n + 1) (q * v) ∧ R + c * 18446744073709551616 ^ n = q * v ∧ Ws w3 bu i (min (n + 1) (m + n - i)) T ∧ Ws w3 bv ov n v ∧ Fr wr w3 (fun k e => k = b' ∧ l ≤ e ∧ e < l + n + 1) ∧ w2.frozen? ⟨b', l + n, none⟩ = false ∧ (∃ z, w2.cell? ⟨b', l + n, none⟩ = some z) ∧
      w3.cell? ⟨b', l + n, none⟩ = some (.int .u64 (c : Int)) := by
  intro w3
  have hB2 : Blk w2 b' c' := (hB.fr h.fr).fr hF
  have hF3 : Fr wr w3 (fun k e => k = b' ∧ l ≤ e ∧ e < l + n + 1) := (hF.weaken (fun k e _ c => by unfold Rg at c; omega)).set _ _ _ (fun _ => ⟨rfl, by omega, by omega⟩)
  have e2 : R + c * 18446744073709551616 ^ n = q * v := by rw [he, Nat.mod_eq_of_lt hvn, Nat.add_zero, Nat.mul_comm]
  refine ⟨?_, e2, ?_, h.v.fr hF3 (fun k hk c => by omega), hF3, hB2.fz _, hB2.here _ (by omega), hB2.get _ (by omega) _⟩
  · rw [← e2]; exact hW.next hB2 (by omega) hR hc
  · rw [hT]
    have h1 := h.lo i (by omega)
    rw [Nat.zero_add] at h1
    have : Ws wr bu i (m + n - (i + 1) + 1) (X / 18446744073709551616 ^ (i + 1) % v * 18446744073709551616 + wd X i) := sec_ws h1 h.hi
    exact ((this.less (by omega)).fr hF3 (fun k hk c => by omega))
theorem div_init {w1 : World} {bq bu bv ov b' l m n X v q0 : Nat} (hX : Ws w1 bu 0 (m + n) X) (hV : Ws w1 bv ov n v) (hX1 : X < 18446744073709551616 ^ (m + n - 1)) (hv : 9223372036854775808 * 18446744073709551616 ^ (n - 1) ≤ v) (hn : 4 ≤ n) :
    0 = wd (X / 18446744073709551616 ^ (m + 1) % v) (n - 1) ∧ DivInv w1 (w1.drewN q0) bq bu bv ov b' l m n X v (m + 1) := by
  have h1 : X / 18446744073709551616 ^ (m + 1) < 18446744073709551616 ^ (n - 2) := by
    refine (Nat.div_lt_iff_lt_mul (bp_pos _)).2 ?_
    rw [← Nat.pow_add]
    exact lt_pow_le hX1 (by omega)
  have h2 : X / 18446744073709551616 ^ (m + 1) < 18446744073709551616 ^ (n - 1) := lt_pow_le h1 (by omega)
  have hvl : 18446744073709551616 ^ (n - 1) ≤ v := Nat.le_trans (Nat.le_mul_of_pos_left _ (by decide)) hv
  rw [Nat.mod_eq_of_lt (by omega)]
  refine ⟨(wd_zero_of_lt _ _ h2).symm, ⟨(Fr.refl _ _).drewN _, hX.less (by omega), fun k hk => ?_, fun i h3 h4 => by omega, hV⟩⟩
  rw [Nat.mod_eq_of_lt (by omega), ← wd_shift]
  have := hX (m + 1 + k) (by omega)
  rwa [Nat.zero_add] at this
theorem Stk.ne {w : World} {p a b l : Nat} (h : Stk w p a b l) (hl : 0 < l) : a ≠ p ∧ b ≠ p ∧ b ≠ a := by
  obtain ⟨hp, h | ⟨c, g1, g2, g3, g4, g5, g6, g7⟩⟩ := h
  · omega
  · exact g7
theorem div_end {wx w1 wr : World} {p a b l bq bu bv ov m n X v Nu Nq a' b' c' L : Nat} (hL : l + (n + 1) ≤ L)
    (hK : Stk w1 p a' b' L ∧ Nw wx w1 a' a ∧ Nw wx w1 b' b ∧ Fr wx w1 (fun k j => k = p ∨ k = a ∨ (k = b ∧ l ≤ j)))
    (hKS : Ws w1 bu 0 (m + n) X ∧ Ws w1 bv ov n v ∧ Blk w1 bu Nu ∧ Blk w1 bq Nq ∧ Blk w1 b' c' ∧ (bu ≠ p ∧ bu ≠ a' ∧ bu ≠ b') ∧ (bq ≠ p ∧ bq ≠ a' ∧ bq ≠ b') ∧ bu ≠ bq ∧ (bv ≠ p ∧ bv ≠ a' ∧ bv ≠ bu ∧ bv ≠ bq) ∧ (bv = b' → ov + n ≤ l))
    (h : DivInv w1 wr bq bu bv ov b' l m n X v 0) :
    Stk wr p a' b' L ∧ ∀ w2, Stk w2 p a' b' l → Fr wr w2 (fun k _ => k = a') →
      Stk w2 p a' b' l ∧ Nw wx w2 a' a ∧ Nw wx w2 b' b ∧ Ws w2 bq 0 m (X / v) ∧ Ws w2 bu 0 (m + n) (X % v) ∧ Fr wx w2 (fun k i => k = p ∨ k = a ∨ (k = b ∧ l ≤ i) ∨ k = bu ∨ k = bq) := by
  obtain ⟨k1, k2, k3, k4⟩ := hK
  obtain ⟨_, _, _, _, _, ⟨d1, d1a, d1b⟩, ⟨d2, d2a, d2b⟩, _⟩ := hKS
  obtain ⟨n1, n2, n3⟩ := k1.ne (by omega)
  refine ⟨k1.fr h.fr (fun c => by omega) (fun c => by omega), fun w2 hS hF => ?_⟩
  have h1 := h.hi
  rw [Nat.pow_zero, Nat.div_one, Nat.sub_zero] at h1
  have hs1 := h.fr.size
  have hs2 := hF.size
  have hF1 : Fr w1 w2 (fun k i => (k = bu ∧ i < m + n) ∨ (k = bq ∧ i < m) ∨ (k = b' ∧ l ≤ i ∧ i < l + n + 1) ∨ k = a') := (h.fr.weaken (fun k i _ c => by omega)).trans hF (fun k i _ c => by omega)
  refine ⟨hS, ?_, ?_, ?_, h1.fr hF (fun i _ c => d1a c), k4.weaken (fun k i _ c => by omega) |>.trans hF1 (fun k i hk c => ?_)⟩
  · rcases k2 with e | e
    · exact Or.inl e
    · exact Or.inr ⟨e.1, by omega⟩
  · rcases k3 with e | e
    · exact Or.inl e
    · exact Or.inr ⟨e.1, by omega⟩
  · intro i hi
    have := h.q i (by omega) hi
    rw [Nat.zero_add]
    exact hF.keep this (fun c => d2a c)
  · rcases c with c | c | c | c
    · exact Or.inr (Or.inr (Or.inr (Or.inl c.1)))
    · exact Or.inr (Or.inr (Or.inr (Or.inr c.1)))
    · rcases k3 with e | e
      · exact Or.inr (Or.inr (Or.inl ⟨by omega, c.2.1⟩))
      · omega
    · rcases k2 with e | e
      · exact Or.inr (Or.inl (by omega))
      · omega
/-- what a round finds -/
theorem div_round {w1 wr : World} {bq bu bv ov b' l m n X v i t T : Nat} (ht : t = wd (X / 18446744073709551616 ^ (i + 1) % v) (n - 1)) (h : DivInv w1 wr bq bu bv ov b' l m n X v (i + 1)) (hi : i ≤ m) (hn : 4 ≤ n)
    (hv : 9223372036854775808 * 18446744073709551616 ^ (n - 1) ≤ v) (hvn : v < 18446744073709551616 ^ n) (hT : T = X / 18446744073709551616 ^ (i + 1) % v * 18446744073709551616 + wd X i) :
    t ≤ wd v (n - 1) ∧ T < v * 18446744073709551616 ∧ wr.cell? ⟨bu, i + n - 1, none⟩ = some (.int .u64 ((wd T (n - 1) : Nat) : Int)) ∧ wr.cell? ⟨bu, i + n - 2, none⟩ = some (.int .u64 ((wd T (n - 2) : Nat) : Int)) ∧
      wr.cell? ⟨bv, ov + (n - 2), none⟩ = some (.int .u64 ((wd v (n - 2) : Nat) : Int)) ∧ (t = wd v (n - 1) → T / v ≤ 18446744073709551615 ∧ 18446744073709551615 ≤ T / v + 1) ∧
      (t < wd v (n - 1) → ∀ q, Ge (wd v (n - 1)) (wd v (n - 2)) (t * 18446744073709551616 + wd T (n - 1)) (wd T (n - 2)) q → T / v ≤ q ∧ q ≤ T / v + 1) := by
  have hv0 : 0 < v := Nat.lt_of_lt_of_le (Nat.mul_pos (by decide) (bp_pos _)) hv
  obtain ⟨_, _, s3⟩ := step_law X v i hv0 T hT
  have hw : Ws wr bu i (m + n - (i + 1) + 1) T := by
    have h1 := h.lo i (by omega)
    rw [Nat.zero_add] at h1
    rw [hT]
    exact sec_ws h1 h.hi
  have htn : t = wd T n := by
    rw [ht, hT, show n = (n - 1) + 1 from by omega, sec_hi _ _ _ (wd_lt X i), Nat.add_sub_cancel]
  obtain ⟨k, rfl⟩ : ∃ k, n = k + 2 := ⟨n - 2, by omega⟩
  have e1 : k + 2 - 1 = k + 1 := by omega
  have e2 : k + 2 - 2 = k := by omega
  rw [e1] at hv ⊢
  rw [e2]
  obtain ⟨r1, r2, r3⟩ := round_law v T k 0 hv hvn s3
  rw [← htn] at r1 r2
  refine ⟨r1, s3, ?_, ?_, h.v k (by omega), r2, fun hlt q hq => ?_⟩
  · have := hw (k + 1) (by omega)
    rwa [show i + (k + 1) = i + (k + 2) - 1 from by omega] at this
  · have := hw k (by omega)
    rwa [show i + k = i + (k + 2) - 2 from by omega] at this
  · obtain ⟨q1, q2, q3⟩ := hq
    have := (round_law v T k q hv hvn s3).2.2
    rw [← htn] at this
    exact this hlt q1 q2 q3
/-- the end of a round -/
theorem div_close {w1 wr w3 wx : World} {bq bu bv ov b' l m n X v i T Nq : Nat} (h : DivInv w1 wr bq bu bv ov b' l m n X v (i + 1)) (hi : i < m) (hn : 1 ≤ n) (hv : 9223372036854775808 * 18446744073709551616 ^ (n - 1) ≤ v) (hvn : v < 18446744073709551616 ^ n)
    (hT : T = X / 18446744073709551616 ^ (i + 1) % v * 18446744073709551616 + wd X i) (d1 : bu ≠ bq) (d2 : bu ≠ b') (d3 : bq ≠ b') (d4 : bv ≠ bu ∧ bv ≠ bq) (d5 : bv = b' → ov + n ≤ l) (hBq : Blk w1 bq Nq) (hNq : m ≤ Nq)
    (hf : Fr wr w3 (fun k e => k = b' ∧ l ≤ e ∧ e < l + n + 1)) (hf2 : Fr w3 wx (Rg bu i (n + 1))) (hs : Ws wx bu i (n + 1) (T % v)) :
    wx.frozen? ⟨bq, i, none⟩ = false ∧ (∃ z, wx.cell? ⟨bq, i, none⟩ = some z) ∧ wx.cell? ⟨bu, i + n - 1, none⟩ = some (.int .u64 ((wd (T % v) (n - 1) : Nat) : Int)) ∧
      (wd (T % v) (n - 1) = wd (X / 18446744073709551616 ^ i % v) (n - 1) ∧ DivInv w1 (wx.setCell ⟨bq, i, none⟩ (.int .u64 ((T / v : Nat) : Int))) bq bu bv ov b' l m n X v i) := by
  have hv0 : 0 < v := Nat.lt_of_lt_of_le (Nat.mul_pos (by decide) (bp_pos _)) hv
  obtain ⟨s1, s2, s3⟩ := step_law X v i hv0 T hT
  obtain ⟨k1, k2, k3⟩ := h.step hi hv0 hvn hT d1 d2 d3 d4 d5 hBq hNq ((hf.weaken (fun k e _ c => Or.inr c)).trans hf2 (fun k e _ c => by unfold Rg at c; omega)) hs
  refine ⟨k2, k3, ?_, by rw [s2], k1⟩
  have := hs (n - 1) (by omega)
  rwa [show i + (n - 1) = i + n - 1 from by omega] at this
theorem div_close0 {w1 wr w3 wx : World} {bq bu bv ov b' l m n X v T : Nat} (h : DivInv w1 wr bq bu bv ov b' l m n X v (m + 1)) (hn : 1 ≤ n) (hv : 9223372036854775808 * 18446744073709551616 ^ (n - 1) ≤ v)
    (hT : T = X / 18446744073709551616 ^ (m + 1) % v * 18446744073709551616 + wd X m) (d2 : bu ≠ b') (d4 : bv ≠ bu) (d5 : bv = b' → ov + n ≤ l)
    (hf : Fr wr w3 (fun k e => k = b' ∧ l ≤ e ∧ e < l + n + 1)) (hf2 : Fr w3 wx (Rg bu m n)) (hs : Ws wx bu m n (T % v)) :
    wx.cell? ⟨bu, m + n - 1, none⟩ = some (.int .u64 ((wd (T % v) (n - 1) : Nat) : Int)) ∧ (wd (T % v) (n - 1) = wd (X / 18446744073709551616 ^ m % v) (n - 1) ∧ DivInv w1 wx bq bu bv ov b' l m n X v m) := by
  have hv0 : 0 < v := Nat.lt_of_lt_of_le (Nat.mul_pos (by decide) (bp_pos _)) hv
  obtain ⟨s1, s2, s3⟩ := step_law X v m hv0 T hT
  have k1 := h.step0 (bq := bq) hv0 hT d2 d4 d5 ((hf.weaken (fun k e _ c => Or.inr c)).trans hf2 (fun k e _ c => by unfold Rg at c; omega)) hs
  refine ⟨?_, by rw [s2], k1⟩
  have := hs (n - 1) (by omega)
  rwa [show m + (n - 1) = m + n - 1 from by omega] at this
/-- the subtraction, where there are words enough -/
theorem div_sub {w3 w4 : World} {bu i n T q v R c : Nat} (hv : 0 < v) (hvn : v < 18446744073709551616 ^ n) (hT : T < v * 18446744073709551616) (hq : q ≤ 18446744073709551615) (hq1 : T / v ≤ q) (hq2 : q ≤ T / v + 1) (hc : c ≤ 1)
    (hR : R < 18446744073709551616 ^ (n + 1)) (he : R + q * v % 18446744073709551616 ^ (n + 1) = T % 18446744073709551616 ^ (n + 1) + c * 18446744073709551616 ^ (n + 1)) (hW : Ws w4 bu i (n + 1) R) (_hF : Fr w3 w4 (Rg bu i (n + 1))) :
    (c = 0 → q = T / v ∧ Ws w4 bu i (n + 1) (T % v)) ∧ (c = 1 → q = T / v + 1 ∧ R % 18446744073709551616 ^ n + v = 18446744073709551616 ^ n + T % v ∧ w4.cell? ⟨bu, i + n, none⟩ = some (.int .u64 18446744073709551615)) := by
  have hP : 18446744073709551616 ^ (n + 1) = 18446744073709551616 * 18446744073709551616 ^ n := by rw [Nat.pow_succ, Nat.mul_comm]
  have h1 : q * v < 18446744073709551616 ^ (n + 1) := by
    rw [hP]
    exact Nat.lt_of_le_of_lt (Nat.mul_le_mul_right v hq) (Nat.lt_of_lt_of_le ((Nat.mul_lt_mul_right hv).2 (by decide)) (Nat.mul_le_mul_left _ (Nat.le_of_lt hvn)))
  have h2 : T < 18446744073709551616 ^ (n + 1) := by
    rw [hP, Nat.mul_comm]
    exact Nat.lt_of_lt_of_le hT (Nat.mul_le_mul_right _ (Nat.le_of_lt hvn))
  rw [Nat.mod_eq_of_lt h1, Nat.mod_eq_of_lt h2, hP] at he
  rw [hP] at hR
  obtain ⟨k1, k2⟩ := sec_law (18446744073709551616 ^ n) v T q R c (Nat.le_of_lt hvn) hv hq1 hq2 hR he hc
  refine ⟨fun e => ⟨(k1 e).1, (k1 e).2 ▸ hW⟩, fun e => ?_⟩
  obtain ⟨g1, g2, g3⟩ := k2 e
  refine ⟨g1, g3, ?_⟩
  have := hW n (by omega)
  rw [wd_top (by rw [hP]; exact hR), g2] at this
  exact this
/-- the adding back -/
theorem div_add {w4 w5 : World} {bu i n T v R R2 c2 Nu : Nat} (hv : 0 < v) (hvn : v < 18446744073709551616 ^ n) (hB : Blk w4 bu Nu) (hN : i + n < Nu)
    (h : R % 18446744073709551616 ^ n + v = 18446744073709551616 ^ n + T % v) (hc : c2 ≤ 1) (hR : R2 < 18446744073709551616 ^ n) (he : R2 + c2 * 18446744073709551616 ^ n = R % 18446744073709551616 ^ n + v % 18446744073709551616 ^ n)
    (hW : Ws w5 bu i n R2) (hF : Fr w4 w5 (Rg bu i n)) (hcell : w4.cell? ⟨bu, i + n, none⟩ = some (.int .u64 18446744073709551615)) :
    c2 = 1 ∧ R2 = T % v ∧ w5.cell? ⟨bu, i + n, none⟩ = some (.int .u64 18446744073709551615) ∧ w5.frozen? ⟨bu, i + n, none⟩ = false ∧ Ws (w5.setCell ⟨bu, i + n, none⟩ (.int .u64 0)) bu i (n + 1) (T % v) ∧ Fr w4 (w5.setCell ⟨bu, i + n, none⟩ (.int .u64 0)) (Rg bu i (n + 1)) := by
  rw [Nat.mod_eq_of_lt hvn, h] at he
  have hm : T % v < v := Nat.mod_lt _ hv
  have hc2 : c2 = 0 ∨ c2 = 1 := by omega
  have hk : c2 = 1 ∧ R2 = T % v := by
    generalize 18446744073709551616 ^ n = P at *
    generalize T % v = t at *
    rcases hc2 with rfl | rfl
    · exfalso; omega
    · exact ⟨rfl, by omega⟩
  have hB5 := hB.fr hF
  refine ⟨hk.1, hk.2, hF.keep hcell (by unfold Rg; omega), hB5.fz _, ?_, (hF.weaken (fun k e _ c => by unfold Rg at *; omega)).set _ _ _ (fun _ => ⟨rfl, by omega, by omega⟩)⟩
  have := (hk.2 ▸ hW : Ws w5 bu i n (T % v)).next hB5 (by omega) (Nat.lt_trans hm hvn) (r := 0) (by decide)
  rw [Nat.zero_mul, Nat.add_zero] at this
  exact this
/-- the first round: no word above -/
theorem div_top {X m n v T q c R : Nat} (hX : X < 18446744073709551616 ^ (m + n - 1)) (hn : 1 ≤ n) (hv : 9223372036854775808 * 18446744073709551616 ^ (n - 1) ≤ v) (hvn : v < 18446744073709551616 ^ n)
    (hT : T = X / 18446744073709551616 ^ (m + 1) % v * 18446744073709551616 + wd X m) (hq : q ≤ T / v + 1) (he : R + c * 18446744073709551616 ^ n = q * v) :
    T < v ∧ T / v = 0 ∧ q ≤ 1 ∧ c = 0 ∧ q * v < 18446744073709551616 ^ n := by
  have e : X / 18446744073709551616 ^ m = X / 18446744073709551616 ^ (m + 1) * 18446744073709551616 + wd X m := div_words X m
  have hv0 : 0 < 18446744073709551616 ^ (n - 1) := bp_pos _
  have hlt : X / 18446744073709551616 ^ m < 18446744073709551616 ^ (n - 1) := by
    refine (Nat.div_lt_iff_lt_mul (bp_pos m)).2 ?_
    rw [← Nat.pow_add]
    exact lt_pow_le hX (by omega)
  have hvl : 18446744073709551616 ^ (n - 1) ≤ v := Nat.le_trans (Nat.le_mul_of_pos_left _ (by decide)) hv
  have hm : X / 18446744073709551616 ^ (m + 1) % v = X / 18446744073709551616 ^ (m + 1) := Nat.mod_eq_of_lt (by omega)
  rw [hm, ← e] at hT
  have hTv : T < v := by omega
  have hd : T / v = 0 := Nat.div_eq_of_lt hTv
  rw [hd] at hq
  have hqv : q * v < 18446744073709551616 ^ n := by
    have : q = 0 ∨ q = 1 := by omega
    rcases this with rfl | rfl
    · rw [Nat.zero_mul]; exact bp_pos _
    · rw [Nat.one_mul]; exact hvn
  refine ⟨hTv, hd, by omega, ?_, hqv⟩
  rcases Nat.eq_zero_or_pos c with h | h
  · exact h
  · exfalso
    have : 18446744073709551616 ^ n ≤ c * 18446744073709551616 ^ n := Nat.le_mul_of_pos_left _ h
    omega
theorem div_sub0 {w4 : World} {bu m n T q v R c : Nat} (hvn : v < 18446744073709551616 ^ n) (hT : T < v) (hq1 : q ≤ 1) (hqv : q * v < 18446744073709551616 ^ n) (hc : c ≤ 1)
    (hR : R < 18446744073709551616 ^ n) (he : R + q * v % 18446744073709551616 ^ n = T % 18446744073709551616 ^ n + c * 18446744073709551616 ^ n) (hW : Ws w4 bu m n R) :
    (c = 0 → q = 0 ∧ Ws w4 bu m n (T % v)) ∧ (c = 1 → q = 1 ∧ R % 18446744073709551616 ^ n + v = 18446744073709551616 ^ n + T % v) := by
  rw [Nat.mod_eq_of_lt hqv, Nat.mod_eq_of_lt (Nat.lt_trans hT hvn)] at he
  rw [Nat.mod_eq_of_lt hT, Nat.mod_eq_of_lt hR]
  obtain ⟨k1, k2⟩ := sec_top hT (Nat.le_of_lt hvn) hq1 hR he hc
  exact ⟨fun e => ⟨(k1 e).1, (k1 e).2 ▸ hW⟩, k2⟩
theorem div_add0 {w5 : World} {bu m n T v R R2 c2 : Nat} (hv : 0 < v) (hvn : v < 18446744073709551616 ^ n)
    (h : R % 18446744073709551616 ^ n + v = 18446744073709551616 ^ n + T % v) (hc : c2 ≤ 1) (hR : R2 < 18446744073709551616 ^ n) (he : R2 + c2 * 18446744073709551616 ^ n = R % 18446744073709551616 ^ n + v % 18446744073709551616 ^ n)
    (hW : Ws w5 bu m n R2) : Ws w5 bu m n (T % v) := by
  rw [Nat.mod_eq_of_lt hvn, h] at he
  have hm : T % v < v := Nat.mod_lt _ hv
  have hc2 : c2 = 0 ∨ c2 = 1 := by omega
  have hk : R2 = T % v := by
    generalize 18446744073709551616 ^ n = P at *
    generalize T % v = t at *
    rcases hc2 with rfl | rfl
    · exfalso; omega
    · omega
  exact hk ▸ hW
end Go.Proofs.YtdidglfaogmnfaaGreatDoor
