/-
  A part of the proof of FnIntText: decimal digits of a number, by blocks of nineteen: what convertWords leaves.
-/
import Derived.Test.YtdidglfaogmnfaaGreatDoorS
namespace Go.Proofs.YtdidglfaogmnfaaGreatDoor
open Go.RowKit

/-- the decimal digit at place k -/
def dg (X k : Nat) : Nat := X / 10 ^ k % 10
/-- the n cells from o on of block b hold the last n decimal digits, the greatest first; of them those from the place f on are known -/
def Ds (w : World) (b o n f X : Nat) : Prop := ∀ k, k < f → w.cell? ⟨b, o + (n - 1 - k), none⟩ = some (.int .u8 ((48 + dg X k : Nat) : Int))
theorem dg_lt (X k : Nat) : dg X k < 10 := Nat.mod_lt _ (by decide)
theorem dg_div (X m k : Nat) : dg (X / 10 ^ m) k = dg X (m + k) := by unfold dg; rw [ten_div]
theorem dg_mod (X n k : Nat) (h : k < n) : dg (X % 10 ^ n) k = dg X k := dig_rem X n k h
theorem dg_zero {X k : Nat} (h : X < 10 ^ k) : dg X k = 0 := by unfold dg; rw [Nat.div_eq_of_lt h]
/-- one more digit, laid ahead of the others -/
theorem Ds.next {w : World} {b o n f X N : Nat} (h : Ds w b o n f X) (hB : Blk w b N) (hN : o + n ≤ N) (hf : f < n) (d : Nat) (hd : d = dg X f) :
    Ds (w.setCell ⟨b, o + (n - 1 - f), none⟩ (.int .u8 ((48 + d : Nat) : Int))) b o n (f + 1) X := fun k hk => by
  by_cases e : k = f
  · subst e; rw [hB.get _ (by omega), hd]
  · rw [cell_set_ne _ _ _ _ _ _ (by omega)]; exact h k (by omega)
theorem Ds.fr {w w' : World} {S : Nat → Nat → Prop} {b o n f X : Nat} (h : Ds w b o n f X) (hf : Fr w w' S) (hS : ∀ k, k < f → ¬ S b (o + (n - 1 - k))) : Ds w' b o n f X := fun k hk => hf.keep (h k hk) (hS k hk)

theorem Ds.join {w : World} {b o n n1 X Y : Nat} (h1 : Ds w b o n (n - n1) X) (h2 : Ds w b o n1 n1 Y) (hn : n1 ≤ n) (he : ∀ k, k < n1 → dg Y k = dg X (n - n1 + k)) : Ds w b o n n X := fun k hk => by
  by_cases h : k < n - n1
  · exact h1 k h
  · have := h2 (k - (n - n1)) (by omega)
    rwa [he _ (by omega), show n - n1 + (k - (n - n1)) = k from by omega, show n1 - 1 - (k - (n - n1)) = n - 1 - k from by omega] at this
/-- the state of the division by blocks: m digits of Y are written, g is to come -/
structure CvInv (wc wr : World) (b1 c1 bs os n1 N Y g y m : Nat) : Prop where
  kq : Blk wr b1 c1
  ks : Blk wr bs N
  kw : Ws wr b1 0 y g
  kn : Nrm g y
  kd : Ds wr bs os n1 m Y
  kg : m < n1 → g = Y / 10 ^ m
  kf : Fr wc wr (fun k j => k = b1 ∨ (k = bs ∧ os ≤ j ∧ j < os + n1))
/-- inside a block -/
structure CvIn (w2 wr : World) (bs os n1 N Y m : Nat) : Prop where
  ks : Blk wr bs N
  kd : Ds wr bs os n1 m Y
  kf : Fr w2 wr (fun k j => k = bs ∧ os ≤ j ∧ j < os + n1)
theorem cv_start {wc wr w2 : World} {b1 c1 bs os n1 N Y g y m : Nat} (h : CvInv wc wr b1 c1 bs os n1 N Y g y m) (hne : b1 ≠ bs) (hF : Fr wr w2 (Rg b1 0 y)) :
    CvIn w2 w2 bs os n1 N Y m := ⟨h.ks.fr hF, h.kd.fr hF (fun _ _ c => hne c.1.symm), Fr.refl _ _⟩
theorem cv_in {w2 wr : World} {bs os n1 N Y m j g R r : Nat} (h : CvIn w2 wr bs os n1 N Y (m + j)) (hN : os + n1 ≤ N) (hlt : m + j < n1) (hg : m < n1 → g = Y / 10 ^ m) (hR : R = g % 10000000000000000000) (hj : j < 19) (hr : r = R / 10 ^ j) :
    CvIn w2 (wr.setCell ⟨bs, os + (n1 - 1 - (m + j)), none⟩ (.int .u8 ((48 + r % 10 : Nat) : Int))) bs os n1 N Y (m + j + 1) ∧ r / 10 = R / 10 ^ (j + 1) ∧ wr.frozen? ⟨bs, os + (n1 - 1 - (m + j)), none⟩ = false ∧ ∃ z, wr.cell? ⟨bs, os + (n1 - 1 - (m + j)), none⟩ = some z := by
  have hF : Fr w2 (wr.setCell ⟨bs, os + (n1 - 1 - (m + j)), none⟩ (.int .u8 ((48 + r % 10 : Nat) : Int))) (fun k j => k = bs ∧ os ≤ j ∧ j < os + n1) := h.kf.set _ _ _ (fun _ => ⟨rfl, by omega, by omega⟩)
  have hd : r % 10 = dg Y (m + j) := by
    have h1 := hg (by omega)
    have e : dg (g % 10 ^ 19) j = dg g j := dg_mod g 19 j hj
    rw [← dg_div, ← h1, ← e]
    unfold dg
    rw [hr, hR]
  refine ⟨⟨h.ks.fr ((Fr.refl wr (Al bs)).set _ _ _ (fun _ => rfl)), h.kd.next h.ks hN hlt _ hd, hF⟩, ?_, h.ks.fz _, h.ks.here _ (by omega)⟩
  rw [hr, Nat.div_div_eq_div_mul, ← Nat.pow_succ]
theorem cv_round {wc wr w2 wy : World} {b1 c1 bs os n1 N Y g y m j k : Nat} (h : CvInv wc wr b1 c1 bs os n1 N Y g y m) (hne : b1 ≠ bs) (hF : Fr wr w2 (Rg b1 0 y)) (hk : Nrm (g / 10000000000000000000) k) (hW : Ws w2 b1 0 k (g / 10000000000000000000))
    (hi : CvIn w2 wy bs os n1 N Y (m + j)) (hj : j = 19 ∨ m + j = n1) (hjn : m + j ≤ n1) : CvInv wc wy b1 c1 bs os n1 N Y (g / 10000000000000000000) k (m + j) := by
  refine ⟨(h.kq.fr hF).fr hi.kf, hi.ks, hW.fr hi.kf (fun _ _ c => hne c.1), hk, hi.kd, fun hlt => ?_, (h.kf.trans hF (fun k j _ c => Or.inl c.1)).trans hi.kf (fun k j _ c => Or.inr c)⟩
  rcases hj with e | e
  · subst e
    rw [h.kg (by omega), Nat.pow_add, ← Nat.div_div_eq_div_mul]
  · omega
theorem cv_zero {w2 wr : World} {bs os n1 N Y m : Nat} (h : CvIn w2 wr bs os n1 N Y m) (hN : os + n1 ≤ N) (hlt : m < n1) (hY : Y < 10 ^ m) :
    CvIn w2 (wr.setCell ⟨bs, os + (n1 - 1 - m), none⟩ (.int .u8 48)) bs os n1 N Y (m + 1) ∧ Y < 10 ^ (m + 1) ∧ wr.frozen? ⟨bs, os + (n1 - 1 - m), none⟩ = false ∧ ∃ z, wr.cell? ⟨bs, os + (n1 - 1 - m), none⟩ = some z := by
  have hF : Fr w2 (wr.setCell ⟨bs, os + (n1 - 1 - m), none⟩ (.int .u8 48)) (fun k j => k = bs ∧ os ≤ j ∧ j < os + n1) := h.kf.set _ _ _ (fun _ => ⟨rfl, by omega, by omega⟩)
  have hd := h.kd.next h.ks hN hlt 0 (dg_zero hY).symm
  rw [Nat.pow_succ]
  exact ⟨⟨h.ks.fr ((Fr.refl wr (Al bs)).set _ _ _ (fun _ => rfl)), hd, hF⟩, by omega, h.ks.fz _, h.ks.here _ (by omega)⟩
theorem cv_last {wc wo : World} {b1 c1 bs os n1 N Y g m i : Nat} (h : CvInv wc wo b1 c1 bs os n1 N Y g 0 m) (him : i + m = n1) : CvIn wo wo bs os n1 N Y m ∧ (0 < i → Y < 10 ^ m) := by
  refine ⟨⟨h.ks, h.kd, Fr.refl _ _⟩, fun hi => ?_⟩
  have h1 := h.kg (by omega)
  have h2 := h.kn.1
  rw [Nat.pow_zero] at h2
  have h3 : Y / 10 ^ m = 0 := by omega
  rcases Nat.div_eq_zero_iff.1 h3 with e | e
  · have : 0 < 10 ^ m := Nat.pow_pos (by decide)
    omega
  · exact e
theorem cv_fin {wc wo wy : World} {b1 c1 bs os n n1 N X Y g m : Nat} (h : CvInv wc wo b1 c1 bs os n1 N Y g 0 m) (h2 : CvIn wo wy bs os n1 N Y n1) (hne : b1 ≠ bs) (hn1 : n1 ≤ n) (hd : Ds wc bs os n (n - n1) X) (he : ∀ k, k < n1 → dg Y k = dg X (n - n1 + k)) :
    Ds wy bs os n n X ∧ Fr wc wy (fun k j => k = b1 ∨ (k = bs ∧ os ≤ j ∧ j < os + n1)) := by
  have hF := h.kf.trans h2.kf (fun k j _ c => Or.inr c)
  refine ⟨Ds.join (hd.fr hF (fun k hk c => ?_)) h2.kd hn1 he, hF⟩
  rcases c with c | c
  · exact hne c.symm
  · omega
/-- what the small loop's round writes -/
theorem digit_step (r : Nat) (hr : r < 18446744073709551616) : IntKind.u64.wrap ((r : Int) / 10 * 10) = ((r / 10 * 10 : Nat) : Int) ∧ IntKind.u64.wrap ((r : Int) - ((r / 10 * 10 : Nat) : Int)) = ((r % 10 : Nat) : Int) ∧ IntKind.u8.wrap ((r % 10 : Nat) : Int) = ((r % 10 : Nat) : Int) ∧ IntKind.u8.wrap (48 + ((r % 10 : Nat) : Int)) = ((48 + r % 10 : Nat) : Int) := by
  have hu8 : ∀ n : Int, IntKind.u8.wrap n = n % 256 := IntKind.wrap_u8
  rw [IntKind.wrap_u64, IntKind.wrap_u64, hu8, hu8]
  omega
end Go.Proofs.YtdidglfaogmnfaaGreatDoor
