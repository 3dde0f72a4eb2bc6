/-
  A part of the proof of FnIntText: the schoolbook square.
-/
import Derived.Test.YtdidglfaogmnfaaGreatDoorP
import Derived.Lib.SliceRun
import Derived.BigFrame
import Derived.StillTailTactics
import Derived.Deep.RegionWith
namespace Go.Proofs.YtdidglfaogmnfaaGreatDoor
open Go.RowKit

theorem zero62 (w : World) : (zeroValue 62).run Tryz.prog w = .ok (.int .u64 0) w := by kernel_rfl
theorem clear_ws (b c n N : Nat) (w : World) (hB : Blk w b N) (hN : n ≤ N) (hn : 1 ≤ n) :
    (∀ ty, (Builtin.clear_ #[45] ty #[.slice (some ⟨b, 0, none⟩) n c]).run Tryz.prog w = .ok (.tuple #[]) (w.setCells b 0 (wvs 0 n))) ∧ Ws (w.setCells b 0 (wvs 0 n)) b 0 n 0 ∧ Fr w (w.setCells b 0 (wvs 0 n)) (Rg b 0 n) := by
  have hrep : wvs 0 n = List.replicate n (.int .u64 0) := by
    apply List.ext_getElem?
    intro i
    by_cases h : i < n
    · rw [wvs_at _ _ _ h, List.getElem?_replicate, if_pos h, wd_zero]; rfl
    · rw [List.getElem?_eq_none (by rw [wvs_len]; omega), List.getElem?_eq_none (by simp; omega)]
  have hcell : ∀ j, j < n → (w.cell? ⟨b, 0 + j, none⟩).isSome = true := fun j hj => by
    obtain ⟨v, hv⟩ := hB.here (0 + j) (by omega)
    rw [hv]; rfl
  refine ⟨fun ty => ?_, fun i hi => ?_, Fr.setCells b _ 0 w (Fr.refl _ _) (fun j hj _ => by rw [wvs_len] at hj; exact ⟨rfl, by omega, by omega⟩)⟩
  · rw [hrep]
    exact Lib.run_clear_slice w 45 62 ty (.int .u64 0) Tryz.underlying45 zero62 rfl rfl b 0 n c (by omega) hcell (fun j _ => hB.fz _)
  · have h := World.cell?_setCells_in b (wvs 0 n) 0 w (fun j hj => by rw [wvs_len] at hj; exact hcell j hj) i (by rw [wvs_len]; exact hi)
    rw [h]
    have := wvs_at 0 n i hi
    rw [List.getElem?_eq_getElem (by rw [wvs_len]; exact hi)] at this
    exact this
/-- the product so far -/
structure MulInv (w0 wr : World) (bz bx n X i : Nat) : Prop where
  z : Ws wr bz 0 (2 * n) (X * (X % 18446744073709551616 ^ i))
  x : Ws wr bx 0 n X
  f : Fr w0 wr (Rg bz 0 (2 * n))
theorem mul_lt {X n i : Nat} (hX : X < 18446744073709551616 ^ n) : X * (X % 18446744073709551616 ^ i) < 18446744073709551616 ^ (i + n) := by
  rw [Nat.pow_add, Nat.mul_comm]
  exact Nat.mul_lt_mul'' (Nat.mod_lt _ (bp_pos i)) hX
theorem MulInv.skip {w0 wr : World} {bz bx n X i : Nat} (h : MulInv w0 wr bz bx n X i) (hd : wd X i = 0) : MulInv w0 wr bz bx n X (i + 1) := by
  refine ⟨?_, h.x, h.f⟩
  rw [mod_step, hd, Nat.zero_mul, Nat.add_zero]
  exact h.z
theorem MulInv.step {w0 wr w2 : World} {bz bx n X i c R N : Nat} (h : MulInv w0 wr bz bx n X i) (hX : X < 18446744073709551616 ^ n) (hi : i < n) (hne : bx ≠ bz) (hB : Blk wr bz N) (hN : 2 * n ≤ N)
    (hc : c < 18446744073709551616) (hR : R < 18446744073709551616 ^ n) (he : R + c * 18446744073709551616 ^ n = (X * (X % 18446744073709551616 ^ i) / 18446744073709551616 ^ i) % 18446744073709551616 ^ n + X % 18446744073709551616 ^ n * wd X i + 0)
    (hW : Ws w2 bz i n R) (hF : Fr wr w2 (Rg bz i n)) : MulInv w0 (w2.setCell ⟨bz, n + i, none⟩ (.int .u64 (c : Int))) bz bx n X (i + 1) ∧ w2.frozen? ⟨bz, n + i, none⟩ = false ∧ ∃ z, w2.cell? ⟨bz, n + i, none⟩ = some z := by
  have hB2 := hB.fr hF
  have hlt := mul_lt (i := i) hX
  have hq : X * (X % 18446744073709551616 ^ i) / 18446744073709551616 ^ i < 18446744073709551616 ^ n := by
    refine (Nat.div_lt_iff_lt_mul (bp_pos i)).2 ?_
    rw [← Nat.pow_add, Nat.add_comm]; exact hlt
  rw [Nat.mod_eq_of_lt hq, Nat.mod_eq_of_lt hX, Nat.add_zero] at he
  have hZ : X * (X % 18446744073709551616 ^ (i + 1)) = (R + c * 18446744073709551616 ^ n) * 18446744073709551616 ^ i + X * (X % 18446744073709551616 ^ i) % 18446744073709551616 ^ i := by
    rw [mod_step, Nat.mul_add, he, Nat.add_mul]
    have := Nat.div_add_mod (X * (X % 18446744073709551616 ^ i)) (18446744073709551616 ^ i)
    rw [Nat.mul_comm (18446744073709551616 ^ i)] at this
    rw [← Nat.mul_assoc]
    omega
  refine ⟨⟨fun k hk => ?_, (h.x.fr hF (fun _ _ c => hne c.1)).set_ne _ _ _ (fun _ _ c => hne c.1), (h.f.trans hF (fun k j _ c => ⟨c.1, by omega, by have := c.2.2; omega⟩)).set _ _ _ (fun _ => ⟨rfl, by omega, by omega⟩)⟩, hB2.fz _, hB2.here _ (by omega)⟩
  rw [hZ, Nat.zero_add]
  by_cases h1 : k < i
  · rw [wd_low _ _ _ _ h1, cell_set_ne _ _ _ _ _ _ (by omega)]
    have := h.z k (by omega)
    rw [Nat.zero_add] at this
    exact hF.keep this (by unfold Rg; omega)
  · obtain ⟨j, rfl⟩ : ∃ j, k = i + j := ⟨k - i, by omega⟩
    rw [wd_high]
    by_cases h2 : j < n
    · rw [wd_add_lt _ _ _ _ h2, cell_set_ne _ _ _ _ _ _ (by omega)]
      exact hW j h2
    · by_cases h3 : j = n
      · subst h3
        rw [wd_add_eq _ _ _ hR hc, Nat.add_comm i j]
        exact hB2.get _ (by omega) _
      · rw [wd_zero_of_lt _ _ (lt_pow_le (lt_add R c n hR hc) (by omega)), cell_set_ne _ _ _ _ _ _ (by omega)]
        have := h.z (i + j) (by omega)
        rw [Nat.zero_add, wd_zero_of_lt _ _ (lt_pow_le hlt (by omega))] at this
        exact hF.keep this (by unfold Rg; omega)
end Go.Proofs.YtdidglfaogmnfaaGreatDoor
