/-
  A part of the proof of FnIntText: a row of words by a word.
-/
import Derived.Test.YtdidglfaogmnfaaGreatDoorF
namespace Go.Proofs.YtdidglfaogmnfaaGreatDoor
open Go.RowKit

theorem divV_c (b o n N X y m c1 c2 : Nat) (w : World) (hB : Blk w b N) (hN : o + n ≤ N) (hn : n ≤ 1000) (hn1 : 1 ≤ n) (hX : Ws w b o n X) (hXn : X < 18446744073709551616 ^ n) (hD : Dv y m) :
    Calls Tryz.prog 76 #[.slice (some ⟨b, o, none⟩) n c1, .int .u64 0, .slice (some ⟨b, o, none⟩) n c2, .int .u64 y] w fun e w' => e = .returned (.int .u64 (X % y : Nat)) ∧ Ws w' b o n (X / y) ∧ Fr w w' (Rg b o n) := by
  have KB := Lib.hid hB
  have KX := Lib.hid hX
  have KD := Lib.hid hD
  have hy : 0 < y := by have := hD.1; omega
  by_cases h1 : n = 1
  · subst h1
    have hx1 : X < 18446744073709551616 := by simpa using hXn
    have cx := hX 0 (by omega)
    have ew : wd X 0 = X := by unfold wd; rw [Nat.pow_zero, Nat.div_one, Nat.mod_eq_of_lt hx1]
    rw [ew, Nat.add_zero] at cx
    have fz := hB.fz o
    have K := Lib.hid (div_low X y hy hx1 hD.2.1)
    have KN : Hid (∀ q, Ws ((w.drewN q).setCell ⟨b, o, none⟩ (.int .u64 (X / y : Nat))) b o 1 (X / y) ∧ Fr w ((w.drewN q).setCell ⟨b, o, none⟩ (.int .u64 (X / y : Nat))) (Rg b o 1)) := Lib.hid (by
      intro q
      have hF : Fr w (w.drewN q) (Rg b o 1) := (Fr.refl w _).drewN q
      refine ⟨fun i hi => ?_, hF.set _ _ _ (fun _ => ⟨rfl, by omega, by omega⟩)⟩
      obtain rfl : i = 0 := by omega
      have e2 : wd (X / y) 0 = X / y := by unfold wd; rw [Nat.pow_zero, Nat.div_one, Nat.mod_eq_of_lt (Nat.lt_of_le_of_lt (Nat.div_le_self _ _) hx1)]
      rw [e2, Nat.add_zero]
      exact (KB.out.fr hF).get _ (by omega) _)
    clear hB hX hXn hD hx1 ew hy
    generalize X / y = q at *
    generalize X % y = r at *
    go_enter Tryz.func76, Tryz.ntmps76
    go_wp2_with fail
    refine (K.out _).mono ?_; rintro e w' ⟨rfl, k, rfl⟩; go_wp2_with fail
    go_returns
    exact ⟨rfl, KN.out k⟩
  · have h1' : ¬ ((n : Int) = 1) := by omega
    have KV := Lib.hid (hD.2.2.2.2)
    have KQ : Hid (X / 18446744073709551616 ^ n % y = 0) := Lib.hid (by rw [Nat.div_eq_of_lt hXn, Nat.zero_mod])
    clear hB hX hXn hD
    go_enter Tryz.func76, Tryz.ntmps76
    go_wp2_with fail
    refine (KV.out _).mono ?_; rintro e w' ⟨rfl, k0, rfl⟩; go_wp2_with fail
    go_loopw [8, 12] (fun v8 v12 wr => ∃ k r : Nat, k ≤ n ∧ v12 = .int .i64 ((k : Int) - 1) ∧ v8 = .int .u64 r ∧ Hid (r = X / 18446744073709551616 ^ k % y ∧ (∀ j, j < k → wr.cell? ⟨b, o + j, none⟩ = some (.int .u64 ((wd X j : Nat) : Int))) ∧ (∀ j, k ≤ j → j < n → wr.cell? ⟨b, o + j, none⟩ = some (.int .u64 ((wd (X / y) j : Nat) : Int))) ∧ Fr w wr (Rg b o n))) (fun _ v12 _ => (intOf v12 + 1).toNat)
    case atStart => exact ⟨n, 0, by omega, by go_num, rfl, Lib.hid ⟨KQ.out.symm, fun j hj => KX.out j hj, fun j h1 h2 => by omega, (Fr.refl w _).drewN k0⟩⟩
    case round =>
      obtain ⟨k, r, hk, rfl, rfl, HR⟩ := hrel
      by_cases hlt : 0 < k
      · obtain ⟨i, rfl⟩ : ∃ i, k = i + 1 := ⟨k - 1, by omega⟩
        rw [show ((i + 1 : Nat) : Int) - 1 = (i : Int) from by omega]
        obtain ⟨hr, hlo, hhi, hF⟩ := HR.out
        have hry : r < y := by rw [hr]; exact Nat.mod_lt _ hy
        have hT := step_law X y i hy (r * 18446744073709551616 + wd X i) (by rw [hr])
        have KW := Lib.hid (divWW_c y m r (wd X i) KD.out hry (wd_lt X i))
        have cx := hlo i (by omega)
        have fz := (KB.out.fr hF).fz (o + i)
        obtain ⟨hT1, hT2, _⟩ := hT
        rw [← hT1, ← hT2] at KW
        have KN : Hid (X / 18446744073709551616 ^ i % y = X / 18446744073709551616 ^ i % y ∧ (∀ j, j < i → (wr.setCell ⟨b, o + i, none⟩ (.int .u64 (wd (X / y) i : Nat))).cell? ⟨b, o + j, none⟩ = some (.int .u64 ((wd X j : Nat) : Int))) ∧ (∀ j, i ≤ j → j < n → (wr.setCell ⟨b, o + i, none⟩ (.int .u64 (wd (X / y) i : Nat))).cell? ⟨b, o + j, none⟩ = some (.int .u64 ((wd (X / y) j : Nat) : Int))) ∧ Fr w (wr.setCell ⟨b, o + i, none⟩ (.int .u64 (wd (X / y) i : Nat))) (Rg b o n)) := Lib.hid (by
          refine ⟨rfl, fun j hj => ?_, fun j h1 h2 => ?_, hF.set _ _ _ (fun _ => ⟨rfl, by omega, by omega⟩)⟩
          · rw [cell_set_ne _ _ _ _ _ _ (by omega)]
            exact hlo j (by omega)
          · by_cases e : j = i
            · subst e; exact (KB.out.fr hF).get _ (by omega) _
            · rw [cell_set_ne _ _ _ _ _ _ (by omega)]
              exact hhi j (by omega) h2)
        clear HR hr hlo hhi hF hT1 hT2 hry
        generalize wd (X / y) i = qi at *
        generalize wd X i = xi at *
        generalize hrr : X / 18446744073709551616 ^ i % y = r2 at *
        have KR := Lib.hid hrr
        clear hrr
        go_wp2_with fail
        refine (KW.out _).mono ?_; rintro e w' ⟨rfl, rfl⟩; go_wp2_with fail
        go_roundw
        case rel => exact ⟨i, r2, by omega, by go_num, rfl, Lib.hid ⟨KR.out.symm, KN.out.2⟩⟩
        case measure => simp [intOf] <;> omega
      · obtain rfl : k = 0 := by omega
        have KN : Hid (r = X % y ∧ Ws wr b o n (X / y) ∧ Fr w wr (Rg b o n)) := Lib.hid (by
          obtain ⟨hr, _, hhi, hF⟩ := HR.out
          rw [Nat.pow_zero, Nat.div_one] at hr
          exact ⟨hr, fun j hj => hhi j (by omega) hj, hF⟩)
        clear HR
        go_wp2_with fail
        go_returns
        obtain ⟨rfl, h⟩ := KN.out
        exact ⟨rfl, h⟩
end Go.Proofs.YtdidglfaogmnfaaGreatDoor
