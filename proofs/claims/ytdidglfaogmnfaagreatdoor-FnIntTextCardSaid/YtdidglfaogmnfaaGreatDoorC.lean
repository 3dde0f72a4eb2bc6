/-
  A part of the proof of FnIntText: rows of words: times a word.
-/
import Derived.Test.YtdidglfaogmnfaaGreatDoorB
namespace Go.Proofs.YtdidglfaogmnfaaGreatDoor
open Go.RowKit

theorem mulWW_c (x y : Nat) (hx : x < 18446744073709551616) (hy : y < 18446744073709551616) : ∃ hi lo : Nat, hi < 18446744073709551616 ∧ lo < 18446744073709551616 ∧ x * y = hi * 18446744073709551616 + lo ∧
    ∀ w : World, Calls Tryz.prog 69 #[.int .u64 x, .int .u64 y] w fun e w' => e = .returned (.tuple #[.int .u64 hi, .int .u64 lo]) ∧ w' = w := by
  obtain ⟨hi, lo, h1, h2, h3, h4⟩ := mul_c x y hx hy
  refine ⟨hi, lo, h1, h2, h3, fun w => ?_⟩
  clear h1 h2 h3 hx hy
  go_enter Tryz.func69, Tryz.ntmps69
  go_wp2_with (go_at_call 88; refine (h4 _).mono ?_; rintro e w' ⟨rfl, rfl⟩)
  go_returns
  exact ⟨rfl, rfl⟩
theorem mulAddWWW_c (x y c : Nat) (hx : x < 18446744073709551616) (hy : y < 18446744073709551616) (hc : c < 18446744073709551616) : ∃ hi lo : Nat, hi < 18446744073709551616 ∧ lo < 18446744073709551616 ∧ x * y + c = hi * 18446744073709551616 + lo ∧
    ∀ w : World, Calls Tryz.prog 98 #[.int .u64 x, .int .u64 y, .int .u64 c] w fun e w' => e = .returned (.tuple #[.int .u64 hi, .int .u64 lo]) ∧ w' = w := by
  obtain ⟨hi, lo, h1, h2, h3, h4⟩ := mul_c x y hx hy
  obtain ⟨s, d, g1, g2, g3, g4⟩ := add_c lo c 0 h2 hc (by omega)
  have hxy : x * y ≤ 18446744073709551615 * 18446744073709551615 := Nat.mul_le_mul (by omega) (by omega)
  have hlt : hi + d < 18446744073709551616 := by omega
  refine ⟨hi + d, s, hlt, g1, by omega, fun w => ?_⟩
  have e1 : IntKind.u64.wrap ((hi : Int) + (d : Int)) = ((hi + d : Nat) : Int) := by rw [IntKind.wrap_u64]; omega
  clear h1 h2 h3 g1 g2 g3 hx hy hc hxy hlt
  go_enter Tryz.func98, Tryz.ntmps98
  go_wp2_with (first | (go_at_call 88; refine (h4 _).mono ?_; rintro e w' ⟨rfl, rfl⟩) | (go_at_call 135; refine (g4 _).mono ?_; rintro e w' ⟨rfl, rfl⟩))
  go_returns
  exact ⟨rfl, rfl⟩

/-- z = x*y + r over n words; a later read is of no earlier written cell -/
theorem mulAddV_g (bz oz bx ox n N y r X cz cx : Nat) (w : World) (hB : Blk w bz N) (hN : oz + n ≤ N) (hn : n ≤ 1000) (hX : Ws w bx ox n X) (hy : y < 18446744073709551616) (hr : r < 18446744073709551616)
    (hne : ∀ i k, k < i → i < n → ¬ (bx = bz ∧ ox + i = oz + k)) :
    Calls Tryz.prog 74 #[.slice (some ⟨bz, oz, none⟩) n cz, .slice (some ⟨bx, ox, none⟩) n cx, .int .u64 y, .int .u64 r] w fun e w' => ∃ c R : Nat, e = .returned (.int .u64 c) ∧ c < 18446744073709551616 ∧ R < 18446744073709551616 ^ n ∧
      R + c * 18446744073709551616 ^ n = X % 18446744073709551616 ^ n * y + r ∧ Ws w' bz oz n R ∧ Fr w w' (Rg bz oz n) := by
  have KB := Lib.hid hB
  have KX := Lib.hid hX
  have KE := Lib.hid hne
  clear hB hX hne
  go_enter Tryz.func74, Tryz.ntmps74
  go_wp2_with fail
  go_loopw [8, 19] (fun v8 v19 wr => ∃ i c : Nat, i ≤ n ∧ v19 = .int .i64 i ∧ v8 = .int .u64 c ∧ c < 18446744073709551616 ∧ Hid (∃ R, R < 18446744073709551616 ^ i ∧ R + c * 18446744073709551616 ^ i = X % 18446744073709551616 ^ i * y + r ∧ Ws wr bz oz i R ∧ Fr w wr (Rg bz oz n) ∧ ∀ k, i ≤ k → k < n → wr.cell? ⟨bx, ox + k, none⟩ = some (.int .u64 ((wd X k : Nat) : Int)))) (fun _ v19 _ => n - (intOf v19).toNat)
  case atStart => exact ⟨0, r, by omega, rfl, rfl, hr, Lib.hid ⟨0, by simp, by simp [Nat.mod_one], fun k hk => by omega, Fr.refl _ _, fun k _ hk => KX.out k hk⟩⟩
  case round =>
    obtain ⟨i, c, hi, rfl, rfl, hc, HR⟩ := hrel
    by_cases hlt : i < n
    · obtain ⟨R, hR, hv, hW, hF, hxs⟩ := HR.out
      obtain ⟨hi2, lo, h1, h2, h3, h4⟩ := mulAddWWW_c (wd X i) y c (wd_lt X i) hy hc
      have cx := hxs i (Nat.le_refl _) hlt
      have fz := (KB.out.fr hF).fz (oz + i)
      obtain ⟨z0, cz0⟩ := (KB.out.fr hF).here (oz + i) (by omega)
      have KN : Hid (∃ R, R < 18446744073709551616 ^ (i + 1) ∧ R + hi2 * 18446744073709551616 ^ (i + 1) = X % 18446744073709551616 ^ (i + 1) * y + r ∧ Ws (wr.setCell ⟨bz, oz + i, none⟩ (.int .u64 lo)) bz oz (i + 1) R ∧ Fr w (wr.setCell ⟨bz, oz + i, none⟩ (.int .u64 lo)) (Rg bz oz n) ∧ ∀ k, i + 1 ≤ k → k < n → (wr.setCell ⟨bz, oz + i, none⟩ (.int .u64 lo)).cell? ⟨bx, ox + k, none⟩ = some (.int .u64 ((wd X k : Nat) : Int))) := Lib.hid (by
        refine ⟨R + lo * 18446744073709551616 ^ i, lt_add _ _ _ hR h2, mul_step hv h3, hW.next (KB.out.fr hF) (by omega) hR h2, hF.set _ _ _ (fun _ => ⟨rfl, by omega, by omega⟩), fun k hk hkn => ?_⟩
        rw [cell_set_ne _ _ _ _ _ _ (KE.out k i (by omega) hkn)]
        exact hxs k (by omega) hkn)
      clear HR hR hv hW hF hxs h3 h2
      generalize wd X i = xi at *
      have hlen : ((oz : Int) + (i : Int)) = ((oz + i : Nat) : Int) := by omega
      go_wp2_with (go_at_call 98; refine (h4 _).mono ?_; rintro e w' ⟨rfl, rfl⟩)
      go_roundw
      case rel => exact ⟨i + 1, hi2, by omega, by go_num, rfl, h1, KN⟩
      case measure => simp [intOf]; omega
    · obtain rfl : i = n := by omega
      have KN : Hid (∃ R : Nat, R < 18446744073709551616 ^ i ∧ R + c * 18446744073709551616 ^ i = X % 18446744073709551616 ^ i * y + r ∧ Ws wr bz oz i R ∧ Fr w wr (Rg bz oz i)) := Lib.hid (by
        obtain ⟨R, a1, a2, a3, a4, _⟩ := HR.out
        exact ⟨R, a1, a2, a3, a4⟩)
      clear HR
      go_wp2_with fail
      go_returns
      obtain ⟨R, h⟩ := KN.out
      exact ⟨c, R, rfl, hc, h⟩
end Go.Proofs.YtdidglfaogmnfaaGreatDoor
