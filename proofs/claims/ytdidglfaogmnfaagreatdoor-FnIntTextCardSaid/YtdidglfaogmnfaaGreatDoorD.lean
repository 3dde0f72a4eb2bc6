/-
  A part of the proof of FnIntText: rows of words: plus, minus, plus a multiple.
-/
import Derived.Test.YtdidglfaogmnfaaGreatDoorC
namespace Go.Proofs.YtdidglfaogmnfaaGreatDoor
open Go.RowKit

theorem mulAddV_c (bz oz bx ox n N y r X cz cx : Nat) (w : World) (hB : Blk w bz N) (hN : oz + n ≤ N) (hn : n ≤ 1000) (hX : Ws w bx ox n X) (hy : y < 18446744073709551616) (hr : r < 18446744073709551616)
    (hne : ∀ i k, k < i → i < n → ¬ (bx = bz ∧ ox + i = oz + k)) :
    Calls Tryz.prog 56 #[.slice (some ⟨bz, oz, none⟩) n cz, .slice (some ⟨bx, ox, none⟩) n cx, .int .u64 y, .int .u64 r] w fun e w' => ∃ c R : Nat, e = .returned (.int .u64 c) ∧ c < 18446744073709551616 ∧ R < 18446744073709551616 ^ n ∧
      R + c * 18446744073709551616 ^ n = X % 18446744073709551616 ^ n * y + r ∧ Ws w' bz oz n R ∧ Fr w w' (Rg bz oz n) := by
  have K := Lib.hid (mulAddV_g bz oz bx ox n N y r X cz cx w hB hN hn hX hy hr hne)
  clear hB hX hne hN hn hy hr
  go_enter Tryz.func56, Tryz.ntmps56
  go_wp2_with (go_at_call 74; refine K.out.mono ?_; rintro e w' ⟨c, R, rfl, h⟩; have KH := Lib.hid h; clear h)
  go_returns
  exact ⟨c, R, rfl, KH.out⟩

theorem subV_g (b o by' oy n N Z Y cz cx cy : Nat) (w : World) (hB : Blk w b N) (hN : o + n ≤ N) (hn : n ≤ 1000) (hZ : Ws w b o n Z) (hY : Ws w by' oy n Y)
    (hne : ∀ i k, k < i → i < n → ¬ (by' = b ∧ oy + i = o + k)) :
    Calls Tryz.prog 150 #[.slice (some ⟨b, o, none⟩) n cz, .slice (some ⟨b, o, none⟩) n cx, .slice (some ⟨by', oy, none⟩) n cy] w fun e w' => ∃ c R : Nat, e = .returned (.int .u64 c) ∧ c ≤ 1 ∧ R < 18446744073709551616 ^ n ∧
      R + Y % 18446744073709551616 ^ n = Z % 18446744073709551616 ^ n + c * 18446744073709551616 ^ n ∧ Ws w' b o n R ∧ Fr w w' (Rg b o n) := by
  have KB := Lib.hid hB
  have KZ := Lib.hid hZ
  have KY := Lib.hid hY
  have KE := Lib.hid hne
  clear hB hZ hY hne
  go_enter Tryz.func150, Tryz.ntmps150
  go_wp2_with fail
  go_loopw [6, 25] (fun v6 v25 wr => ∃ i c : Nat, i ≤ n ∧ v25 = .int .i64 i ∧ v6 = .int .u64 c ∧ c ≤ 1 ∧ Hid (∃ R, R < 18446744073709551616 ^ i ∧ R + Y % 18446744073709551616 ^ i = Z % 18446744073709551616 ^ i + c * 18446744073709551616 ^ i ∧ Ws wr b o i R ∧ Fr w wr (Rg b o n) ∧ (∀ k, i ≤ k → k < n → wr.cell? ⟨b, o + k, none⟩ = some (.int .u64 ((wd Z k : Nat) : Int))) ∧ ∀ k, i ≤ k → k < n → wr.cell? ⟨by', oy + k, none⟩ = some (.int .u64 ((wd Y k : Nat) : Int)))) (fun _ v25 _ => n - (intOf v25).toNat)
  case atStart => exact ⟨0, 0, by omega, rfl, rfl, by omega, Lib.hid ⟨0, by simp, by simp [Nat.mod_one], fun k hk => by omega, Fr.refl _ _, fun k _ hk => KZ.out k hk, fun k _ hk => KY.out k hk⟩⟩
  case round =>
    obtain ⟨i, c, hi, rfl, rfl, hc, HR⟩ := hrel
    by_cases hlt : i < n
    · obtain ⟨R, hR, hv, hW, hF, hzs, hys⟩ := HR.out
      obtain ⟨s, d, h1, h2, h3, h4⟩ := sub_c (wd Z i) (wd Y i) c (wd_lt Z i) (wd_lt Y i) hc
      have cz1 := hzs i (Nat.le_refl _) hlt
      have cy1 := hys i (Nat.le_refl _) hlt
      have fz := (KB.out.fr hF).fz (o + i)
      have KN : Hid (∀ q, ∃ R, R < 18446744073709551616 ^ (i + 1) ∧ R + Y % 18446744073709551616 ^ (i + 1) = Z % 18446744073709551616 ^ (i + 1) + d * 18446744073709551616 ^ (i + 1) ∧ Ws ((wr.drewN q).setCell ⟨b, o + i, none⟩ (.int .u64 s)) b o (i + 1) R ∧ Fr w ((wr.drewN q).setCell ⟨b, o + i, none⟩ (.int .u64 s)) (Rg b o n) ∧
          (∀ k, i + 1 ≤ k → k < n → ((wr.drewN q).setCell ⟨b, o + i, none⟩ (.int .u64 s)).cell? ⟨b, o + k, none⟩ = some (.int .u64 ((wd Z k : Nat) : Int))) ∧ ∀ k, i + 1 ≤ k → k < n → ((wr.drewN q).setCell ⟨b, o + i, none⟩ (.int .u64 s)).cell? ⟨by', oy + k, none⟩ = some (.int .u64 ((wd Y k : Nat) : Int))) := Lib.hid (by
        intro q
        have hF' := hF.drewN q
        refine ⟨R + s * 18446744073709551616 ^ i, lt_add _ _ _ hR h1, sub_step hv h3, Ws.next (w := wr.drewN q) hW (KB.out.fr hF') (by omega) hR h1, hF'.set _ _ _ (fun _ => ⟨rfl, by omega, by omega⟩), fun k hk hkn => ?_, fun k hk hkn => ?_⟩
        · rw [cell_set_ne _ _ _ _ _ _ (by omega)]
          exact hzs k (by omega) hkn
        · rw [cell_set_ne _ _ _ _ _ _ (KE.out k i (by omega) hkn)]
          exact hys k (by omega) hkn)
      have KQ : Hid (∀ m, Calls Tryz.prog 141 #[.int .u64 (wd Z i : Nat), .int .u64 (wd Y i : Nat), .int .u64 c] (wr.drewN m) fun e w' => e = .returned (.tuple #[.int .u64 s, .int .u64 d]) ∧ ∃ m', w' = (wr.drewN m).drewN m') := Lib.hid (fun m => (h4 _).mono (by rintro e w' ⟨rfl, rfl⟩; exact ⟨rfl, 0, rfl⟩))
      clear HR hR hv hW hF hzs hys h3 h1 h4
      generalize wd Z i = zi at *
      generalize wd Y i = yi at *
      go_wp2_with fail
      go_quiet ((go_at_call 141; exact Calls.quiet_of (KQ.out _)))
      go_wp2_with fail
      go_roundw
      case rel => exact ⟨i + 1, d, by omega, by go_num, rfl, h2, Lib.hid (KN.out nq)⟩
      case measure => simp [intOf]; omega
    · obtain rfl : i = n := by omega
      have KN : Hid (∃ R : Nat, R < 18446744073709551616 ^ i ∧ R + Y % 18446744073709551616 ^ i = Z % 18446744073709551616 ^ i + c * 18446744073709551616 ^ i ∧ Ws wr b o i R ∧ Fr w wr (Rg b o i)) := Lib.hid (by
        obtain ⟨R, a1, a2, a3, a4, _⟩ := HR.out
        exact ⟨R, a1, a2, a3, a4⟩)
      clear HR
      go_wp2_with fail
      go_returns
      obtain ⟨R, h⟩ := KN.out
      exact ⟨c, R, rfl, hc, h⟩
theorem addV_g (b o by' oy n N Z Y cz cx cy : Nat) (w : World) (hB : Blk w b N) (hN : o + n ≤ N) (hn : n ≤ 1000) (hZ : Ws w b o n Z) (hY : Ws w by' oy n Y)
    (hne : ∀ i k, k < i → i < n → ¬ (by' = b ∧ oy + i = o + k)) :
    Calls Tryz.prog 133 #[.slice (some ⟨b, o, none⟩) n cz, .slice (some ⟨b, o, none⟩) n cx, .slice (some ⟨by', oy, none⟩) n cy] w fun e w' => ∃ c R : Nat, e = .returned (.int .u64 c) ∧ c ≤ 1 ∧ R < 18446744073709551616 ^ n ∧
      R + c * 18446744073709551616 ^ n = Z % 18446744073709551616 ^ n + Y % 18446744073709551616 ^ n ∧ Ws w' b o n R ∧ Fr w w' (Rg b o n) := by
  have KB := Lib.hid hB
  have KZ := Lib.hid hZ
  have KY := Lib.hid hY
  have KE := Lib.hid hne
  clear hB hZ hY hne
  go_enter Tryz.func133, Tryz.ntmps133
  go_wp2_with fail
  go_loopw [6, 25] (fun v6 v25 wr => ∃ i c : Nat, i ≤ n ∧ v25 = .int .i64 i ∧ v6 = .int .u64 c ∧ c ≤ 1 ∧ Hid (∃ R, R < 18446744073709551616 ^ i ∧ R + c * 18446744073709551616 ^ i = Z % 18446744073709551616 ^ i + Y % 18446744073709551616 ^ i ∧ Ws wr b o i R ∧ Fr w wr (Rg b o n) ∧ (∀ k, i ≤ k → k < n → wr.cell? ⟨b, o + k, none⟩ = some (.int .u64 ((wd Z k : Nat) : Int))) ∧ ∀ k, i ≤ k → k < n → wr.cell? ⟨by', oy + k, none⟩ = some (.int .u64 ((wd Y k : Nat) : Int)))) (fun _ v25 _ => n - (intOf v25).toNat)
  case atStart => exact ⟨0, 0, by omega, rfl, rfl, by omega, Lib.hid ⟨0, by simp, by simp [Nat.mod_one], fun k hk => by omega, Fr.refl _ _, fun k _ hk => KZ.out k hk, fun k _ hk => KY.out k hk⟩⟩
  case round =>
    obtain ⟨i, c, hi, rfl, rfl, hc, HR⟩ := hrel
    by_cases hlt : i < n
    · obtain ⟨R, hR, hv, hW, hF, hzs, hys⟩ := HR.out
      obtain ⟨s, d, h1, h2, h3, h4⟩ := add_c (wd Z i) (wd Y i) c (wd_lt Z i) (wd_lt Y i) hc
      have cz1 := hzs i (Nat.le_refl _) hlt
      have cy1 := hys i (Nat.le_refl _) hlt
      have fz := (KB.out.fr hF).fz (o + i)
      have KN : Hid (∀ q, ∃ R, R < 18446744073709551616 ^ (i + 1) ∧ R + d * 18446744073709551616 ^ (i + 1) = Z % 18446744073709551616 ^ (i + 1) + Y % 18446744073709551616 ^ (i + 1) ∧ Ws ((wr.drewN q).setCell ⟨b, o + i, none⟩ (.int .u64 s)) b o (i + 1) R ∧ Fr w ((wr.drewN q).setCell ⟨b, o + i, none⟩ (.int .u64 s)) (Rg b o n) ∧
          (∀ k, i + 1 ≤ k → k < n → ((wr.drewN q).setCell ⟨b, o + i, none⟩ (.int .u64 s)).cell? ⟨b, o + k, none⟩ = some (.int .u64 ((wd Z k : Nat) : Int))) ∧ ∀ k, i + 1 ≤ k → k < n → ((wr.drewN q).setCell ⟨b, o + i, none⟩ (.int .u64 s)).cell? ⟨by', oy + k, none⟩ = some (.int .u64 ((wd Y k : Nat) : Int))) := Lib.hid (by
        intro q
        have hF' := hF.drewN q
        refine ⟨R + s * 18446744073709551616 ^ i, lt_add _ _ _ hR h1, add_step hv h3, Ws.next (w := wr.drewN q) hW (KB.out.fr hF') (by omega) hR h1, hF'.set _ _ _ (fun _ => ⟨rfl, by omega, by omega⟩), fun k hk hkn => ?_, fun k hk hkn => ?_⟩
        · rw [cell_set_ne _ _ _ _ _ _ (by omega)]
          exact hzs k (by omega) hkn
        · rw [cell_set_ne _ _ _ _ _ _ (KE.out k i (by omega) hkn)]
          exact hys k (by omega) hkn)
      have KQ : Hid (∀ m, Calls Tryz.prog 135 #[.int .u64 (wd Z i : Nat), .int .u64 (wd Y i : Nat), .int .u64 c] (wr.drewN m) fun e w' => e = .returned (.tuple #[.int .u64 s, .int .u64 d]) ∧ ∃ m', w' = (wr.drewN m).drewN m') := Lib.hid (fun m => (h4 _).mono (by rintro e w' ⟨rfl, rfl⟩; exact ⟨rfl, 0, rfl⟩))
      clear HR hR hv hW hF hzs hys h3 h1 h4
      generalize wd Z i = zi at *
      generalize wd Y i = yi at *
      go_wp2_with fail
      go_quiet ((go_at_call 135; exact Calls.quiet_of (KQ.out _)))
      go_wp2_with fail
      go_roundw
      case rel => exact ⟨i + 1, d, by omega, by go_num, rfl, h2, Lib.hid (KN.out nq)⟩
      case measure => simp [intOf]; omega
    · obtain rfl : i = n := by omega
      have KN : Hid (∃ R : Nat, R < 18446744073709551616 ^ i ∧ R + c * 18446744073709551616 ^ i = Z % 18446744073709551616 ^ i + Y % 18446744073709551616 ^ i ∧ Ws wr b o i R ∧ Fr w wr (Rg b o i)) := Lib.hid (by
        obtain ⟨R, a1, a2, a3, a4, _⟩ := HR.out
        exact ⟨R, a1, a2, a3, a4⟩)
      clear HR
      go_wp2_with fail
      go_returns
      obtain ⟨R, h⟩ := KN.out
      exact ⟨c, R, rfl, hc, h⟩
theorem subV_c (b o by' oy n N Z Y cz cx cy : Nat) (w : World) (hB : Blk w b N) (hN : o + n ≤ N) (hn : n ≤ 1000) (hZ : Ws w b o n Z) (hY : Ws w by' oy n Y)
    (hne : ∀ i k, k < i → i < n → ¬ (by' = b ∧ oy + i = o + k)) :
    Calls Tryz.prog 137 #[.slice (some ⟨b, o, none⟩) n cz, .slice (some ⟨b, o, none⟩) n cx, .slice (some ⟨by', oy, none⟩) n cy] w fun e w' => ∃ c R : Nat, e = .returned (.int .u64 c) ∧ c ≤ 1 ∧ R < 18446744073709551616 ^ n ∧
      R + Y % 18446744073709551616 ^ n = Z % 18446744073709551616 ^ n + c * 18446744073709551616 ^ n ∧ Ws w' b o n R ∧ Fr w w' (Rg b o n) := by
  have K := Lib.hid (subV_g b o by' oy n N Z Y cz cx cy w hB hN hn hZ hY hne)
  clear hB hZ hY hne hN hn
  go_enter Tryz.func137, Tryz.ntmps137
  go_wp2_with (go_at_call 150; refine K.out.mono ?_; rintro e w' ⟨c, R, rfl, h⟩; have KH := Lib.hid h; clear h)
  go_returns
  exact ⟨c, R, rfl, KH.out⟩
theorem addV_c (b o by' oy n N Z Y cz cx cy : Nat) (w : World) (hB : Blk w b N) (hN : o + n ≤ N) (hn : n ≤ 1000) (hZ : Ws w b o n Z) (hY : Ws w by' oy n Y)
    (hne : ∀ i k, k < i → i < n → ¬ (by' = b ∧ oy + i = o + k)) :
    Calls Tryz.prog 94 #[.slice (some ⟨b, o, none⟩) n cz, .slice (some ⟨b, o, none⟩) n cx, .slice (some ⟨by', oy, none⟩) n cy] w fun e w' => ∃ c R : Nat, e = .returned (.int .u64 c) ∧ c ≤ 1 ∧ R < 18446744073709551616 ^ n ∧
      R + c * 18446744073709551616 ^ n = Z % 18446744073709551616 ^ n + Y % 18446744073709551616 ^ n ∧ Ws w' b o n R ∧ Fr w w' (Rg b o n) := by
  have K := Lib.hid (addV_g b o by' oy n N Z Y cz cx cy w hB hN hn hZ hY hne)
  clear hB hZ hY hne hN hn
  go_enter Tryz.func94, Tryz.ntmps94
  go_wp2_with (go_at_call 133; refine K.out.mono ?_; rintro e w' ⟨c, R, rfl, h⟩; have KH := Lib.hid h; clear h)
  go_returns
  exact ⟨c, R, rfl, KH.out⟩
/-- z = z + y*m + a -/
theorem addMulV_g (b o by' oy n N Z Y m a cz cx cy : Nat) (w : World) (hB : Blk w b N) (hN : o + n ≤ N) (hn : n ≤ 1000) (hZ : Ws w b o n Z) (hY : Ws w by' oy n Y) (hm : m < 18446744073709551616) (ha : a < 18446744073709551616)
    (hne : ∀ i k, k < i → i < n → ¬ (by' = b ∧ oy + i = o + k)) :
    Calls Tryz.prog 127 #[.slice (some ⟨b, o, none⟩) n cz, .slice (some ⟨b, o, none⟩) n cx, .slice (some ⟨by', oy, none⟩) n cy, .int .u64 m, .int .u64 a] w fun e w' => ∃ c R : Nat, e = .returned (.int .u64 c) ∧ c < 18446744073709551616 ∧ R < 18446744073709551616 ^ n ∧
      R + c * 18446744073709551616 ^ n = Z % 18446744073709551616 ^ n + Y % 18446744073709551616 ^ n * m + a ∧ Ws w' b o n R ∧ Fr w w' (Rg b o n) := by
  have KB := Lib.hid hB
  have KZ := Lib.hid hZ
  have KY := Lib.hid hY
  have KE := Lib.hid hne
  clear hB hZ hY hne
  go_enter Tryz.func127, Tryz.ntmps127
  go_wp2_with fail
  go_loopw [10, 32] (fun v6 v25 wr => ∃ i c : Nat, i ≤ n ∧ v25 = .int .i64 i ∧ v6 = .int .u64 c ∧ c < 18446744073709551616 ∧ Hid (∃ R, R < 18446744073709551616 ^ i ∧ R + c * 18446744073709551616 ^ i = Z % 18446744073709551616 ^ i + Y % 18446744073709551616 ^ i * m + a ∧ Ws wr b o i R ∧ Fr w wr (Rg b o n) ∧ (∀ k, i ≤ k → k < n → wr.cell? ⟨b, o + k, none⟩ = some (.int .u64 ((wd Z k : Nat) : Int))) ∧ ∀ k, i ≤ k → k < n → wr.cell? ⟨by', oy + k, none⟩ = some (.int .u64 ((wd Y k : Nat) : Int)))) (fun _ v25 _ => n - (intOf v25).toNat)
  case atStart => exact ⟨0, a, by omega, rfl, rfl, ha, Lib.hid ⟨0, by simp, by simp [Nat.mod_one], fun k hk => by omega, Fr.refl _ _, fun k _ hk => KZ.out k hk, fun k _ hk => KY.out k hk⟩⟩
  case round =>
    obtain ⟨i, c, hi, rfl, rfl, hc, HR⟩ := hrel
    by_cases hlt : i < n
    · obtain ⟨R, hR, hv, hW, hF, hzs, hys⟩ := HR.out
      obtain ⟨h, l, h1, h2, h3, h4⟩ := mulAddWWW_c (wd Y i) m (wd Z i) (wd_lt Y i) hm (wd_lt Z i)
      obtain ⟨s, d, g1, g2, g3, g4⟩ := add_c l c 0 h2 hc (by omega)
      have hwy := wd_lt Y i
      have hwz := wd_lt Z i
      have hym : wd Y i * m ≤ 18446744073709551615 * 18446744073709551615 := Nat.mul_le_mul (by omega) (by omega)
      have hdh : d + h < 18446744073709551616 := by omega
      have cz1 := hzs i (Nat.le_refl _) hlt
      have cy1 := hys i (Nat.le_refl _) hlt
      have fz := (KB.out.fr hF).fz (o + i)
      have e1 : IntKind.u64.wrap ((d : Int) + (h : Int)) = ((d + h : Nat) : Int) := by rw [IntKind.wrap_u64]; omega
      have KN : Hid (∀ q, ∃ R, R < 18446744073709551616 ^ (i + 1) ∧ R + (d + h) * 18446744073709551616 ^ (i + 1) = Z % 18446744073709551616 ^ (i + 1) + Y % 18446744073709551616 ^ (i + 1) * m + a ∧ Ws ((wr.drewN q).setCell ⟨b, o + i, none⟩ (.int .u64 s)) b o (i + 1) R ∧ Fr w ((wr.drewN q).setCell ⟨b, o + i, none⟩ (.int .u64 s)) (Rg b o n) ∧
          (∀ k, i + 1 ≤ k → k < n → ((wr.drewN q).setCell ⟨b, o + i, none⟩ (.int .u64 s)).cell? ⟨b, o + k, none⟩ = some (.int .u64 ((wd Z k : Nat) : Int))) ∧ ∀ k, i + 1 ≤ k → k < n → ((wr.drewN q).setCell ⟨b, o + i, none⟩ (.int .u64 s)).cell? ⟨by', oy + k, none⟩ = some (.int .u64 ((wd Y k : Nat) : Int))) := Lib.hid (by
        intro q
        have hF' := hF.drewN q
        refine ⟨R + s * 18446744073709551616 ^ i, lt_add _ _ _ hR g1, addmul_step hv (by omega), Ws.next (w := wr.drewN q) hW (KB.out.fr hF') (by omega) hR g1, hF'.set _ _ _ (fun _ => ⟨rfl, by omega, by omega⟩), fun k hk hkn => ?_, fun k hk hkn => ?_⟩
        · rw [cell_set_ne _ _ _ _ _ _ (by omega)]
          exact hzs k (by omega) hkn
        · rw [cell_set_ne _ _ _ _ _ _ (KE.out k i (by omega) hkn)]
          exact hys k (by omega) hkn)
      have KQ : Hid (∀ q, Calls Tryz.prog 98 #[.int .u64 (wd Y i : Nat), .int .u64 m, .int .u64 (wd Z i : Nat)] (wr.drewN q) fun e w' => e = .returned (.tuple #[.int .u64 h, .int .u64 l]) ∧ ∃ m', w' = (wr.drewN q).drewN m') := Lib.hid (fun q => (h4 _).mono (by rintro e w' ⟨rfl, rfl⟩; exact ⟨rfl, 0, rfl⟩))
      clear HR hR hv hW hF hzs hys h3 h1 h2 h4 g1 g2 g3 hwy hwz hym
      generalize wd Z i = zi at *
      generalize wd Y i = yi at *
      go_wp2_with fail
      go_quiet ((go_at_call 98; exact Calls.quiet_of (KQ.out _)))
      go_wp2_with (go_at_call 135; refine (g4 _).mono ?_; rintro e w' ⟨rfl, rfl⟩)
      go_roundw
      case rel => exact ⟨i + 1, d + h, by omega, by go_num, by go_num, hdh, Lib.hid (KN.out nq)⟩
      case measure => simp [intOf]; omega
    · obtain rfl : i = n := by omega
      have KN : Hid (∃ R : Nat, R < 18446744073709551616 ^ i ∧ R + c * 18446744073709551616 ^ i = Z % 18446744073709551616 ^ i + Y % 18446744073709551616 ^ i * m + a ∧ Ws wr b o i R ∧ Fr w wr (Rg b o i)) := Lib.hid (by
        obtain ⟨R, a1, a2, a3, a4, _⟩ := HR.out
        exact ⟨R, a1, a2, a3, a4⟩)
      clear HR
      go_wp2_with fail
      go_returns
      obtain ⟨R, h⟩ := KN.out
      exact ⟨c, R, rfl, hc, h⟩
theorem addMulV_c (b o by' oy n N Z Y m a cz cx cy : Nat) (w : World) (hB : Blk w b N) (hN : o + n ≤ N) (hn : n ≤ 1000) (hZ : Ws w b o n Z) (hY : Ws w by' oy n Y) (hm : m < 18446744073709551616) (ha : a < 18446744073709551616)
    (hne : ∀ i k, k < i → i < n → ¬ (by' = b ∧ oy + i = o + k)) :
    Calls Tryz.prog 89 #[.slice (some ⟨b, o, none⟩) n cz, .slice (some ⟨b, o, none⟩) n cx, .slice (some ⟨by', oy, none⟩) n cy, .int .u64 m, .int .u64 a] w fun e w' => ∃ c R : Nat, e = .returned (.int .u64 c) ∧ c < 18446744073709551616 ∧ R < 18446744073709551616 ^ n ∧
      R + c * 18446744073709551616 ^ n = Z % 18446744073709551616 ^ n + Y % 18446744073709551616 ^ n * m + a ∧ Ws w' b o n R ∧ Fr w w' (Rg b o n) := by
  have K := Lib.hid (addMulV_g b o by' oy n N Z Y m a cz cx cy w hB hN hn hZ hY hm ha hne)
  clear hB hZ hY hne hN hn hm ha
  go_enter Tryz.func89, Tryz.ntmps89
  go_wp2_with (go_at_call 127; refine K.out.mono ?_; rintro e w' ⟨c, R, rfl, h⟩; have KH := Lib.hid h; clear h)
  go_returns
  exact ⟨c, R, rfl, KH.out⟩
end Go.Proofs.YtdidglfaogmnfaaGreatDoor
