/-
  A part of the proof of FnIntText: ten to the 152nd.
-/
import Derived.Test.YtdidglfaogmnfaaGreatDoorX
import Derived.Test.YtdidglfaogmnfaaGreatDoorV
import Derived.Deep.CutRange
namespace Go.Proofs.YtdidglfaogmnfaaGreatDoor
open Go.RowKit

theorem nlz8_c (w : World) : Calls Tryz.prog 86 #[.int .u64 8] w fun e w' => e = .returned (.int .u64 60) ∧ w' = w := by
  have K := Tryz.bits_LeadingZeros 8 w (by omega) (by omega)
  rw [show Lib.bitLen (8 : Int).toNat = 4 from by decide +kernel] at K
  go_enter Tryz.func86, Tryz.ntmps86
  go_wp2_with (go_at_call 122; refine K.mono ?_; rintro e w' ⟨rfl, rfl⟩)
  go_returns
  exact ⟨rfl, rfl⟩
/-- ten to the 19th, squared j times -/
def Zp (j : Nat) : Nat := 10 ^ (19 * 2 ^ j)
theorem Zp_succ (j : Nat) : Zp j * Zp j = Zp (j + 1) := by
  unfold Zp
  rw [← Nat.pow_add, Nat.pow_succ, show 19 * 2 ^ j + 19 * 2 ^ j = 19 * (2 ^ j * 2) from by omega]
theorem Zp_small (j : Nat) (hj : j < 3) : Zp j < 18446744073709551616 ^ 4 := by
  have : j = 0 ∨ j = 1 ∨ j = 2 := by omega
  rcases this with rfl | rfl | rfl <;> decide +kernel
/-- the loop of squares -/
structure Exq (w wr : World) (j bz kz cz : Nat) (zv : Value) (bb : Nat) : Prop where
  hk : kz ≤ cz ∧ cz ≤ 4000 ∧ 1 ≤ cz ∧ 1 ≤ kz
  n : Nrm (Zp j) kz
  ws : Ws wr bz 0 kz (Zp j)
  bk : Blk wr bz cz
  nw : w.heap.size ≤ bz
  sz : Sto wr zv bb
  zn : zv ≠ .slice none 0 0 → bb ≠ bz ∧ w.heap.size ≤ bb
  fr : Fr w wr No
theorem expNN_start {w w1 : World} {b0 c0 : Nat} (hF : Fr w w1 No) (hW : Whr w w1 b0 0 (.slice none 0 0)) (hB : Blk w1 b0 c0) (hX : Ws w1 b0 0 1 10000000000000000000) (h1 : 1 ≤ c0) (h2 : c0 ≤ 4000) : Exq w w1 0 b0 1 c0 (.slice none 0 0) 0 := by
  refine ⟨⟨h1, h2, h1, Nat.le_refl _⟩, ⟨by decide +kernel, fun _ => by decide +kernel⟩, hX, hB, ?_, Or.inl rfl, fun h => absurd rfl h, hF⟩
  rcases hW with h | h
  · exact absurd rfl h.2
  · exact h.1
theorem Exq.step {w wr w2 : World} {j bz kz cz bb b k c : Nat} {zv : Value} (h : Exq w wr j bz kz cz zv bb) (hM : Made wr w2 zv bb (Zp j * Zp j) b k c) : Exq w w2 (j + 1) b k c (.slice (some ⟨bz, 0, none⟩) kz cz) bz := by
  have s1 := h.fr.size
  have s2 := hM.fr.size
  have hz := h.bk.lt
  rw [Zp_succ] at hM
  have hb : w.heap.size ≤ b ∧ b ≠ bz := by
    rcases hM.wh with e | e
    · have := h.zn e.2; omega
    · omega
  have hk1 : 1 ≤ k := by
    rcases Nat.eq_zero_or_pos k with e | e
    · have := hM.n.1
      rw [e, Nat.pow_zero] at this
      have h0 : 0 < Zp (j + 1) := Nat.pow_pos (by decide)
      omega
    · exact e
  refine ⟨⟨hM.hk.1, hM.hk.2.1, hM.hk.2.2, hk1⟩, hM.n, hM.ws, hM.bk, hb.1, Or.inr ⟨kz, cz, rfl, h.hk.1, h.hk.2.1, h.bk.fr hM.fr⟩, fun _ => ⟨fun e => hb.2 e.symm, h.nw⟩, h.fr.trans hM.fr (fun q j' hq c => ?_)⟩
  have := h.zn c.2
  omega
set_option maxRecDepth 100000 in
set_option maxHeartbeats 1000000 in
theorem expNN_c (p bx cx yb cy : Nat) (w : World) (hX : Ws w bx 0 1 10000000000000000000) (hY : Ws w yb 0 1 8) (hG : Gl w) :
    Calls Tryz.prog 67 #[.slice none 0 0, .pointer (some ⟨p, 0, none⟩), .slice (some ⟨bx, 0, none⟩) 1 cx, .slice (some ⟨yb, 0, none⟩) 1 cy, .slice none 0 0, .bool false] w fun e w' => ∃ b k c, e = .returned (.slice (some ⟨b, 0, none⟩) k c) ∧ Made w w' (.slice none 0 0) 0 (10 ^ 152) b k c := by
  have ex := hX 0 (by omega)
  have ey := hY 0 (by omega)
  rw [show ((wd 10000000000000000000 0 : Nat) : Int) = 10000000000000000000 from by decide +kernel, Nat.add_zero] at ex
  rw [show ((wd 8 0 : Nat) : Int) = 8 from by decide +kernel, Nat.add_zero] at ey
  have a1 := alias_nil (.slice (some ⟨bx, 0, none⟩) 1 cx)
  have a2 := alias_nil (.slice (some ⟨yb, 0, none⟩) 1 cy)
  have KA := Lib.hid (And.intro a1 a2)
  have K0 := Lib.hid (And.intro hX hG)
  clear a1 a2 hX hY hG
  go_enter_defers Tryz.func67, Tryz.ntmps67
  go_wp2_with fail
  refine (KA.out.1 _).mono ?_
  rintro e w1 ⟨rfl, q1, rfl⟩
  go_wp2_with fail
  refine (KA.out.2 _).mono ?_
  rintro e w1 ⟨rfl, q2, rfl⟩
  go_wp2_with fail
  have ks := set_c (.slice none 0 0) 0 bx 0 1 cx 10000000000000000000 (by omega) (by omega) (w.drewN (q1 + q2)) (Or.inl rfl) K0.out.1 (fun h => absurd rfl h)
  have KS := Lib.hid ks
  clear ks
  refine KS.out.mono ?_
  rintro e w1 ⟨b0, c0, rfl, h1, h2, h3, h4, h5, h6⟩
  have Ks := Lib.hid (expNN_start (((Fr.refl w No).drewN (q1 + q2)).trans (h6.weaken (fun k j hk c => absurd rfl c.2)) (fun _ _ _ c => c)) h3 h4 h5 h1 h2)
  have ey1 : w1.cell? ⟨yb, 0, none⟩ = some (.int .u64 8) := h6.keep ey (fun c => absurd rfl c.2)
  clear h2 h3 h4 h5 h6 KS ey ex
  go_wp2_with fail
  refine (nlz8_c _).mono ?_
  rintro e w2 ⟨rfl, rfl⟩
  have n0 : bits .and .u64 0 9223372036854775808 = 0 := by decide +kernel
  have e3 : IntKind.u64.wrap 18446744073709551616 = 0 := by decide
  clear ey1
  go_wp2_with fail
  have hs8 : 8 ≤ w.heap.size := by have := cell_lt K0.out.2.2.2.2; omega
  go_loopw [0, 15, 19, 21] (fun v0 v15 v19 v21 wr => ∃ j bz kz cz : Nat, v21 = .int .i64 j ∧ j ≤ 3 ∧ v15 = .int .u64 0 ∧ v0 = .slice (some ⟨bz, 0, none⟩) kz cz ∧ Hid (∃ bb, Exq w wr j bz kz cz v19 bb)) (fun _ _ _ v21 _ => 3 - (intOf v21).toNat)
  case atStart => exact ⟨0, b0, 1, c0, rfl, by omega, rfl, rfl, Lib.hid ⟨0, Ks.out⟩⟩
  case round =>
    obtain ⟨j, bz, kz, cz, rfl, hj, rfl, rfl, HR⟩ := hrel
    obtain ⟨bb, hE⟩ := HR.out
    have KE := Lib.hid hE
    by_cases hlt : j < 3
    · have hk4 : kz ≤ 4 := nrm_le hE.n (Zp_small j hlt)
      have KQ := Lib.hid (sqr_c _ bb bz kz cz (Zp j) p wr hE.hk.2.2.2 (by omega) hE.sz hE.ws hE.n.1 hE.bk hE.hk.1 hE.hk.2.1 (fun h => (hE.zn h).1) (K0.out.2.fr hE.fr (fun _ _ c => c)) (fun h => by have := (hE.zn h).2; omega))
      clear hE HR
      go_wp2_with fail
      refine KQ.out.mono ?_
      rintro e w3 ⟨b, k, c, rfl, hM⟩
      have KS2 : Hid (∃ bb, Exq w w3 (j + 1) b k c (.slice (some ⟨bz, 0, none⟩) kz cz) bb) := Lib.hid ⟨bz, KE.out.step hM⟩
      clear hM
      go_wp2_with fail
      go_roundw
      case rel => exact ⟨j + 1, b, k, c, by go_num, by omega, rfl, rfl, KS2⟩
      case measure => simp [intOf] <;> omega
    · obtain rfl : j = 3 := by omega
      have KN := Lib.hid (norm_c bz 0 kz cz (Zp 3) wr (by have := hE.hk; have := nrm_le hE.n (show Zp 3 < 18446744073709551616 ^ 8 by decide +kernel); omega) hE.hk.1 hE.ws hE.n.1)
      clear hE HR
      go_wp2_with fail
      refine wp_loop_rounds 1 ?_
      rw [rounds_succ]
      go_wp2_with fail
      refine KN.out.mono ?_
      rintro e w3 ⟨k, rfl, hk, hN, rfl⟩
      go_wp2_with fail
      refine ⟨_, results_tmp (t := 12) (by kernel_rfl) _ _ _, bz, k, cz, rfl, ?_⟩
      exact ⟨⟨by have := KE.out.hk; omega, KE.out.hk.2.1, KE.out.hk.2.2.1⟩, hN, KE.out.ws.less hk, KE.out.bk, Or.inr ⟨KE.out.nw, KE.out.bk.lt⟩, KE.out.fr.no⟩
theorem Made.pre {w0 w w' : World} {z : Value} {bz V b k c : Nat} (hF : Fr w0 w No) (h : Made w w' z bz V b k c) (hz : z = .slice none 0 0) : Made w0 w' z bz V b k c := by
  have s1 := hF.size
  refine ⟨h.hk, h.n, h.ws, h.bk, ?_, hF.no.trans h.fr (fun q j hq c => absurd hz c.2)⟩
  rcases h.wh with e | e
  · exact absurd hz e.2
  · exact Or.inr ⟨by omega, e.2⟩
theorem expWW_c (p : Nat) (w : World) (hG : Gl w) :
    Calls Tryz.prog 54 #[.slice none 0 0, .pointer (some ⟨p, 0, none⟩), .int .u64 10000000000000000000, .int .u64 8] w fun e w' => ∃ b k c, e = .returned (.slice (some ⟨b, 0, none⟩) k c) ∧ Made w w' (.slice none 0 0) 0 (10 ^ 152) b k c := by
  have k1 := setWord_c 10000000000000000000 0 (by omega) (by omega) w
  rw [show ((10000000000000000000 : Nat) : Int) = 10000000000000000000 from rfl] at k1
  have K1 := Lib.hid k1
  have KG := Lib.hid hG
  clear k1 hG
  go_enter Tryz.func54, Tryz.ntmps54
  go_wp2_with fail
  refine K1.out.mono ?_
  rintro e w1 ⟨b1, c1, rfl, h1, h2, h3, h4, h5, h6⟩
  have k2 := setWord_c 8 0 (by omega) (by omega) w1
  rw [show ((8 : Nat) : Int) = 8 from rfl] at k2
  have K2 := Lib.hid k2
  have Kx := Lib.hid (And.intro h5 h6)
  clear k2 h2 h3 h4 h5 h6
  go_wp2_with fail
  refine K2.out.mono ?_
  rintro e w2 ⟨b2, c2, rfl, g1, g2, g3, g4, g5, g6⟩
  have hF : Fr w w2 No := Kx.out.2.trans g6 (fun _ _ _ c => c)
  have K3 := Lib.hid (expNN_c p b1 c1 b2 c2 w2 (Kx.out.1.fr g6 (fun _ _ c => c)) g5 (KG.out.fr hF (fun _ _ c => c)))
  have KF := Lib.hid hF
  clear g2 g3 g4 g5 g6 hF
  go_wp2_with fail
  refine K3.out.mono ?_
  rintro e w3 ⟨b, k, c, rfl, hM⟩
  have KM := Lib.hid (hM.pre KF.out rfl)
  clear hM
  go_wp2_with fail
  go_returns
  exact ⟨b, k, c, rfl, KM.out⟩
theorem p10_fact (k : Nat) (hk : 1 ≤ k) (hk1 : k ≤ 19) : (k ≤ 18 → ((10 ^ k : Nat) : Int) ≤ 1844674407370955161 ∧ IntKind.u64.wrap (((10 ^ k : Nat) : Int) * 10) = ((10 ^ (k + 1) : Nat) : Int)) ∧ (k = 19 → ¬ ((10 ^ k : Nat) : Int) ≤ 1844674407370955161) := by
  have h : ((List.range 20).all fun k => decide ((k ≤ 18 → ((10 ^ k : Nat) : Int) ≤ 1844674407370955161 ∧ IntKind.u64.wrap (((10 ^ k : Nat) : Int) * 10) = ((10 ^ (k + 1) : Nat) : Int)) ∧ (k = 19 → ¬ ((10 ^ k : Nat) : Int) ≤ 1844674407370955161))) = true := by decide +kernel
  rw [List.all_eq_true] at h
  exact of_decide_eq_true (h k (by simp; omega))
theorem maxPow_c (w : World) : Calls Tryz.prog 39 #[.int .u64 10] w fun e w' => e = .returned (.tuple #[.int .u64 10000000000000000000, .int .i64 19]) ∧ w' = w := by
  go_enter Tryz.func39, Tryz.ntmps39
  go_wp2_with fail
  go_loopw [2, 3] (fun v2 v3 wr => wr = w ∧ ∃ k P : Nat, 1 ≤ k ∧ k ≤ 19 ∧ v3 = .int .i64 k ∧ v2 = .int .u64 (P : Nat) ∧ Hid (P = 10 ^ k)) (fun _ v3 _ => 19 - (intOf v3).toNat)
  case atStart => exact ⟨rfl, 1, 10, by omega, by omega, rfl, rfl, Lib.hid rfl⟩
  case round =>
    obtain ⟨rfl, k, P, hk, hk1, rfl, rfl, HP⟩ := hrel
    obtain ⟨f1, f2⟩ := p10_fact k hk hk1
    rw [← HP.out] at f1 f2
    by_cases h : k ≤ 18
    · obtain ⟨g1, g2⟩ := f1 h
      obtain ⟨P2, hP2⟩ : ∃ P2, P2 = 10 ^ (k + 1) := ⟨_, rfl⟩
      rw [← hP2] at g2
      have KN := Lib.hid hP2
      clear f1 f2 hP2 HP
      go_wp2_with fail
      go_roundw
      case rel => exact ⟨trivial, k + 1, P2, by omega, by omega, by go_num, rfl, KN⟩
      case measure => simp [intOf]; omega
    · obtain rfl : k = 19 := by omega
      have g := f2 rfl
      have hP : P = 10000000000000000000 := HP.out
      subst hP
      clear f1 f2 g HP
      go_wp2_with fail
      go_returns
      exact ⟨rfl, rfl⟩
end Go.Proofs.YtdidglfaogmnfaaGreatDoor
