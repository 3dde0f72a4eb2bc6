/-
  A part of the proof of FnIntText: setBytes.
-/
import Derived.Test.YtdidglfaogmnfaaGreatDoorFa
namespace Go.Proofs.YtdidglfaogmnfaaGreatDoor
set_option linter.unusedVariables false
open Go.RowKit

theorem Ws.put {w : World} {b k V n : Nat} (h : Ws w b 0 k V) (hB : Blk w b n) (hk : k < n) : Ws (w.setCell ⟨b, k, none⟩ (.int .u64 ((wd V k : Nat) : Int))) b 0 (k + 1) V := fun i hi => by
  by_cases e : i = k
  · subst e; rw [Nat.zero_add]; exact hB.get _ hk _
  · rw [cell_set_ne _ _ _ _ _ _ (by omega)]; exact h i (by omega)
theorem or_step (X t : Nat) (ht : t ≤ 6) : bits .or .u64 ((X % 256 ^ t : Nat) : Int) (((X / 256 ^ t % 256 * 256 ^ t : Nat) : Int)) = ((X % 256 ^ (t + 1) : Nat) : Int) := by
  have h1 : X % 256 ^ t < 256 ^ t := Nat.mod_lt _ (Nat.pow_pos (by decide))
  have h2 : (256 : Nat) ^ t = 2 ^ (8 * t) := by rw [Nat.pow_mul]
  have h3 : (256 : Nat) ^ t ≤ 256 ^ 6 := Nat.pow_le_pow_right (by decide) ht
  have h4 : X / 256 ^ t % 256 < 256 := Nat.mod_lt _ (by decide)
  have h5 : X / 256 ^ t % 256 * 256 ^ t ≤ 255 * 256 ^ 6 := Nat.mul_le_mul (by omega) h3
  have h6 : X % 256 ^ (t + 1) = X % 256 ^ t + X / 256 ^ t % 256 * 256 ^ t := by
    rw [Nat.pow_succ, Nat.mod_mul, Nat.mul_comm (256 ^ t)]
  have h7 : (255 : Nat) * 256 ^ 6 < 2 ^ 64 := by decide
  have h8 : (256 : Nat) ^ 6 < 2 ^ 64 := by decide
  rw [h6]
  generalize X / 256 ^ t % 256 = y at *
  generalize X % 256 ^ t = x at *
  have h := bits_join_low .u64 64 (by decide) wraps_u64 (8 * t) (x : Int) ((y * 256 ^ t : Nat) : Int) (by omega) (by rw [h2] at h1; exact_mod_cast h1) (by
      have : x < 2 ^ 64 := by omega
      exact_mod_cast this) (by omega) (by
      have : y * 256 ^ t % 2 ^ (8 * t) = 0 := by rw [h2]; exact Nat.mul_mod_left _ _
      exact_mod_cast this) (by
      have : y * 256 ^ t < 2 ^ 64 := by omega
      exact_mod_cast this)
  rw [h]; omega
theorem wrap_pow (y t : Nat) (ht : t ≤ 6) (hy : y < 256) : IntKind.u64.wrap ((y : Int) * 2 ^ (8 * t)) = ((y * 256 ^ t : Nat) : Int) := by
  have h3 : (256 : Nat) ^ t ≤ 256 ^ 6 := Nat.pow_le_pow_right (by decide) ht
  have h5 : y * 256 ^ t ≤ 255 * 256 ^ 6 := Nat.mul_le_mul (by omega) h3
  have h7 : (255 : Nat) * 256 ^ 6 < 18446744073709551616 := by decide
  have e : (y : Int) * 2 ^ (8 * t) = ((y * 256 ^ t : Nat) : Int) := by
    rw [show (256 : Nat) ^ t = 2 ^ (8 * t) from by rw [Nat.pow_mul]]
    push_cast
    rfl
  rw [e, IntKind.wrap_u64]
  omega
/-- the words as far as they are laid -/
structure SbInv (w w1 wr : World) (g o : Nat) (l : List Int) (b cz k : Nat) : Prop where
  W : Ws wr b 0 k (Ref.val l)
  B : Blk wr b cz
  F : Fr w1 wr (Al b)
  F0 : Fr w wr No
  S : Bs wr g o l
theorem sb_start {w w1 : World} {g o n b cz : Nat} {l : List Int} (h : Bs w g o l) (hl : l.length = n) (hn : 1 ≤ n) (hB : Blk w1 b cz) (hF : Fr w w1 No) : SbInv w w1 w1 g o l b cz 0 :=
  ⟨fun i hi => by omega, hB, Fr.refl _ _, hF, h.fr hF (fun _ c => c)⟩
theorem SbInv.put {w w1 wr : World} {g o n b cz k : Nat} {l : List Int} (h : SbInv w w1 wr g o l b cz k) (hg : g < b) (hb : w.heap.size ≤ b) (hk : k < cz) (q : Nat) (v : Nat) (hv : v = wd (Ref.val l) k) : SbInv w w1 ((wr.drewN q).setCell ⟨b, k, none⟩ (.int .u64 (v : Int))) g o l b cz (k + 1) := by
  have hF : Fr wr ((wr.drewN q).setCell ⟨b, k, none⟩ (.int .u64 (v : Int))) (Al b) := ((Fr.refl wr (Al b)).drewN q).set _ _ _ (fun _ => rfl)
  refine ⟨?_, h.B.fr hF, h.F.trans hF (fun _ _ _ c => c), h.F0.trans hF (fun k' _ hk' (c : k' = b) => by omega), h.S.fr hF (fun i (c : g = b) => by omega)⟩
  rw [hv]
  exact Ws.put (w := wr.drewN q) h.W (h.B.fr ((Fr.refl wr No).drewN q)) hk
theorem sb_make {w : World} {g o n : Nat} {l : List Int} (h : Bs w g o l) (hl : l.length = n) (hn : 1 ≤ n) (hn1 : n ≤ 150) (m : Nat) (hm : m = (n + 7) / 8) :
    Calls Tryz.prog 28 #[.slice none 0 0, .int .i64 m] w fun e w1 => ∃ b cz, e = .returned (.slice (some ⟨b, 0, none⟩) m cz) ∧ m ≤ cz ∧ cz ≤ 4000 ∧ g < b ∧ w.heap.size ≤ b ∧ Hid (SbInv w w1 w1 g o l b cz 0) := by
  refine (make_c (.slice none 0 0) 0 m (by omega) (by omega) w (Or.inl rfl)).mono ?_
  rintro e w1 ⟨b, cz, rfl, hz1, hz2, hz3, hB, hF⟩
  have hgl : g < w.heap.size := cell_lt (h 0 (by omega))
  have hbw : w.heap.size ≤ b := by
    rcases hz3 with ⟨_, h⟩ | ⟨h, _⟩
    · exact absurd rfl h
    · exact h
  exact ⟨b, cz, rfl, hz1, hz2, by omega, hbw, Lib.hid (sb_start h hl hn hB hF)⟩
theorem sb_word {w w1 wr : World} {g o n c b cz k i j : Nat} {l : List Int} (h : SbInv w w1 wr g o l b cz k) (hb : Ref.Byt l) (hl : l.length = n) (hi : i = j + 8) (hik : i + 8 * k = n) (hn1 : n ≤ 150) (hc : n ≤ c) (hg : g < b) (hbw : w.heap.size ≤ b) (hk : k < cz) :
    ∃ v : Nat, Hid (Calls Tryz.prog 29 #[.slice (some ⟨g, o + j, none⟩) 8 (c - j)] wr fun e w' => e = .returned (.int .u64 (v : Int)) ∧ ∃ q, w' = wr.drewN q) ∧ Hid (∀ q, SbInv w w1 ((wr.drewN q).setCell ⟨b, k, none⟩ (.int .u64 (v : Int))) g o l b cz (k + 1)) :=
  ⟨_, Lib.hid (word_c g o 8 (c - j) j k l wr h.S hb (by omega) (by omega) (by omega)), Lib.hid (fun q => h.put (n := n) hg hbw hk q _ rfl)⟩
theorem sb_num {i k n m c : Nat} (hik : i + 8 * k = n) (hm : m = (n + 7) / 8) (h8 : 8 ≤ i) (hc : n ≤ c) : ∃ j, i = j + 8 ∧ (i : Int) - 8 = (j : Int) ∧ i - j = 8 ∧ j ≤ i ∧ i ≤ c ∧ ¬ c = j ∧ k < m ∧ ((i : Int) ≤ (c : Int)) ∧ ((j : Int) ≤ (i : Int)) ∧ j + 8 * (k + 1) = n ∧ i ≤ n :=
  ⟨i - 8, by omega, by omega, by omega, by omega, by omega, by omega, by omega, by omega, by omega, by omega, by omega⟩
theorem sb_norm {w w1 wr : World} {g o n b cz m : Nat} {l : List Int} (h : SbInv w w1 wr g o l b cz m) (hb : Ref.Byt l) (hl : l.length = n) (hz1 : m ≤ cz) (hz2 : cz ≤ 4000) (hm : n ≤ 8 * m) (hm1 : 1 ≤ m ∧ m ≤ 19) (hbw : w.heap.size ≤ b) :
    Calls Tryz.prog 30 #[.slice (some ⟨b, 0, none⟩) m cz] wr fun e w' => ∃ k, e = .returned (.slice (some ⟨b, 0, none⟩) k cz) ∧ Hid (k ≤ 19 ∧ k ≤ cz ∧ 1 ≤ cz ∧ cz ≤ 4000 ∧ Nrm (Ref.val l) k ∧ Ws w' b 0 k (Ref.val l) ∧ Blk w' b cz ∧ w.heap.size ≤ b ∧ Fr w w' No) := by
  refine (norm_c b 0 m cz (Ref.val l) wr (by omega) hz1 h.W (by
    rw [bp256]
    exact Nat.lt_of_lt_of_le (Ref.val_lt hb) (Nat.pow_le_pow_right (by decide) (by omega)))).mono ?_
  rintro e w' ⟨k, rfl, hk, hN, rfl⟩
  exact ⟨k, rfl, Lib.hid ⟨by omega, by omega, by omega, hz2, hN, h.W.less hk, h.B, hbw, h.F0⟩⟩
theorem sb_byte {w w1 wr : World} {g o n b cz k i t r X : Nat} {l : List Int} (h : SbInv w w1 wr g o l b cz k) (hb : Ref.Byt l) (hl : l.length = n) (hik : i + 8 * k = n) (hX : X = Ref.val l / 18446744073709551616 ^ k) (htr : t + r = i) (hr : 0 < r) :
    wr.cell? ⟨g, o + (r - 1), none⟩ = some (.int .u8 ((X / 256 ^ t % 256 : Nat) : Int)) := by
  have e : X / 256 ^ t % 256 = Ref.dg l (8 * k + t) := by rw [hX, ← wd_byte, dgv l hb]
  rw [e]
  exact h.S.at hb (8 * k + t) (r - 1) (by omega)
theorem sb_last {n k i X : Nat} {l : List Int} (hb : Ref.Byt l) (hl : l.length = n) (hik : i + 8 * k = n) (hi : i < 8) (hX : X = Ref.val l / 18446744073709551616 ^ k) : X % 256 ^ i = wd (Ref.val l) k := by
  have hV := Ref.val_lt hb
  have h1 : X < 256 ^ i := by
    rw [hX]
    refine Nat.div_lt_of_lt_mul ?_
    rw [bp256, ← Nat.pow_add, show 8 * k + i = l.length from by omega]
    exact hV
  have h2 : X < 18446744073709551616 := Nat.lt_of_lt_of_le h1 (Nat.le_trans (Nat.pow_le_pow_right (by decide) (by omega : i ≤ 8)) (by decide))
  rw [Nat.mod_eq_of_lt h1]
  unfold wd
  rw [← hX, Nat.mod_eq_of_lt h2]
set_option maxHeartbeats 1000000 in
set_option maxRecDepth 100000 in
theorem setBytes_c (g o n c : Nat) (l : List Int) (w : World) (h : Bs w g o l) (hb : Ref.Byt l) (hl : l.length = n) (hn : 1 ≤ n) (hn1 : n ≤ 150) (hc : n ≤ c) :
    Calls Tryz.prog 20 #[.slice none 0 0, .slice (some ⟨g, o, none⟩) n c] w fun e w' => ∃ b k cc, e = .returned (.slice (some ⟨b, 0, none⟩) k cc) ∧ k ≤ 19 ∧ k ≤ cc ∧ 1 ≤ cc ∧ cc ≤ 4000 ∧ Nrm (Ref.val l) k ∧ Ws w' b 0 k (Ref.val l) ∧ Blk w' b cc ∧ w.heap.size ≤ b ∧ Fr w w' No := by
  obtain ⟨m, hm⟩ : ∃ m, m = (n + 7) / 8 := ⟨_, rfl⟩
  have KM := Lib.hid (sb_make h hl hn hn1 m hm)
  have d2 : Hid (((n : Int) + 8 - 1) / 8 = (m : Int)) := Lib.hid (by omega)
  have K0 := Lib.hid (And.intro hb hl)
  have KHm := Lib.hid hm
  have hm19 : m ≤ 19 := by omega
  clear h hb hl hm
  go_enter Tryz.func20, Tryz.ntmps20
  go_wp2_with fail
  rw [d2.out]
  with_reducible refine KM.out.mono ?_
  rintro e w1 ⟨b, cz, rfl, hz1, hz2, hgb, hbw, HI⟩
  clear d2 KM
  go_wp2_with fail
  go_loopw [5, 6] (fun v5 v6 wr => ∃ i k : Nat, i + 8 * k = n ∧ v5 = .int .i64 i ∧ v6 = .int .i64 k ∧ Hid (SbInv w w1 wr g o l b cz k)) (fun v5 _ _ => (intOf v5).toNat)
  case atStart => exact ⟨n, 0, by omega, rfl, rfl, HI⟩
  case round =>
    obtain ⟨i, k, hik, rfl, rfl, HR⟩ := hrel
    by_cases h8 : 8 ≤ i
    · obtain ⟨j, f1, f2, f3, f4, f5, f6, f7, f8, f9, fa, fb⟩ := sb_num hik KHm.out h8 hc
      obtain ⟨v, KC, KN⟩ := sb_word HR.out K0.out.1 K0.out.2 f1 hik hn1 hc hgb hbw (Nat.lt_of_lt_of_le f7 hz1)
      have fz : wr.frozen? ⟨b, k, none⟩ = false := HR.out.B.fz k
      obtain ⟨v0, hv0⟩ := HR.out.B.here k (Nat.lt_of_lt_of_le f7 hz1)
      have g8 : (8 : Int) ≤ (i : Int) := Int.ofNat_le.2 h8
      have gi : i ≤ 150 := Nat.le_trans fb hn1
      have gk : k ≤ 150 := by omega
      have f9' := Lib.hid fa
      clear HR hik HI f1 fb fa
      go_wp2_with fail
      with_reducible refine KC.out.mono ?_
      rintro e w' ⟨rfl, q, rfl⟩
      go_wp2_with fail
      go_roundw
      case rel => exact ⟨j, k + 1, f9'.out, rfl, by go_num, Lib.hid (KN.out q)⟩
      case measure => simp [intOf]; omega
    · have hi8 : i < 8 := by omega
      have g8 : ¬ ((8 : Int) ≤ (i : Int)) := by omega
      rcases Nat.eq_zero_or_pos i with h0 | h0
      · obtain rfl : k = m := by have := KHm.out; omega
        subst h0
        have KN := Lib.hid (sb_norm HR.out K0.out.1 K0.out.2 hz1 hz2 (by have := KHm.out; omega) (by have := KHm.out; omega) hbw)
        clear HR HI
        go_wp2_with fail
        with_reducible refine KN.out.mono ?_
        rintro e w' ⟨q, rfl, HH⟩
        go_wp2_with fail
        go_returns
        exact ⟨b, q, cz, rfl, HH.out⟩
      · obtain rfl : m = k + 1 := by have := KHm.out; omega
        obtain ⟨X, hX⟩ : ∃ X, X = Ref.val l / 18446744073709551616 ^ k := ⟨_, rfl⟩
        have KB := Lib.hid (fun t r => sb_byte (t := t) (r := r) (i := i) HR.out K0.out.1 K0.out.2 hik hX)
        obtain ⟨y, hy⟩ : ∃ y, y = X % 256 ^ i := ⟨_, rfl⟩
        have KL : Hid (y = wd (Ref.val l) k) := Lib.hid (hy.trans (sb_last K0.out.1 K0.out.2 hik hi8 hX))
        have KR : Hid (SbInv w w1 (wr.setCell ⟨b, k, none⟩ (.int .u64 (y : Int))) g o l b cz (k + 1)) := Lib.hid (HR.out.put (k := k) (v := y) (n := n) hgb hbw (by omega) 0 KL.out)
        have KY := Lib.hid hy
        have KN := Lib.hid (sb_norm KR.out K0.out.1 K0.out.2 hz1 hz2 (by have := KHm.out; omega) (by have := KHm.out; omega) hbw)
        have fz : wr.frozen? ⟨b, k, none⟩ = false := HR.out.B.fz k
        obtain ⟨v0, hv0⟩ := HR.out.B.here k (by omega)
        have g0 : (0 : Int) < (i : Int) := by omega
        clear HR HI hX KL KR hy
        go_wp2_with fail
        go_loopw [5, 7, 8] (fun v5 v7 v8 wq => ∃ t r : Nat, t + r = i ∧ v5 = .int .i64 r ∧ v7 = .int .u64 ((X % 256 ^ t : Nat) : Int) ∧ v8 = .int .u64 ((8 * t : Nat) : Int) ∧ wq = wr) (fun v5 _ _ _ => (intOf v5).toNat)
        case atStart => exact ⟨0, i, by omega, rfl, by simp [Nat.mod_one], by simp, rfl⟩
        case round =>
          obtain ⟨t, r, htr, rfl, rfl, rfl, rfl⟩ := hrel
          by_cases hr : 0 < r
          · obtain ⟨q, rfl⟩ : ∃ q, r = q + 1 := ⟨r - 1, by omega⟩
            have cb := KB.out t (q + 1) htr (by omega)
            rw [Nat.add_sub_cancel] at cb
            have KO := Lib.hid (or_step X t (by omega))
            have KW := Lib.hid (wrap_pow (X / 256 ^ t % 256) t (by omega) (Nat.mod_lt _ (by decide)))
            have e1 : ((q + 1 : Nat) : Int) - 1 = (q : Int) := by omega
            have e2 : (0 : Int) < ((q + 1 : Nat) : Int) := by omega
            have e3 : q < n := by omega
            have y8 : X / 256 ^ t % 256 < 256 := Nat.mod_lt _ (by decide)
            obtain ⟨r1, hr1⟩ : ∃ r1, r1 = q + 1 := ⟨_, rfl⟩
            rw [← hr1] at e1 e2 ⊢
            obtain ⟨t8, ht8⟩ : ∃ t8, t8 = 8 * t := ⟨_, rfl⟩
            have ht9 : t8 ≤ 48 := by omega
            rw [← ht8]
            generalize X / 256 ^ t % 256 = x8 at *
            generalize X % 256 ^ t = xt at *
            obtain ⟨xn, hxn⟩ : ∃ xn, xn = X % 256 ^ (t + 1) := ⟨_, rfl⟩
            rw [← hxn] at KO
            have KX1 := Lib.hid hxn
            clear hxn
            go_wp2_with fail
            go_roundw
            case rel => exact ⟨t + 1, q, by omega, rfl, by rw [KW.out, KO.out, KX1.out], by go_num, trivial⟩
            case measure => simp [intOf] <;> omega
          · obtain rfl : r = 0 := by omega
            obtain rfl : t = i := by omega
            rw [← KY.out]
            go_wp2_with fail
            with_reducible refine KN.out.mono ?_
            rintro e w' ⟨q, rfl, HH⟩
            go_wp2_with fail
            go_returns
            exact ⟨b, q, cz, rfl, HH.out⟩
end Go.Proofs.YtdidglfaogmnfaaGreatDoor
