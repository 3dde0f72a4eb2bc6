/-
  A part of the proof of FnMathWhole (packed out of smaller texts by a program of this session; what the proof does not reach is left out).
-/
import Derived.Test.YtldejfallphhbaaGreatDoorZ9
import Derived.Test.YtldejfallphhbaaGreatDoorZc
import Derived.Test.YtldejfallphhbaaGreatDoorZg
import Derived.Test.YtldejfallphhbaaGreatDoorZb
import Derived.Test.YtldejfallphhbaaGreatDoorZa
import Derived.Deep.LoopGhost
import Derived.Laws.Bits64b
namespace Go.Proofs.YtldejfallphhbaaGreatDoor
set_option linter.unusedVariables false
def bel (X m : Nat) : List Int := (List.range m).map fun j => ((X / 256 ^ (m - 1 - j) % 256 : Nat) : Int)
theorem bel_len (X m : Nat) : (bel X m).length = m := by simp [bel]
theorem bel_at (X m j : Nat) (h : j < m) : (bel X m).getD j 0 = ((X / 256 ^ (m - 1 - j) % 256 : Nat) : Int) := by
  unfold bel
  rw [List.getD_eq_getElem?_getD, List.getElem?_map, List.getElem?_range h]
  rfl
theorem bel_byt (X m : Nat) : Ref.Byt (bel X m) := fun x hx => by
  unfold bel at hx
  obtain ⟨j, _, rfl⟩ := List.mem_map.1 hx
  have := Nat.mod_lt (X / 256 ^ (m - 1 - j)) (show 0 < 256 by decide)
  omega
theorem bel_dg (X m t : Nat) (h : t < m) : Ref.dg (bel X m) t = X / 256 ^ t % 256 := by
  unfold Ref.dg
  rw [bel_len, if_pos h, bel_at _ _ _ (by omega), show m - 1 - (m - 1 - t) = t from by omega]
  exact Int.toNat_natCast _
theorem S_digits (X : Nat) : ∀ m, Ref.S (fun t => X / 256 ^ t % 256) m = X % 256 ^ m
  | 0 => by rw [Nat.pow_zero, Nat.mod_one]; rfl
  | m + 1 => by
    show Ref.S _ m + X / 256 ^ m % 256 * 256 ^ m = _
    rw [S_digits X m, Nat.pow_succ, Nat.mod_mul, Nat.mul_comm (256 ^ m)]
theorem bel_val (X m : Nat) (h : X < 256 ^ m) : Ref.val (bel X m) = X := by
  unfold Ref.val
  rw [bel_len, Ref.S_congr (g := fun t => X / 256 ^ t % 256) (fun j hj => bel_dg X m j hj), S_digits, Nat.mod_eq_of_lt h]
theorem bel_can (X m : Nat) (h : X < 256 ^ m) (h2 : m = 0 ∨ 256 ^ (m - 1) ≤ X) : Ref.Can (bel X m) X := by
  refine ⟨bel_byt X m, bel_val X m h, ?_⟩
  rcases Nat.eq_zero_or_pos m with rfl | hm
  · simp [bel]
  · have h3 : 256 ^ (m - 1) ≤ X := by
      rcases h2 with h2 | h2
      · omega
      · exact h2
    have h4 : 1 ≤ X / 256 ^ (m - 1) := (Nat.le_div_iff_mul_le (Nat.pow_pos (by decide))).2 (by rw [Nat.one_mul]; exact h3)
    have h5 : X / 256 ^ (m - 1) < 256 := by
      refine Nat.div_lt_of_lt_mul ?_
      rw [← Nat.pow_succ, show (m - 1).succ = m from by omega]; exact h
    unfold bel
    rw [List.getD_eq_getElem?_getD, List.getElem?_map, List.getElem?_range hm]
    show ((X / 256 ^ (m - 1 - 0) % 256 : Nat) : Int) ≠ 0
    rw [Nat.sub_zero, Nat.mod_eq_of_lt h5]
    omega
def Bw (w : World) (b n8 lo X : Nat) : Prop := ∀ t, t < n8 - lo → w.cell? ⟨b, n8 - 1 - t, none⟩ = some (.int .u8 ((X / 256 ^ t % 256 : Nat) : Int))
theorem Bw.bs {w : World} {b n8 lo X : Nat} (h : Bw w b n8 0 X) (hlo : lo ≤ n8) : Bs w b lo (bel X (n8 - lo)) := fun i hi => by
  rw [bel_len] at hi
  rw [bel_at _ _ _ hi]
  have := h (n8 - lo - 1 - i) (by omega)
  rw [show n8 - 1 - (n8 - lo - 1 - i) = lo + i from by omega] at this
  exact this
theorem Bw.put {w : World} {b n8 lo X : Nat} (h : Bw w b n8 (lo + 1) X) (hB : Blk w b n8) (hlo : lo < n8) (v : Nat) (hv : v = X / 256 ^ (n8 - 1 - lo) % 256) : Bw (w.setCell ⟨b, lo, none⟩ (.int .u8 (v : Int))) b n8 lo X := fun t ht => by
  by_cases e : t = n8 - 1 - lo
  · subst e
    rw [show n8 - 1 - (n8 - 1 - lo) = lo from by omega, ← hv]
    exact hB.get lo hlo _
  · rw [cell_set_ne _ _ _ _ _ _ (by omega)]
    exact h t (by omega)
theorem wd_byte2 (X k j : Nat) (hj : j < 8) : wd X k / 256 ^ j % 256 = X / 256 ^ (8 * k + j) % 256 := by
  rw [wd_byte]
  unfold wd
  generalize X / 18446744073709551616 ^ k = Y
  have e : (18446744073709551616 : Nat) = 256 ^ j * 256 ^ (8 - j) := by rw [← Nat.pow_add, show j + (8 - j) = 8 from by omega]
  rw [e, Nat.mod_mul_right_div_self, show (256 : Nat) ^ (8 - j) = 256 * 256 ^ (7 - j) from by rw [← Nat.pow_succ', show (7 - j).succ = 8 - j from by omega], Nat.mod_mul_right_mod]
end Go.Proofs.YtldejfallphhbaaGreatDoor
namespace Go.Proofs.YtldejfallphhbaaGreatDoor
set_option linter.unusedVariables false
open Go.RowKit
theorem info5 : (Tryz.prog.info? 5).map (fun i => (i.zero, i.size, i.bytes)) = some (some (.int .u8 0), 1, 1) := by kernel_rfl
def mkb (c : Nat) : Array Value := madeCells (Value.cells (.int .u8 0)) c
theorem mkb_size (c : Nat) : (mkb c).size = c := size_madeCells _ _
theorem mkb_c (n : Nat) (hn : n ≤ 4000) (w : World) : (Instr.makeSlice 23 (.int .i64 n) (.int .i64 n)).run Tryz.prog w = .ok (.slice (some ⟨w.heap.size, 0, none⟩) n n) (w.alloc (.cells (mkb n) 5)) := by
  obtain ⟨i0, hi, hz0, hz1, hz2⟩ := info_parts info5
  have h := run_make (P := Tryz.prog) w 23 5 i0 (.int .u8 0) Tryz.underlying23 hi hz0 .i64 .i64 n n (by omega) (by omega) (by rw [hz2]; omega) (by omega)
  rw [hz1, Int.toNat_natCast, Nat.mul_one] at h
  exact h
structure Bi8 (w wr : World) (b n8 lo X bx n : Nat) : Prop where
  F : Fr w wr (Al b)
  B : Blk wr b n8
  C : Bw wr b n8 lo X
  W : Ws wr bx 0 n X
theorem Bi8.put {w wr : World} {b n8 lo X bx n : Nat} (h : Bi8 w wr b n8 (lo + 1) X bx n) (hlo : lo < n8) (hne : bx ≠ b) (v : Nat) (hv : v = X / 256 ^ (n8 - 1 - lo) % 256) :
    wr.frozen? ⟨b, lo, none⟩ = false ∧ (∃ z, wr.cell? ⟨b, lo, none⟩ = some z) ∧ Hid (Bi8 w (wr.setCell ⟨b, lo, none⟩ (.int .u8 (v : Int))) b n8 lo X bx n) := by
  have hF : Fr wr (wr.setCell ⟨b, lo, none⟩ (.int .u8 (v : Int))) (Al b) := (Fr.refl _ _).set _ _ _ (fun _ => rfl)
  exact ⟨h.B.fz _, h.B.here _ hlo, Lib.hid ⟨h.F.trans hF (fun _ _ _ c => c), h.B.fr hF, h.C.put h.B hlo v hv, h.W.fr hF (fun i _ (c : bx = b) => hne c)⟩⟩
set_option maxRecDepth 100000 in
set_option maxHeartbeats 2000000 in
theorem bytes_c (A : Option Addr) (bx n cx b X : Nat) (w : World) (hA : 1 ≤ n → A = some ⟨bx, 0, none⟩) (hB : Blk w b (8 * n)) (hn : n ≤ 40) (hX : Ws w bx 0 n X) (hXl : X < 18446744073709551616 ^ n) (hne : bx ≠ b) :
    Calls Tryz.prog 113 #[.slice A n cx, .slice (some ⟨b, 0, none⟩) (8 * n) (8 * n)] w fun e w' => ∃ i : Nat, e = .returned (.int .i64 i) ∧ i ≤ 8 * n ∧ Hid (Bs w' b i (bel X (8 * n - i)) ∧ Ref.Can (bel X (8 * n - i)) X ∧ Fr w w' (Al b)) := by
  obtain ⟨n8, h8⟩ : ∃ n8, n8 = 8 * n := ⟨_, rfl⟩
  rw [← h8] at hB ⊢
  have K0 : Hid (Bi8 w w b n8 n8 X bx n) := Lib.hid ⟨Fr.refl _ _, hB, fun t ht => by omega, hX⟩
  have KX : Hid (X < 256 ^ n8) := Lib.hid (by rw [h8, ← bp256]; exact hXl)
  have n8l : n8 ≤ 320 := by omega
  have KA := Lib.hid hA
  have K8 := Lib.hid h8
  clear hB hX hXl hA h8
  go_enter Tryz.func113, Tryz.ntmps113
  go_wp2_with fail
  go_loopw [4, 6, 7, 12] (fun v4 v6 v7 v12 wr => ∃ k : Nat, k ≤ n ∧ v12 = .int .i64 k ∧ v4 = .int .i64 ((n8 - 8 * k : Nat) : Int) ∧ Hid (Bi8 w wr b n8 (n8 - 8 * k) X bx n)) (fun _ _ _ v12 _ => n - (intOf v12).toNat)
  case atStart => exact ⟨0, Nat.zero_le _, rfl, rfl, K0⟩
  case round =>
    obtain ⟨k, hk, rfl, rfl, HR⟩ := hrel
    by_cases hkn : k < n
    · obtain rfl := KA.out (by omega)
      have ck := HR.out.W k hkn
      rw [Nat.zero_add] at ck
      have q1 : (k : Int) < (n : Int) := by omega
      obtain ⟨x, hx⟩ : ∃ x, x = wd X k := ⟨_, rfl⟩
      rw [← hx] at ck
      have hxl : x < 18446744073709551616 := by rw [hx]; exact wd_lt X k
      have KW := Lib.hid hx
      clear hx
      go_wp2_with fail
      go_loopw [4, 6, 7] (fun v4 v6 v7 wq => ∃ j : Nat, j ≤ 8 ∧ v7 = .int .i64 j ∧ v6 = .int .u64 ((x / 256 ^ j : Nat) : Int) ∧ v4 = .int .i64 ((n8 - 8 * k - j : Nat) : Int) ∧ Hid (Bi8 w wq b n8 (n8 - 8 * k - j) X bx n)) (fun _ _ v7 _ => 8 - (intOf v7).toNat)
      case atStart => exact ⟨0, by omega, rfl, by simp, by simp, by simpa using HR⟩
      case round =>
        obtain ⟨j, hj, rfl, rfl, rfl, HJ⟩ := hrel
        by_cases hj8 : j < 8
        · obtain ⟨lo, hlo⟩ : ∃ lo, n8 - 8 * k - j = lo + 1 := ⟨n8 - 8 * k - j - 1, by have := K8.out; omega⟩
          rw [hlo] at HJ ⊢
          have q2 : (j : Int) < 8 := by omega
          have q3 : ((lo + 1 : Nat) : Int) - 1 = (lo : Int) := by omega
          have q4 : (0 : Int) ≤ (lo : Int) := by omega
          have q5 : (lo : Int) < (n8 : Int) := by have := K8.out; omega
          have q6 : lo < n8 := by have := K8.out; omega
          obtain ⟨d, hd⟩ : ∃ d, d = x / 256 ^ j := ⟨_, rfl⟩
          rw [← hd]
          obtain ⟨v, hv0⟩ : ∃ v, v = d % 256 := ⟨_, rfl⟩
          obtain ⟨d2, hd2⟩ : ∃ d2, d2 = x / 256 ^ (j + 1) := ⟨_, rfl⟩
          have hv : v = X / 256 ^ (n8 - 1 - lo) % 256 := by
            rw [hv0, hd, KW.out, wd_byte2 X k j hj8, show n8 - 1 - lo = 8 * k + j from by have := K8.out; omega]
          obtain ⟨fz, ⟨z, hz⟩, HP⟩ := HJ.out.put q6 hne v hv
          have q7 : IntKind.u8.wrap (d : Int) = (v : Int) := by rw [IntKind.wrap_u8]; omega
          have q8 : (d : Int) / 256 = (d2 : Int) := by
            rw [hd2, hd, Nat.pow_succ, ← Nat.div_div_eq_div_mul]; omega
          have q9 : (d : Int) % 256 = (v : Int) := by omega
          have KD := Lib.hid hd2
          clear hv0 hd2
          clear hv HR hd
          go_wp2_with fail
          go_roundw
          case rel => exact ⟨j + 1, by omega, by go_num, by rw [KD.out], by rw [show n8 - 8 * k - (j + 1) = lo from by have := K8.out; omega], by rw [show n8 - 8 * k - (j + 1) = lo from by have := K8.out; omega]; exact HP⟩
          case measure => simp [intOf]; omega
        · obtain rfl : j = 8 := by omega
          have HK : Hid (Bi8 w wr b n8 (n8 - 8 * (k + 1)) X bx n) := by rw [show n8 - 8 * (k + 1) = n8 - 8 * k - 8 from by omega]; exact HJ
          clear HJ HR
          go_wp2_with fail
          go_roundw
          case rel => exact ⟨k + 1, by omega, by go_num, by rw [show n8 - 8 * (k + 1) = n8 - 8 * k - 8 from by omega], HK⟩
          case measure => simp [intOf]; omega
    · obtain rfl : k = n := by omega
      have hz : n8 - 8 * k = 0 := by have := K8.out; omega
      rw [hz] at HR ⊢
      have q0 : ¬ (k : Int) < (k : Int) := by omega
      have K8' : Hid (n8 = 8 * k) := K8
      clear hz hkn hk
      go_wp2_with fail
      go_loopw [4] (fun v4 wq => ∃ i : Nat, i ≤ n8 ∧ v4 = .int .i64 i ∧ Hid (X < 256 ^ (n8 - i)) ∧ wq = wr) (fun v4 _ => n8 - (intOf v4).toNat)
      case atStart => exact ⟨0, Nat.zero_le _, rfl, by simpa using KX, rfl⟩
      case round =>
        obtain ⟨i, hi, rfl, KI, rfl⟩ := hrel
        by_cases hin : i < n8
        · have ci := HR.out.C (n8 - 1 - i) (by omega)
          rw [show n8 - 1 - (n8 - 1 - i) = i from by omega] at ci
          obtain ⟨c, hc⟩ : ∃ c, c = X / 256 ^ (n8 - 1 - i) % 256 := ⟨_, rfl⟩
          rw [← hc] at ci
          have hlt : X / 256 ^ (n8 - 1 - i) < 256 := by
            refine Nat.div_lt_of_lt_mul ?_
            rw [← Nat.pow_succ, show (n8 - 1 - i).succ = n8 - i from by omega]; exact KI.out
          rw [Nat.mod_eq_of_lt hlt] at hc
          have q1 : (i : Int) < (n8 : Int) := by omega
          rcases Nat.eq_zero_or_pos c with rfl | hcp
          · have K1 : Hid (X < 256 ^ (n8 - (i + 1))) := Lib.hid (by
              rw [show n8 - (i + 1) = n8 - 1 - i from by omega]
              rcases Nat.lt_or_ge X (256 ^ (n8 - 1 - i)) with h | h
              · exact h
              · have := (Nat.le_div_iff_mul_le (Nat.pow_pos (n := n8 - 1 - i) (show 0 < 256 by decide))).2 (by rw [Nat.one_mul]; exact h)
                omega)
            clear hc hlt
            go_wp2_with fail
            go_roundw
            case rel => exact ⟨i + 1, by omega, by go_num, K1, by first | rfl | trivial⟩
            case measure => simp [intOf]; omega
          · have hcb : ((c : Int) == 0) = false := by simp; omega
            have hcb2 : ¬ c = 0 := by omega
            have KR : Hid (Bs wr b i (bel X (n8 - i)) ∧ Ref.Can (bel X (n8 - i)) X ∧ Fr w wr (Al b)) := Lib.hid ⟨HR.out.C.bs hi, bel_can X _ KI.out (Or.inr (by
              have h1 : 1 ≤ X / 256 ^ (n8 - 1 - i) := by omega
              have h2 := (Nat.le_div_iff_mul_le (Nat.pow_pos (n := n8 - 1 - i) (show 0 < 256 by decide))).1 h1
              rw [Nat.one_mul] at h2
              rw [show n8 - i - 1 = n8 - 1 - i from by omega]; exact h2)), HR.out.F⟩
            clear hc hlt
            go_wp2_with fail
            go_returns
            exact ⟨i, rfl, hi, KR⟩
        · obtain rfl : i = n8 := by omega
          have KR : Hid (Bs wr b i (bel X (i - i)) ∧ Ref.Can (bel X (i - i)) X ∧ Fr w wr (Al b)) := Lib.hid ⟨HR.out.C.bs (Nat.le_refl _), bel_can X _ KI.out (Or.inl (Nat.sub_self _)), HR.out.F⟩
          have q1 : ¬ (i : Int) < (i : Int) := by omega
          clear hin
          go_wp2_with fail
          go_returns
          exact ⟨i, rfl, Nat.le_refl _, KR⟩
end Go.Proofs.YtldejfallphhbaaGreatDoor
namespace Go.Proofs.YtldejfallphhbaaGreatDoor
set_option linter.unusedVariables false
open Go.RowKit
theorem buf_new (w : World) (n : Nat) : Blk (w.alloc (.cells (mkb n) 5)) w.heap.size n ∧ Fr w (w.alloc (.cells (mkb n) 5)) No := ⟨Blk.new w (mkb n) 5 n (mkb_size n), new40 w _ 5⟩
set_option maxRecDepth 100000 in
theorem Bytes_c (p X : Nat) (ng : Bool) (v : Value) (w : World) (h : Bi w p ng v) (hv : Abs w v X) :
    Calls Tryz.prog 95 #[.pointer (some ⟨p, 0, none⟩)] w fun e w' => ∃ A n c l, e = .returned (.slice A n c) ∧ Hid (Dl w' (.slice A n c) l ∧ Ref.Can l X ∧ l.length ≤ 320 ∧ Fr w w' No ∧ ∀ g o n2 c2, Value.slice A n c = .slice (some ⟨g, o, none⟩) n2 c2 → 1 ≤ l.length → w.heap.size ≤ g) := by
  have c1 := h.c1
  clear h
  rcases hv with ⟨rfl, rfl⟩ | ⟨b, k, cc, rfl, h1, h2, h3, h4, h5, h6, h7, h8⟩
  · have hm : ∀ w : World, (Instr.makeSlice 23 (.int .i64 0) (.int .i64 0)).run Tryz.prog w = .ok (.slice (some ⟨w.heap.size, 0, none⟩) 0 0) (w.alloc (.cells (mkb 0) 5)) := mkb_c 0 (by decide)
    obtain ⟨hB, hF⟩ := buf_new w 0
    have K := Lib.hid (bytes_c none (w.heap.size + 1) 0 0 w.heap.size 0 _ (fun h => by omega) hB (by omega) (fun i hi => by omega) (by decide) (by omega))
    have KF := Lib.hid hF
    have c1' := hF.keep c1 (fun c => c)
    rw [Nat.mul_zero] at K
    clear hB hF
    go_enter Tryz.func95, Tryz.ntmps95
    go_wp2_with fail
    with_reducible refine K.out.mono ?_
    rintro e w2 ⟨i, rfl, hi, H⟩
    obtain rfl : i = 0 := by omega
    have KN : Hid (∀ A c, Dl w2 (.slice A 0 c) [] ∧ Ref.Can [] 0 ∧ ([] : List Int).length ≤ 320 ∧ Fr w w2 No ∧ ∀ g o n2 c2, Value.slice A 0 c = .slice (some ⟨g, o, none⟩) n2 c2 → 1 ≤ ([] : List Int).length → w.heap.size ≤ g) := Lib.hid (fun A c => ⟨Or.inl ⟨rfl, A, c, rfl⟩, Ref.Can.nil, by decide, KF.out.trans H.out.2.2 (fun k j hk c => by have : k = w.heap.size := c; omega), fun _ _ _ _ _ h => absurd h (by decide)⟩)
    clear H hi
    go_wp2_with fail
    go_returns
    exact ⟨_, _, _, [], rfl, Lib.hid (KN.out _ _)⟩
  · have hX1 := Nrm.pos h6 h1
    have hm : ∀ w : World, (Instr.makeSlice 23 (.int .i64 ((8 * k : Nat) : Int)) (.int .i64 ((8 * k : Nat) : Int))).run Tryz.prog w = .ok (.slice (some ⟨w.heap.size, 0, none⟩) (8 * k) (8 * k)) (w.alloc (.cells (mkb (8 * k)) 5)) := mkb_c (8 * k) (by omega)
    obtain ⟨hB, hF⟩ := buf_new w (8 * k)
    have hbl := h8.lt
    have K := Lib.hid (bytes_c (some ⟨b, 0, none⟩) b k cc w.heap.size X _ (fun _ => rfl) hB (by omega) (h7.fr hF (fun i _ c => c)) h6.1 (by omega))
    have KF := Lib.hid hF
    obtain ⟨n8, hn8⟩ : ∃ n8, n8 = 8 * k := ⟨_, rfl⟩
    have c1' := hF.keep c1 (fun c => c)
    rw [← hn8] at hm K KF c1'
    have e1 : (k : Int) * 8 = (n8 : Int) := by omega
    have n8l : n8 ≤ 320 := by omega
    have KX := Lib.hid hX1
    clear hB hF hn8 h6 h7 h8 hbl hX1
    go_enter Tryz.func95, Tryz.ntmps95
    go_wp2_with fail
    with_reducible refine K.out.mono ?_
    rintro e w2 ⟨i, rfl, hi, H⟩
    have hlt : i < n8 := by
      have h1 := H.out.2.1
      rcases Nat.lt_or_ge i n8 with h | h
      · exact h
      · have : n8 - i = 0 := by omega
        rw [this] at h1
        have h2 := (h1.zero_iff).1 (by rw [bel_len])
        have := KX.out
        omega
    have KN : Hid (∀ c, n8 - i ≤ c → Dl w2 (.slice (some ⟨w.heap.size, i, none⟩) (n8 - i) c) (bel X (n8 - i)) ∧ Ref.Can (bel X (n8 - i)) X ∧ (bel X (n8 - i)).length ≤ 320 ∧ Fr w w2 No ∧ ∀ g o n2 c2, Value.slice (some ⟨w.heap.size, i, none⟩) (n8 - i) c = .slice (some ⟨g, o, none⟩) n2 c2 → 1 ≤ (bel X (n8 - i)).length → w.heap.size ≤ g) := Lib.hid (fun c hc => ⟨Or.inr ⟨w.heap.size, i, c, by rw [bel_len], by rw [bel_len]; exact hc, H.out.1, by rw [bel_len]; omega⟩, H.out.2.1, by rw [bel_len]; omega, KF.out.trans H.out.2.2 (fun k j hk c => by have : k = w.heap.size := c; omega), fun g o n2 c2 e _ => by injection e with e; injection e with e; injection e with e; omega⟩)
    have hne : ¬ n8 = i := by omega
    have q1 : (i : Int) ≤ (n8 : Int) := by omega
    clear H
    go_wp2_with fail
    go_returns
    exact ⟨_, _, _, _, rfl, Lib.hid (KN.out _ (Nat.le_refl _))⟩
theorem Sign_c (p X : Nat) (ng : Bool) (v : Value) (w : World) (h : Bi w p ng v) (hv : Abs w v X) :
    Calls Tryz.prog 94 #[.pointer (some ⟨p, 0, none⟩)] w fun e w' => e = .returned (.int .i64 (if X = 0 then 0 else if ng then -1 else 1)) ∧ w' = w := by
  have c0 := h.c0
  have c1 := h.c1
  clear h
  rcases hv with ⟨rfl, rfl⟩ | ⟨b, k, cc, rfl, h1, h2, h3, h4, h5, h6, h7, h8⟩
  · go_enter Tryz.func94, Tryz.ntmps94
    go_wp2_with fail
    go_returns
    exact ⟨rfl, rfl⟩
  · have hX1 := Nrm.pos h6 h1
    have e1 : ((k : Int) == 0) = false := by simp; omega
    have e2 : ¬ k = 0 := by omega
    rw [if_neg (by omega)]
    clear h6 h7 h8 hX1 h2 h3 h4 h5
    cases ng
    · go_enter Tryz.func94, Tryz.ntmps94
      go_wp2_with fail
      go_returns
      exact ⟨rfl, rfl⟩
    · go_enter Tryz.func94, Tryz.ntmps94
      go_wp2_with fail
      go_returns
      exact ⟨rfl, rfl⟩
theorem get_c (x : Int) (y : Option Addr) (w : World) :
    Calls Tryz.prog 111 #[.agg #[.int .i64 x, .pointer y]] w fun e w' => e = .returned (.tuple #[.int .i64 x, .pointer y]) ∧ Fr w w' No := by
  have KF := Lib.hid (fun q => (new40 w #[.int .i64 x, .pointer y] 74).drewN q)
  go_enter Tryz.func111, Tryz.ntmps111
  go_wp2_with fail
  go_quiet (fail)
  go_wp2_with fail
  go_returns
  exact ⟨rfl, KF.out _⟩
set_option maxRecDepth 100000 in
theorem bigInt_c (x : Int) (y : Option Addr) (ng : Bool) (X : Nat) (w : World) (hI : IntV w (.agg #[.int .i64 x, .pointer y]) ng X) (h0 : ng = true → 1 ≤ X) :
    Calls Tryz.prog 93 #[.agg #[.int .i64 x, .pointer y]] w fun e w' => ∃ q v, e = .returned (.pointer (some ⟨q, 0, none⟩)) ∧ Hid (Bi w' q ng v ∧ Abs w' v X ∧ Fr w w' No) := by
  have A0 := new40 w #[.int .i64 x, .pointer y] 74
  have KA := Lib.hid A0
  have KG := Lib.hid (get_c x y (w.alloc (.cells #[.int .i64 x, .pointer y] 74)))
  rcases hI with ⟨hs, he⟩ | ⟨hs, p, v, he, hb, ha⟩
  · unfold smallV at he
    simp only [Value.agg.injEq, Array.mk.injEq, List.cons.injEq, Value.int.injEq, Value.pointer.injEq, and_true, true_and] at he
    obtain ⟨rfl, rfl⟩ := he
    have hle := sml_le hs
    have KN := Lib.hid (fun (wx : World) => newInt_c X ng (by omega) h0 (fun _ => by omega) wx)
    generalize (if ng = true then -(X : Int) else (X : Int)) = x at *
    clear A0 hs hle h0
    go_enter Tryz.func93, Tryz.ntmps93
    go_wp2_with fail
    with_reducible refine KG.out.mono ?_
    rintro e w2 ⟨rfl, hF⟩
    have KF := Lib.hid (KA.out.trans hF (fun _ _ _ c => c))
    clear hF
    go_wp2_with fail
    with_reducible refine (KN.out _).mono ?_
    rintro e w3 ⟨q, v, rfl, hq, H⟩
    have KH := Lib.hid (And.intro H.out.1 (And.intro H.out.2.1 (KF.out.trans H.out.2.2.1 (fun _ _ _ c => c))))
    clear H hq
    go_wp2_with fail
    go_returns
    exact ⟨q, v, rfl, KH⟩
  · unfold bigV at he
    simp only [Value.agg.injEq, Array.mk.injEq, List.cons.injEq, Value.int.injEq, Value.pointer.injEq, and_true, true_and] at he
    obtain ⟨rfl, rfl⟩ := he
    have hX := sml_ge hs
    have KS := Lib.hid (fun (wx : World) (hf : Fr w wx No) => bg_set wx p X ng v (hb.fr hf (fun _ c => c)) (ha.no hf) hX wx.heap.size rfl)
    clear A0 hs hb ha h0
    go_enter Tryz.func93, Tryz.ntmps93
    go_wp2_with fail
    with_reducible refine KG.out.mono ?_
    rintro e w2 ⟨rfl, hF⟩
    have KF := Lib.hid (KA.out.trans hF (fun _ _ _ c => c))
    clear hF
    go_wp2_with fail
    with_reducible refine (KS.out w2 KF.out).mono ?_
    rintro e w3 ⟨v2, rfl, g1, g2, g3, g4⟩
    have KH := Lib.hid (And.intro g1 (And.intro g2 (KF.out.trans g4 (fun _ _ _ c => c))))
    clear g1 g2 g3 g4
    go_wp2_with fail
    go_returns
    exact ⟨_, v2, rfl, KH⟩
end Go.Proofs.YtldejfallphhbaaGreatDoor
namespace Go.Proofs.YtldejfallphhbaaGreatDoor
set_option linter.unusedVariables false
open Go.RowKit
theorem rd6 {w w3 w4 : World} {r : Nat} {a b c d e f : Value} (hB : Blk w3 r 6) (hF : Fr w w3 No) (hr : w.heap.size ≤ r)
    (h : (((((w3.setCell ⟨r, 0, none⟩ a).setCell ⟨r, 1, none⟩ b).setCell ⟨r, 2, none⟩ c).setCell ⟨r, 3, none⟩ d).setCell ⟨r, 4, none⟩ e).setCell ⟨r, 5, none⟩ f = w4) :
    w4.cell? ⟨r, 0, none⟩ = some a ∧ w4.cell? ⟨r, 1, none⟩ = some b ∧ w4.cell? ⟨r, 2, none⟩ = some c ∧ w4.cell? ⟨r, 3, none⟩ = some d ∧ w4.cell? ⟨r, 4, none⟩ = some e ∧ w4.cell? ⟨r, 5, none⟩ = some f ∧ Fr w w4 No ∧ Fr w3 w4 (fun k _ => k = r) := by
  have g : ∀ (u : World) (i : Nat) (v : Value), Fr w3 u (fun k _ => k = r) → Fr w3 (u.setCell ⟨r, i, none⟩ v) (fun k _ => k = r) := fun u i v hu => hu.set r i v (fun _ => rfl)
  have h1 := g _ 0 a (Fr.refl _ _)
  have h2 := g _ 1 b h1
  have h3 := g _ 2 c h2
  have h4 := g _ 3 d h3
  have h5 := g _ 4 e h4
  have h6 := g _ 5 f h5
  rw [h] at h6
  refine ⟨?_, ?_, ?_, ?_, ?_, ?_, hF.trans h6 (fun k j hk c => by have : k = r := c; omega), h6⟩
  · rw [← h, cell_set_ne _ _ _ _ _ _ (by omega), cell_set_ne _ _ _ _ _ _ (by omega), cell_set_ne _ _ _ _ _ _ (by omega), cell_set_ne _ _ _ _ _ _ (by omega), cell_set_ne _ _ _ _ _ _ (by omega)]
    exact hB.get 0 (by decide) _
  · rw [← h, cell_set_ne _ _ _ _ _ _ (by omega), cell_set_ne _ _ _ _ _ _ (by omega), cell_set_ne _ _ _ _ _ _ (by omega), cell_set_ne _ _ _ _ _ _ (by omega)]
    exact (hB.fr h1).get 1 (by decide) _
  · rw [← h, cell_set_ne _ _ _ _ _ _ (by omega), cell_set_ne _ _ _ _ _ _ (by omega), cell_set_ne _ _ _ _ _ _ (by omega)]
    exact (hB.fr h2).get 2 (by decide) _
  · rw [← h, cell_set_ne _ _ _ _ _ _ (by omega), cell_set_ne _ _ _ _ _ _ (by omega)]
    exact (hB.fr h3).get 3 (by decide) _
  · rw [← h, cell_set_ne _ _ _ _ _ _ (by omega)]
    exact (hB.fr h4).get 4 (by decide) _
  · rw [← h]
    exact (hB.fr h5).get 5 (by decide) _
theorem six {w : World} {r : Nat} (hB : Blk w r 6) : (∀ i, w.frozen? ⟨r, i, none⟩ = false) ∧ (∃ v, w.cell? ⟨r, 0, none⟩ = some v) ∧ (∃ v, w.cell? ⟨r, 1, none⟩ = some v) ∧ (∃ v, w.cell? ⟨r, 2, none⟩ = some v) ∧ (∃ v, w.cell? ⟨r, 3, none⟩ = some v) ∧ (∃ v, w.cell? ⟨r, 4, none⟩ = some v) ∧ ∃ v, w.cell? ⟨r, 5, none⟩ = some v :=
  ⟨fun i => hB.fz i, hB.here 0 (by decide), hB.here 1 (by decide), hB.here 2 (by decide), hB.here 3 (by decide), hB.here 4 (by decide), hB.here 5 (by decide)⟩
theorem Dl.far {w w' : World} {v : Value} {l : List Int} {p : Nat} {x : Value} (h : Dl w v l) (hx : w.cell? ⟨p, 0, none⟩ = some x) (h0 : w.heap.size ≤ p → False) (hf : Fr w w' (fun k _ => k = p)) (hp : ∀ g o n c, v = .slice (some ⟨g, o, none⟩) n c → 1 ≤ l.length → g ≠ p) : Dl w' v l := h.fr hf hp
def zVal : Array Value := #[.int .i64 0, .bool false, .slice none 0 0, .int .u64 0, .string ⟨#[]⟩, .slice none 0 0]
def VInt (w : World) (ng : Bool) (A : Option Addr) (n c : Nat) (l : List Int) (X : Nat) : Prop := Dl w (.slice A n c) l ∧ Ref.Can l X ∧ l.length ≤ 320
theorem dl_new {w3 : World} {v : Value} {l : List Int} {r : Nat} (h : Dl w3 v l) (hv : ∀ g o n c, v = .slice (some ⟨g, o, none⟩) n c → 1 ≤ l.length → r < g) {w4 : World} (hf : Fr w3 w4 (fun k _ => k = r)) : Dl w4 v l :=
  h.fr hf (fun g o n c e hl => by have := hv g o n c e hl; omega)
set_option maxRecDepth 100000 in
set_option maxHeartbeats 1000000 in
theorem number_c (x : Int) (y : Option Addr) (ng : Bool) (X : Nat) (w : World) (hI : IntV w (.agg #[.int .i64 x, .pointer y]) ng X) (h0 : ng = true → 1 ≤ X) :
    Calls Tryz.prog 71 #[.agg #[.int .i64 x, .pointer y]] w fun e w' => ∃ A n c l, e = .returned (.agg #[.int .i64 2, .bool ng, .slice A n c, .int .u64 0, .string ⟨#[]⟩, .slice none 0 0]) ∧ Hid (VInt w' ng A n c l X ∧ Fr w w' No ∧ ∀ g o n2 c2, Value.slice A n c = .slice (some ⟨g, o, none⟩) n2 c2 → 1 ≤ l.length → w.heap.size ≤ g) := by
  have f1 := new40 w #[.int .i64 x, .pointer y] 74
  have s1 : (w.alloc (.cells #[.int .i64 x, .pointer y] 74)).heap.size = w.heap.size + 1 := size_new _ _
  have f2 := new40 (w.alloc (.cells #[.int .i64 x, .pointer y] 74)) zVal 28
  have hB := Blk.new (w.alloc (.cells #[.int .i64 x, .pointer y] 74)) zVal 28 6 rfl
  rw [s1] at hB
  have f12 := f1.trans f2 (fun _ _ _ c => c)
  have K := Lib.hid (bigInt_c x y ng X _ (hI.no f12) h0)
  have KB := Lib.hid hB
  have KF := Lib.hid f12
  have K0 := Lib.hid h0
  unfold zVal at *
  clear f1 s1 f2 hB f12 hI h0
  go_enter Tryz.func71, Tryz.ntmps71
  go_wp2_with fail
  with_reducible refine K.out.mono ?_
  rintro e w3 ⟨q, v, rfl, H3⟩
  have KS := Lib.hid (Sign_c q X ng v w3 H3.out.1 H3.out.2.1)
  have hsg : decide ((if X = 0 then (0 : Int) else if ng then -1 else 1) < 0) = ng := by
    rcases Nat.eq_zero_or_pos X with h | h
    · rw [if_pos h]
      cases ng
      · rfl
      · have := K0.out rfl; omega
    · rw [if_neg (by omega)]
      cases ng <;> rfl
  have KY := Lib.hid (Bytes_c q X ng v w3 H3.out.1 H3.out.2.1)
  generalize (if X = 0 then (0 : Int) else if ng then -1 else 1) = sgn at *
  go_wp2_with fail
  with_reducible refine KS.out.mono ?_
  rintro e w3' ⟨rfl, rfl⟩
  go_wp2_with fail
  with_reducible refine KY.out.mono ?_
  rintro e w5 ⟨A, n, c, l, rfl, H5⟩
  have hB5 := (KB.out.fr H3.out.2.2).fr H5.out.2.2.2.1
  obtain ⟨fz, ⟨v0, hv0⟩, ⟨v1, hv1⟩, ⟨v2, hv2⟩, ⟨v3, hv3⟩, ⟨v4, hv4⟩, ⟨v5, hv5⟩⟩ := six hB5
  have f0 := fz 0
  have f1 := fz 1
  have f2 := fz 2
  have f3 := fz 3
  have f4 := fz 4
  have f5 := fz 5
  have KB5 := Lib.hid (And.intro hB5 ((KF.out.trans H3.out.2.2 (fun _ _ _ c => c)).trans H5.out.2.2.2.1 (fun _ _ _ c => c)))
  have hsz : w.heap.size + 2 ≤ w3'.heap.size := by
    have := H3.out.2.2.size
    simpa using this
  have KZ := Lib.hid hsz
  clear hB5 fz hsz
  go_wp2_with fail
  generalize hw : World.setCell _ _ _ = w6
  obtain ⟨r0, r1, r2, r3, r4, r5, rF, rG⟩ := rd6 KB5.out.1 KB5.out.2 (Nat.le_succ _) hw
  clear hw
  refine bodyPost_ret (by simp [results, Tryz.results71, go_sem, r0, r1, r2, r3, r4, r5]; try rfl) rfl ?_
  exact ⟨A, n, c, l, rfl, Lib.hid ⟨⟨dl_new H5.out.1 (fun g o n2 c2 e hl => by have := H5.out.2.2.2.2 g o n2 c2 e hl; have := KZ.out; omega) rG, H5.out.2.1, H5.out.2.2.1⟩, rF, fun g o n2 c2 e hl => by have := H5.out.2.2.2.2 g o n2 c2 e hl; have := KZ.out; omega⟩⟩
set_option maxRecDepth 100000 in
theorem bitsOf_c (y : Nat) (w : World) : Calls Tryz.prog 72 #[.float .f64 y] w fun e w' => e = .returned (.int .u64 (y : Int)) ∧ w' = w := by
  have h := e59
  go_enter Tryz.func72, Tryz.ntmps72
  go_wp2_with fail
  go_returns
  exact ⟨rfl, rfl⟩
set_option maxRecDepth 100000 in
set_option maxHeartbeats 1000000 in
theorem tell_i (x : Int) (y : Option Addr) (ng : Bool) (X : Nat) (w : World) (hI : IntV w (.agg #[.int .i64 x, .pointer y]) ng X) (h0 : ng = true → 1 ≤ X) :
    Calls Tryz.prog 44 #[.iface 74 (.agg #[.int .i64 x, .pointer y])] w fun e w' => ∃ A n c l, e = .returned (.agg #[.int .i64 2, .bool ng, .slice A n c, .int .u64 0, .string ⟨#[]⟩, .slice none 0 0]) ∧ Hid (VInt w' ng A n c l X ∧ Fr w w' No ∧ ∀ g o n2 c2, Value.slice A n c = .slice (some ⟨g, o, none⟩) n2 c2 → 1 ≤ l.length → w.heap.size ≤ g) := by
  have a1 := as_74_68
  have a2 := as_74_69
  have a3 := as_74
  have f1 := new40 w zVal 28
  have s1 : (w.alloc (.cells zVal 28)).heap.size = w.heap.size + 1 := size_new _ _
  have f2 := new40 (w.alloc (.cells zVal 28)) #[.int .i64 x, .pointer y] 74
  have s2 : ((w.alloc (.cells zVal 28)).alloc (.cells #[.int .i64 x, .pointer y] 74)).heap.size = w.heap.size + 1 + 1 := by rw [size_new, s1]
  have hB := (Blk.new w zVal 28 6 rfl).fr f2
  have f12 := f1.trans f2 (fun _ _ _ c => c)
  have K := Lib.hid (number_c x y ng X _ (hI.no f12) h0)
  have KB := Lib.hid hB
  have KF := Lib.hid (And.intro f12 s2)
  unfold zVal at *
  clear f1 s1 f2 s2 hB f12 hI h0
  go_enter Tryz.func44, Tryz.ntmps44
  go_wp2_with fail
  with_reducible refine K.out.mono ?_
  rintro e w5 ⟨A, n, c, l, rfl, H5⟩
  have hB5 := KB.out.fr H5.out.2.1
  obtain ⟨fz, ⟨v0, hv0⟩, ⟨v1, hv1⟩, ⟨v2, hv2⟩, ⟨v3, hv3⟩, ⟨v4, hv4⟩, ⟨v5, hv5⟩⟩ := six hB5
  have f0 := fz 0
  have f1 := fz 1
  have f2 := fz 2
  have f3 := fz 3
  have f4 := fz 4
  have f5 := fz 5
  have KB5 := Lib.hid (And.intro hB5 (KF.out.1.trans H5.out.2.1 (fun _ _ _ c => c)))
  clear hB5 fz
  go_wp2_with fail
  generalize hw : World.setCell _ _ _ = w6
  obtain ⟨r0, r1, r2, r3, r4, r5, rF, rG⟩ := rd6 KB5.out.1 KB5.out.2 (Nat.le_refl _) hw
  clear hw
  refine bodyPost_ret (by simp [results, Tryz.results44, go_sem, r0, r1, r2, r3, r4, r5]; try rfl) rfl ?_
  exact ⟨A, n, c, l, rfl, Lib.hid ⟨⟨dl_new H5.out.1.1 (fun g o n2 c2 e hl => by have := H5.out.2.2 g o n2 c2 e hl; have := KF.out.2; omega) rG, H5.out.1.2.1, H5.out.1.2.2⟩, rF, fun g o n2 c2 e hl => by have := H5.out.2.2 g o n2 c2 e hl; have := KF.out.2; omega⟩⟩
set_option maxRecDepth 100000 in
set_option maxHeartbeats 1000000 in
theorem tell_f (y : Nat) (w : World) :
    Calls Tryz.prog 44 #[.iface 76 (.float .f64 y)] w fun e w' => e = .returned (.agg #[.int .i64 3, .bool false, .slice none 0 0, .int .u64 (y : Int), .string ⟨#[]⟩, .slice none 0 0]) ∧ Hid (Fr w w' No) := by
  have a1 := as_76_68
  have a2 := as_76_69
  have a3 := as_76_74
  have a4 := as_76
  have f1 := new40 w zVal 28
  have hB := Blk.new w zVal 28 6 rfl
  have KB := Lib.hid (And.intro hB f1)
  have KY := Lib.hid (bitsOf_c y)
  have KF := Lib.hid (fun (arr : Array Value) => new40 w arr 28)
  unfold zVal at *
  clear f1 hB
  go_enter Tryz.func44, Tryz.ntmps44
  go_wp2_with fail
  refine (KY.out _).mono ?_
  rintro e w2 ⟨rfl, rfl⟩
  go_wp2_with fail
  go_returns
  exact ⟨rfl, Lib.hid (KF.out _)⟩
set_option maxRecDepth 100000 in
set_option maxHeartbeats 1000000 in
theorem sof_i (x : Int) (y : Option Addr) (ng : Bool) (X : Nat) (w : World) (hI : IntV w (.agg #[.int .i64 x, .pointer y]) ng X) (h0 : ng = true → 1 ≤ X) :
    Calls Tryz.prog 19 #[.iface 74 (.agg #[.int .i64 x, .pointer y]), .nilIface] w fun e w' => ∃ A n c l, e = .returned (.tuple #[.agg #[.int .i64 2, .bool ng, .slice A n c, .int .u64 0, .string ⟨#[]⟩, .slice none 0 0], .bool true]) ∧ Hid (VInt w' ng A n c l X ∧ Fr w w' No ∧ ∀ g o n2 c2, Value.slice A n c = .slice (some ⟨g, o, none⟩) n2 c2 → 1 ≤ l.length → w.heap.size ≤ g) := by
  have f1 := new40 w zVal 28
  have s1 : (w.alloc (.cells zVal 28)).heap.size = w.heap.size + 1 := size_new _ _
  have hB := Blk.new w zVal 28 6 rfl
  have K := Lib.hid (tell_i x y ng X _ (hI.no f1) h0)
  have KB := Lib.hid hB
  have KF := Lib.hid (And.intro f1 s1)
  unfold zVal at *
  clear f1 s1 hB hI h0
  go_enter Tryz.func19, Tryz.ntmps19
  go_wp2_with fail
  with_reducible refine K.out.mono ?_
  rintro e w5 ⟨A, n, c, l, rfl, H5⟩
  have hB5 := KB.out.fr H5.out.2.1
  obtain ⟨fz, ⟨v0, hv0⟩, ⟨v1, hv1⟩, ⟨v2, hv2⟩, ⟨v3, hv3⟩, ⟨v4, hv4⟩, ⟨v5, hv5⟩⟩ := six hB5
  have f0 := fz 0
  have f1 := fz 1
  have f2 := fz 2
  have f3 := fz 3
  have f4 := fz 4
  have f5 := fz 5
  have KB5 := Lib.hid (And.intro hB5 (KF.out.1.trans H5.out.2.1 (fun _ _ _ c => c)))
  clear hB5 fz
  go_wp2_with fail
  generalize hw : World.setCell _ _ _ = w6
  obtain ⟨r0, r1, r2, r3, r4, r5, rF, rG⟩ := rd6 KB5.out.1 KB5.out.2 (Nat.le_refl _) hw
  clear hw
  refine bodyPost_ret (by simp [results, Tryz.results19, go_sem, r0, r1, r2, r3, r4, r5]; try rfl) rfl ?_
  exact ⟨A, n, c, l, rfl, Lib.hid ⟨⟨dl_new H5.out.1.1 (fun g o n2 c2 e hl => by have := H5.out.2.2 g o n2 c2 e hl; have := KF.out.2; omega) rG, H5.out.1.2.1, H5.out.1.2.2⟩, rF, fun g o n2 c2 e hl => by have := H5.out.2.2 g o n2 c2 e hl; have := KF.out.2; omega⟩⟩
set_option maxRecDepth 100000 in
set_option maxHeartbeats 1000000 in
theorem sof_f (y : Nat) (w : World) :
    Calls Tryz.prog 19 #[.iface 76 (.float .f64 y), .nilIface] w fun e w' => e = .returned (.tuple #[.agg #[.int .i64 3, .bool false, .slice none 0 0, .int .u64 (y : Int), .string ⟨#[]⟩, .slice none 0 0], .bool true]) ∧ Hid (Fr w w' No) := by
  have K := Lib.hid (tell_f y (w.alloc (.cells zVal 28)))
  have KB := Lib.hid (And.intro (Blk.new w zVal 28 6 rfl) (new40 w zVal 28))
  unfold zVal at *
  go_enter Tryz.func19, Tryz.ntmps19
  go_wp2_with fail
  with_reducible refine K.out.mono ?_
  rintro e w5 ⟨rfl, H5⟩
  have hB5 := KB.out.1.fr H5.out
  obtain ⟨fz, ⟨v0, hv0⟩, ⟨v1, hv1⟩, ⟨v2, hv2⟩, ⟨v3, hv3⟩, ⟨v4, hv4⟩, ⟨v5, hv5⟩⟩ := six hB5
  have f0 := fz 0
  have f1 := fz 1
  have f2 := fz 2
  have f3 := fz 3
  have f4 := fz 4
  have f5 := fz 5
  have KB5 := Lib.hid (And.intro hB5 (KB.out.2.trans H5.out (fun _ _ _ c => c)))
  clear hB5 fz
  go_wp2_with fail
  generalize hw : World.setCell _ _ _ = w6
  obtain ⟨r0, r1, r2, r3, r4, r5, rF, rG⟩ := rd6 KB5.out.1 KB5.out.2 (Nat.le_refl _) hw
  clear hw
  refine bodyPost_ret (by simp [results, Tryz.results19, go_sem, r0, r1, r2, r3, r4, r5]; try rfl) rfl ?_
  exact ⟨rfl, Lib.hid rF⟩
end Go.Proofs.YtldejfallphhbaaGreatDoor
namespace Go.Proofs.YtldejfallphhbaaGreatDoor
set_option linter.unusedVariables false
open Go.RowKit
theorem and_top (x : Nat) (hx : x < 18446744073709551616) : bits .and .u64 (x : Int) 9223372036854775808 = ((x / 9223372036854775808 * 9223372036854775808 : Nat) : Int) := by
  have e : bits .and .u64 (x : Int) ((9223372036854775808 : Nat) : Int) = ((x &&& 9223372036854775808 : Nat) : Int) := bits_and_u64_nat x 9223372036854775808 hx (by decide)
  have e2 : x &&& 9223372036854775808 = x / 9223372036854775808 * 9223372036854775808 := by
    have h1 : (x &&& 2 ^ 63) / 2 ^ 63 = x / 2 ^ 63 &&& 1 := by rw [Nat.and_div_two_pow, Nat.div_self (Nat.pow_pos (by decide))]
    have h2 : (x &&& 2 ^ 63) % 2 ^ 63 = 0 := by rw [Nat.and_mod_two_pow, Nat.mod_self, Nat.and_zero]
    have h3 := Nat.div_add_mod (x &&& 2 ^ 63) (2 ^ 63)
    rw [h1, h2] at h3
    show x &&& 2 ^ 63 = _
    rw [← h3]
    have hq : x / 9223372036854775808 = 0 ∨ x / 9223372036854775808 = 1 := by omega
    show 9223372036854775808 * (x / 9223372036854775808 &&& 1) + 0 = _
    rcases hq with hq | hq
    · rw [hq]; simp
    · rw [hq]; simp
  rw [e2] at e
  exact e
theorem or_one (s : Nat) (hs : s = 0 ∨ s = 1) : bits .or .u64 ((s * 9223372036854775808 : Nat) : Int) 4607182418800017408 = ((s * 9223372036854775808 + 4607182418800017408 : Nat) : Int) := by
  rcases hs with rfl | rfl <;> decide
theorem andNot_low (z g : Nat) (hg : g ≤ 63) (hz : z < 18446744073709551616) : bits .andNot .u64 (z : Int) ((2 ^ g - 1 : Nat) : Int) = ((z / 2 ^ g * 2 ^ g : Nat) : Int) := by
  have hp : 0 < 2 ^ g := Nat.pow_pos (by decide)
  have hle : 2 ^ g ≤ 2 ^ 63 := Nat.pow_le_pow_right (by decide) hg
  have h1 : (BitVec.ofInt 64 (z : Int)).toNat = z := by rw [BitVec.toNat_ofInt]; omega
  have h2 : (BitVec.ofInt 64 ((2 ^ g - 1 : Nat) : Int)).toNat = 2 ^ g - 1 := by
    rw [BitVec.toNat_ofInt]
    have : (2 ^ g - 1 : Nat) < 18446744073709551616 := by omega
    generalize 2 ^ g - 1 = y at *
    omega
  have key : (BitVec.ofInt 64 (z : Int) &&& ~~~ BitVec.ofInt 64 ((2 ^ g - 1 : Nat) : Int)).toNat = z / 2 ^ g * 2 ^ g := by
    apply Nat.eq_of_testBit_eq
    intro i
    rw [BitVec.testBit_toNat, BitVec.getLsbD_and, BitVec.getLsbD_not, ← BitVec.testBit_toNat, ← BitVec.testBit_toNat, h1, h2, Nat.testBit_two_pow_sub_one, Nat.mul_comm, Nat.testBit_two_pow_mul, Nat.testBit_div_two_pow]
    by_cases hi : i < g
    · simp [hi]; omega
    · have hi2 : g ≤ i := by omega
      by_cases h64 : i < 64
      · simp [hi, hi2, h64]
      · have : z.testBit i = false := Nat.testBit_lt_two_pow (Nat.lt_of_lt_of_le hz (show 2 ^ 64 ≤ 2 ^ i from Nat.pow_le_pow_right (by decide) (by omega)))
        simp [hi, hi2, this]
  show IntKind.u64.wrap ((BitVec.ofInt 64 (z : Int) &&& ~~~ BitVec.ofInt 64 ((2 ^ g - 1 : Nat) : Int)).toNat : Nat) = _
  rw [key, IntKind.wrap_u64]
  have : z / 2 ^ g * 2 ^ g ≤ z := Nat.div_mul_le_self _ _
  omega
theorem sh_half (E : Nat) (h1 : 1023 ≤ E) (h2 : E < 1075) : (2251799813685248 : Nat) / 2 ^ (E - 1023) = 2 ^ (1074 - E) := by
  rw [show (2251799813685248 : Nat) = 2 ^ (1074 - E) * 2 ^ (E - 1023) from by rw [← Nat.pow_add, show 1074 - E + (E - 1023) = 51 from by omega], Nat.mul_div_cancel _ (Nat.pow_pos (by decide))]
theorem sh_mask (E : Nat) (h1 : 1023 ≤ E) (h2 : E < 1075) : (4503599627370495 : Nat) / 2 ^ (E - 1023) = 2 ^ (1075 - E) - 1 := by
  have hp : 0 < 2 ^ (E - 1023) := Nat.pow_pos (by decide)
  have e : (4503599627370496 : Nat) = 2 ^ (1075 - E) * 2 ^ (E - 1023) := by rw [← Nat.pow_add, show 1075 - E + (E - 1023) = 52 from by omega]
  have hq : 0 < 2 ^ (1075 - E) := Nat.pow_pos (by decide)
  generalize 2 ^ (E - 1023) = a at *
  generalize 2 ^ (1075 - E) = b at *
  refine Nat.div_eq_of_lt_le ?_ ?_
  · rw [Nat.sub_mul]; omega
  · rw [Nat.sub_add_cancel hq]; omega
set_option maxRecDepth 100000 in
set_option maxHeartbeats 1000000 in
theorem round_c (x : Nat) (hx : x < 18446744073709551616) (w : World) : Calls Tryz.prog 48 #[.float .f64 x] w fun e w' => e = .returned (.float .f64 (Fl.roundBits x)) ∧ w' = w := by
  have h59 := e59
  have h4 := e4
  obtain ⟨E, hE⟩ : ∃ E, E = x / 4503599627370496 % 2048 := ⟨_, rfl⟩
  have e1 : bits BinOp.and IntKind.u64 ((x : Int) / 4503599627370496) 2047 = E := by rw [u64_and2047]; omega
  have e1' : (x : Int) / 4503599627370496 % 2048 = (E : Int) := by omega
  have e2 := and_top x hx
  obtain ⟨R, hR⟩ : ∃ R, R = Fl.roundBits x := ⟨_, rfl⟩
  have KR := Lib.hid hR
  rw [← hR]
  unfold Fl.roundBits at hR
  rw [← hE] at hR
  by_cases c1 : E < 1023
  · rw [if_pos c1] at hR
    obtain ⟨t, ht⟩ : ∃ t, t = x / 9223372036854775808 := ⟨_, rfl⟩
    rw [← ht] at hR e2
    have ht2 : t = 0 ∨ t = 1 := by omega
    have e3 := or_one t ht2
    obtain ⟨T, hT⟩ : ∃ T, T = t * 9223372036854775808 := ⟨_, rfl⟩
    rw [← hT] at e2 e3 hR
    have q1 : (E : Int) < 1023 := by omega
    by_cases c2 : E = 1022
    · rw [if_pos c2] at hR
      rw [← hR] at e3
      have q2 : ((E : Int) == 1022) = true := by simp; omega
      clear hE hR KR ht ht2 hT c1 c2
      go_enter Tryz.func48, Tryz.ntmps48
      go_wp2_with fail
      go_returns
      exact ⟨by simp, rfl⟩
    · rw [if_neg c2, Nat.add_zero] at hR
      rw [← hR] at e2
      have q2 : ((E : Int) == 1022) = false := by simp; omega
      clear hE hR KR ht ht2 hT c1 c2 e3
      go_enter Tryz.func48, Tryz.ntmps48
      go_wp2_with fail
      go_returns
      exact ⟨by simp, rfl⟩
  · rw [if_neg c1] at hR
    have q1 : ¬ (E : Int) < 1023 := by omega
    by_cases c2 : E < 1075
    · rw [if_pos c2] at hR
      have q2 : (E : Int) < 1075 := by omega
      obtain ⟨e, he⟩ : ∃ e, e = E - 1023 := ⟨_, rfl⟩
      have q3 : (E : Int) - 1023 = (e : Int) := by omega
      have q4 : IntKind.u64.wrap ((E : Int) - 1023) = (e : Int) := by rw [IntKind.wrap_u64]; omega
      obtain ⟨h, hh⟩ : ∃ h, h = 2 ^ (1074 - E) := ⟨_, rfl⟩
      have q5 : (2251799813685248 : Int) / 2 ^ e = (h : Int) := by
        rw [hh, ← sh_half E (by omega) c2, ← he, Int.natCast_ediv, Int.natCast_pow]; rfl
      obtain ⟨m, hm⟩ : ∃ m, m = 2 ^ (1075 - E) - 1 := ⟨_, rfl⟩
      have q6 : (4503599627370495 : Int) / 2 ^ e = (m : Int) := by
        rw [hm, ← sh_mask E (by omega) c2, ← he, Int.natCast_ediv, Int.natCast_pow]; rfl
      have hhl : h ≤ 2251799813685248 := by
        rw [hh]; exact Nat.le_trans (Nat.pow_le_pow_right (by decide) (show 1074 - E ≤ 51 by omega)) (by decide)
      obtain ⟨z, hz⟩ : ∃ z, z = x + h := ⟨_, rfl⟩
      have hzl : z < 18446744073709551616 := by omega
      have q7 : (x : Int) + (h : Int) = (z : Int) := by omega
      have q8 : IntKind.u64.wrap ((x : Int) + (h : Int)) = (z : Int) := by rw [IntKind.wrap_u64]; omega
      have q9 : bits .andNot .u64 (z : Int) (m : Int) = (R : Int) := by
        rw [hm, andNot_low z (1075 - E) (by omega) hzl, hR, hz, hh]
      have q10 : e ≤ 51 := by omega
      clear hE hR KR he hh hm hz e2 c1 c2
      go_enter Tryz.func48, Tryz.ntmps48
      go_wp2_with fail
      go_returns
      exact ⟨by simp, rfl⟩
    · rw [if_neg c2] at hR
      have q2 : ¬ (E : Int) < 1075 := by omega
      subst hR
      clear hE KR e2 c1 c2
      go_enter Tryz.func48, Tryz.ntmps48
      go_wp2_with fail
      go_returns
      exact ⟨by simp, rfl⟩
end Go.Proofs.YtldejfallphhbaaGreatDoor
