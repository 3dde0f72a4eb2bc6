/-
  A part of the proof of FnMathWhole (packed out of smaller texts by a program of this session; what the proof does not reach is left out).
-/
import Derived.Test.YtldejfallphhbaaGreatDoorZ9
import Derived.Test.YtldejfallphhbaaGreatDoorZ7
import Derived.StillTailTactics
import Derived.Laws.BitsAllLaws
import Derived.Lib.EndianBits
import Derived.Laws.Bits64b
import Derived.Deep.RegionWith
import Derived.Lib.SliceRun
namespace Go.Proofs.YtldejfallphhbaaGreatDoor
set_option linter.unusedVariables false
open Go.RowKit
theorem split64 (s : Nat) (hs : s ≤ 64) : 18446744073709551616 = 2 ^ (64 - s) * 2 ^ s := by
  rw [← Nat.pow_add, Nat.sub_add_cancel hs]
theorem lsh_wd (X s i : Nat) (hs : s ≤ 64) : wd (X * 2 ^ s) (i + 1) = wd X (i + 1) * 2 ^ s % 18446744073709551616 + wd X i / 2 ^ (64 - s) := by
  unfold wd
  have hp : 0 < 2 ^ s := Nat.pow_pos (by decide)
  have hq : 0 < 2 ^ (64 - s) := Nat.pow_pos (by decide)
  obtain ⟨P, hP⟩ : ∃ P, P = 18446744073709551616 ^ i := ⟨_, rfl⟩
  have hPp : 0 < P := by rw [hP]; exact bp_pos i
  have e1 : 18446744073709551616 ^ (i + 1) = P * 18446744073709551616 := by rw [Nat.pow_succ, hP]
  rw [e1, ← hP]
  obtain ⟨u, hu⟩ : ∃ u, u = 2 ^ (64 - s) := ⟨_, rfl⟩
  obtain ⟨v, hv⟩ : ∃ v, v = 2 ^ s := ⟨_, rfl⟩
  have hW : 18446744073709551616 = u * v := by rw [hu, hv]; exact split64 s hs
  rw [← hu, ← hv]
  rw [← hu] at hq
  rw [← hv] at hp
  have e2 : X * v / (P * 18446744073709551616) = X / P / u := by
    rw [hW, ← Nat.mul_assoc, Nat.mul_div_mul_right _ _ hp, Nat.div_div_eq_div_mul]
  have e3 : X / (P * 18446744073709551616) = X / P / 18446744073709551616 := by rw [Nat.div_div_eq_div_mul]
  rw [e2, e3]
  generalize X / P = Y
  have e4 := Nat.div_add_mod Y 18446744073709551616
  generalize Y / 18446744073709551616 = Z at *
  generalize hr : Y % 18446744073709551616 = r at *
  have hrl : r < u * v := by rw [← hW, ← hr]; exact Nat.mod_lt _ (by decide)
  have e5 : Y / u = r / u + v * Z := by
    rw [← e4, hW, Nat.mul_assoc, Nat.add_comm, Nat.add_mul_div_left _ _ hq]
  have hru : r / u < v := Nat.div_lt_of_lt_mul hrl
  rw [e5]
  have e6 : Z % 18446744073709551616 * v % 18446744073709551616 = v * (Z % u) := by
    have : Z % 18446744073709551616 * v % 18446744073709551616 = Z * v % 18446744073709551616 := by rw [Nat.mod_mul_mod]
    rw [this, hW, Nat.mul_mod_mul_right, Nat.mul_comm]
  rw [e6]
  have e7 : v * Z = v * (Z % u) + u * v * (Z / u) := by
    conv => lhs; rw [← Nat.div_add_mod Z u]
    rw [Nat.mul_add, Nat.mul_comm u v, Nat.mul_assoc]; omega
  rw [e7, ← Nat.add_assoc, hW, Nat.add_mul_mod_self_left, Nat.mod_eq_of_lt, Nat.add_comm]
  have h1 : Z % u < u := Nat.mod_lt _ hq
  have h2 : v * (Z % u) + v ≤ v * u := by rw [← Nat.mul_succ]; exact Nat.mul_le_mul_left _ h1
  rw [Nat.mul_comm u v]
  omega
theorem lsh_wd0 (X s : Nat) : wd (X * 2 ^ s) 0 = wd X 0 * 2 ^ s % 18446744073709551616 := by
  unfold wd
  rw [Nat.pow_zero, Nat.div_one, Nat.div_one, Nat.mod_mul_mod]
theorem and63 (s : Nat) (h : s ≤ 63) : bits .and .u64 (s : Int) 63 = (s : Int) := by
  have e : bits .and .u64 (s : Int) ((63 : Nat) : Int) = ((s &&& 63 : Nat) : Int) := bits_and_u64_nat s 63 (by omega) (by decide)
  have e2 : s &&& 63 = s := by
    rw [show (63 : Nat) = 2 ^ 6 - 1 from by decide, Nat.and_two_pow_sub_one_eq_mod, Nat.mod_eq_of_lt (by omega)]
  rw [e2] at e
  exact e
theorem or_sh (a b s : Nat) (hs : 1 ≤ s) (hs2 : s ≤ 63) (hb : b < 18446744073709551616) : bits .or .u64 (((a * 2 ^ s % 18446744073709551616 : Nat)) : Int) ((b / 2 ^ (64 - s) : Nat) : Int) = ((a * 2 ^ s % 18446744073709551616 + b / 2 ^ (64 - s) : Nat) : Int) := by
  have h1 : a * 2 ^ s % 18446744073709551616 < 18446744073709551616 := Nat.mod_lt _ (by decide)
  have h2 : b / 2 ^ (64 - s) < 2 ^ s := Nat.div_lt_of_lt_mul (by rw [← split64 s (by omega)]; exact hb)
  have h3 : a * 2 ^ s % 18446744073709551616 % 2 ^ s = 0 := by
    rw [split64 s (by omega), Nat.mul_mod_mul_right, Nat.mul_mod_left]
  have h4 : (2 : Nat) ^ s ≤ 2 ^ 64 := Nat.pow_le_pow_right (by decide) (by omega)
  generalize a * 2 ^ s % 18446744073709551616 = x at *
  generalize b / 2 ^ (64 - s) = y at *
  have h := bits_join .u64 64 (by decide) wraps_u64 s (x : Int) (y : Int) (by omega) (by
      have : x % 2 ^ s = 0 := h3
      exact_mod_cast this) (by
      have : x < 2 ^ 64 := h1
      exact_mod_cast this) (by omega) (by exact_mod_cast h2) (by
      have : y < 2 ^ 64 := by omega
      exact_mod_cast this)
  rw [h]; omega
end Go.Proofs.YtldejfallphhbaaGreatDoor
namespace Go.Proofs.YtldejfallphhbaaGreatDoor
set_option linter.unusedVariables false
open Go.RowKit
structure LsInv (w wr : World) (bz oz bx ox n X s i N : Nat) : Prop where
  F : Fr w wr (Rg bz oz n)
  B : Blk wr bz N
  hi : ∀ j, i < j → j < n → wr.cell? ⟨bz, oz + j, none⟩ = some (.int .u64 ((wd (X * 2 ^ s) j : Nat) : Int))
  lo : ∀ j, j ≤ i → wr.cell? ⟨bx, ox + j, none⟩ = some (.int .u64 ((wd X j : Nat) : Int))
theorem LsInv.put {w wr : World} {bz oz bx ox n X s i N : Nat} (h : LsInv w wr bz oz bx ox n X s i N) (hN : oz + n ≤ N) (hi : i < n) (hne : (bx = bz ∧ ox = oz) ∨ bx ≠ bz) (q : Nat) (v : Nat) (hv : v = wd (X * 2 ^ s) i) :
    let w2 := (wr.drewN q).setCell ⟨bz, oz + i, none⟩ (.int .u64 (v : Int))
    Fr w w2 (Rg bz oz n) ∧ Blk w2 bz N ∧ (∀ j, i ≤ j → j < n → w2.cell? ⟨bz, oz + j, none⟩ = some (.int .u64 ((wd (X * 2 ^ s) j : Nat) : Int))) ∧ ∀ j, j < i → w2.cell? ⟨bx, ox + j, none⟩ = some (.int .u64 ((wd X j : Nat) : Int)) := by
  intro w2
  have hF : Fr wr w2 (Rg bz oz n) := ((Fr.refl wr (Rg bz oz n)).drewN q).set _ _ _ (fun _ => ⟨rfl, by omega, by omega⟩)
  refine ⟨h.F.trans hF (fun _ _ _ c => c), h.B.fr hF, fun j hj hjn => ?_, fun j hj => ?_⟩
  · by_cases e : j = i
    · subst e
      rw [← hv]
      exact (h.B.fr ((Fr.refl wr No).drewN q)).get _ (by omega) _
    · rw [cell_set_ne _ _ _ _ _ _ (by omega)]
      exact h.hi j (by omega) hjn
  · rw [cell_set_ne _ _ _ _ _ _ (by omega)]
    exact h.lo j (by omega)
theorem wrap_sh (x s : Nat) : IntKind.u64.wrap ((x : Int) * 2 ^ s) = ((x * 2 ^ s % 18446744073709551616 : Nat) : Int) := by
  rw [IntKind.wrap_u64, Int.natCast_emod, Int.natCast_mul, Int.natCast_pow]; rfl
theorem lsh_val (x1 x0 s : Nat) (hs : 1 ≤ s) (hs2 : s ≤ 63) (l0 : x0 < 18446744073709551616) : bits .or .u64 (IntKind.u64.wrap ((x1 : Int) * 2 ^ s)) ((x0 : Int) / 2 ^ (64 - s)) = ((x1 * 2 ^ s % 18446744073709551616 + x0 / 2 ^ (64 - s) : Nat) : Int) := by
  rw [wrap_sh, ← or_sh x1 x0 s hs hs2 l0]
  congr 1
set_option maxRecDepth 100000 in
set_option maxHeartbeats 1000000 in
theorem lshV_g (bz oz bx ox n X s cz cx N : Nat) (w : World) (hB : Blk w bz N) (hN : oz + n ≤ N) (hn : 1 ≤ n) (hn1 : n ≤ 1000) (hs : 1 ≤ s) (hs2 : s ≤ 63) (hX : Ws w bx ox n X) (hne : (bx = bz ∧ ox = oz) ∨ bx ≠ bz) :
    Calls Tryz.prog 185 #[.slice (some ⟨bz, oz, none⟩) n cz, .slice (some ⟨bx, ox, none⟩) n cx, .int .u64 s] w fun e w' => e = .returned (.int .u64 ((wd X (n - 1) / 2 ^ (64 - s) : Nat) : Int)) ∧ Ws w' bz oz n (X * 2 ^ s) ∧ Fr w w' (Rg bz oz n) := by
  have K0 : Hid (LsInv w w bz oz bx ox n X s (n - 1) N) := Lib.hid ⟨Fr.refl _ _, hB, fun j h1 h2 => by omega, fun j hj => hX j (by omega)⟩
  have ct := hX (n - 1) (by omega)
  have a1 := and63 s hs2
  have a2 := and63 (64 - s) (by omega)
  have e1 : ((s : Int) == 0) = false := by simp; omega
  have e2 : ((n : Int) == 0) = false := by simp; omega
  have e3 : (n : Int) - 1 = ((n - 1 : Nat) : Int) := by omega
  have e4 : (64 : Int) - (s : Int) = ((64 - s : Nat) : Int) := by omega
  have e5 : IntKind.u64.wrap ((64 : Int) - (s : Int)) = ((64 - s : Nat) : Int) := by rw [IntKind.wrap_u64]; omega
  have e6 : (s : Int) % 64 = (s : Int) := by omega
  have e7 : ((64 - s : Nat) : Int) % 64 = ((64 - s : Nat) : Int) := by omega
  have KX := Lib.hid hX
  clear hX hB
  go_enter Tryz.func185, Tryz.ntmps185
  go_wp2_with fail
  go_loopw [8] (fun v8 wr => ∃ i : Nat, v8 = .int .i64 i ∧ i < n ∧ Hid (LsInv w wr bz oz bx ox n X s i N)) (fun v8 _ => (intOf v8).toNat)
  case atStart => exact ⟨n - 1, rfl, by omega, K0⟩
  case round =>
    obtain ⟨i, rfl, hi, HR⟩ := hrel
    rcases Nat.eq_zero_or_pos i with rfl | hp
    · have c0 := HR.out.lo 0 (Nat.le_refl _)
      rw [Nat.add_zero] at c0
      have fz := HR.out.B.fz oz
      obtain ⟨v0, hv0⟩ := HR.out.B.here oz (by omega)
      have KV := Lib.hid (wrap_sh (wd X 0) s)
      have KP := Lib.hid (HR.out.put hN hi hne 0 _ rfl)
      clear a1 a2
      go_wp2_with fail
      go_returns
      refine ⟨by push_cast; rfl, ?_⟩
      rw [KV.out, ← lsh_wd0]
      obtain ⟨p1, p2, p3, p4⟩ := KP.out
      exact ⟨fun j hj => p3 j (by omega) hj, p1⟩
    · obtain ⟨k, hk⟩ : ∃ k, i = k + 1 := ⟨i - 1, by omega⟩
      have c1 := HR.out.lo i (Nat.le_refl _)
      have c0 := HR.out.lo k (by omega)
      have fz := HR.out.B.fz (oz + i)
      obtain ⟨v0, hv0⟩ := HR.out.B.here (oz + i) (by omega)
      have f1 : (i : Int) - 1 = (k : Int) := by omega
      have f2 : k < n := by omega
      have f3 : (0 : Int) < (i : Int) := by omega
      have f4 : i ≤ 1000 := by omega
      have f5 : (k : Int) < (n : Int) := by omega
      have f6 : (i : Int) < (n : Int) := by omega
      have f7 : (0 : Int) ≤ (k : Int) := by omega
      have f8 : ((k : Int)).toNat = k := by omega
      have f9 : IntKind.i64.wrap (k : Int) = (k : Int) := by rw [IntKind.wrap_i64]; omega
      have l1 := wd_lt X i
      have l0 := wd_lt X k
      obtain ⟨x1, hx1⟩ : ∃ x1, x1 = wd X i := ⟨_, rfl⟩
      obtain ⟨x0, hx0⟩ : ∃ x0, x0 = wd X k := ⟨_, rfl⟩
      rw [← hx1] at c1 l1
      rw [← hx0] at c0 l0
      have KK := Lib.hid (And.intro hk (And.intro hx1 hx0))
      clear hp a1 a2 ct hk hx1 hx0
      go_upto_region 13 with fail
      go_still_tail 16, (by kernel_rfl)
      change wpList _ _ _ _ _ wr.drew
      go_wp2_with fail
      have KV := Lib.hid (lsh_val x1 x0 s hs hs2 l0)
      have KP := Lib.hid (HR.out.put hN hi hne 0 _ rfl)
      go_roundw
      case rel =>
        refine ⟨k, rfl, f2, Lib.hid ?_⟩
        rw [KV.out, KK.out.2.1, KK.out.2.2, KK.out.1, ← lsh_wd X s k (by omega), ← KK.out.1]
        have hd := (Fr.refl (wr.setCell ⟨bz, oz + i, none⟩ (.int .u64 ((wd (X * 2 ^ s) i : Nat) : Int))) No).drew
        obtain ⟨p1, p2, p3, p4⟩ := KP.out
        exact ⟨p1.trans hd (fun _ _ _ c => c.elim), p2.fr hd, fun j h1 h2 => hd.keep (p3 j (by have := KK.out.1; omega) h2) (fun c => c), fun j h1 => hd.keep (p4 j (by have := KK.out.1; omega)) (fun c => c)⟩
      case measure => simp [intOf]; omega
theorem lshV_c (bz oz bx ox n X s cz cx N : Nat) (w : World) (hB : Blk w bz N) (hN : oz + n ≤ N) (hn : 1 ≤ n) (hn1 : n ≤ 1000) (hs : 1 ≤ s) (hs2 : s ≤ 63) (hX : Ws w bx ox n X) (hne : (bx = bz ∧ ox = oz) ∨ bx ≠ bz) :
    Calls Tryz.prog 164 #[.slice (some ⟨bz, oz, none⟩) n cz, .slice (some ⟨bx, ox, none⟩) n cx, .int .u64 s] w fun e w' => e = .returned (.int .u64 ((wd X (n - 1) / 2 ^ (64 - s) : Nat) : Int)) ∧ Ws w' bz oz n (X * 2 ^ s) ∧ Fr w w' (Rg bz oz n) := by
  have K := Lib.hid (lshV_g bz oz bx ox n X s cz cx N w hB hN hn hn1 hs hs2 hX hne)
  clear hX hB
  go_enter Tryz.func164, Tryz.ntmps164
  go_wp2_with fail
  with_reducible refine K.out.mono ?_
  rintro e w2 ⟨rfl, h⟩
  have KH := Lib.hid h
  clear h
  go_wp2_with fail
  go_returns
  exact ⟨rfl, KH.out⟩
end Go.Proofs.YtldejfallphhbaaGreatDoor
namespace Go.Proofs.YtldejfallphhbaaGreatDoor
set_option linter.unusedVariables false
open Go.RowKit
theorem zero143 (w : World) : (zeroValue 143).run Tryz.prog w = .ok (.int .u64 0) w := by kernel_rfl
theorem clear_ws (b c n N : Nat) (w : World) (hB : Blk w b N) (hN : n ≤ N) (hn : 1 ≤ n) :
    (∀ ty, (Builtin.clear_ #[101] ty #[.slice (some ⟨b, 0, none⟩) n c]).run Tryz.prog w = .ok (.tuple #[]) (w.setCells b 0 (wvs 0 n))) ∧ Ws (w.setCells b 0 (wvs 0 n)) b 0 n 0 ∧ Fr w (w.setCells b 0 (wvs 0 n)) (Rg b 0 n) := by
  have hrep : wvs 0 n = List.replicate n (.int .u64 0) := by
    apply List.ext_getElem?
    intro i
    by_cases h : i < n
    · rw [wvs_at _ _ _ h, List.getElem?_replicate, if_pos h, wd_zero]; rfl
    · rw [List.getElem?_eq_none (by rw [wvs_len]; omega), List.getElem?_eq_none (by simp; omega)]
  have hcell : ∀ j, j < n → (w.cell? ⟨b, 0 + j, none⟩).isSome = true := fun j hj => by
    obtain ⟨v, hv⟩ := hB.here (0 + j) (by omega)
    rw [hv]; rfl
  refine ⟨fun ty => ?_, fun i hi => ?_, Fr.setCells b _ 0 w (Fr.refl _ _) (fun j hj _ => by rw [wvs_len] at hj; exact ⟨rfl, by omega, by omega⟩)⟩
  · rw [hrep]
    exact Lib.run_clear_slice w 101 143 ty (.int .u64 0) Tryz.underlying101 zero143 rfl rfl b 0 n c (by omega) hcell (fun j _ => hB.fz _)
  · have h := World.cell?_setCells_in b (wvs 0 n) 0 w (fun j hj => by rw [wvs_len] at hj; exact hcell j hj) i (by rw [wvs_len]; exact hi)
    rw [h]
    have := wvs_at 0 n i hi
    rw [List.getElem?_eq_getElem (by rw [wvs_len]; exact hi)] at this
    exact this
theorem clear_0 (A : Option Addr) (c : Nat) (w : World) (ty : TypeId) : (Builtin.clear_ #[101] ty #[.slice A 0 c]).run Tryz.prog w = .ok (.tuple #[]) w := by
  cases A <;> kernel_rfl
theorem ws_one {w : World} {b x : Nat} (hx : x < 18446744073709551616) (h : w.cell? ⟨b, 0, none⟩ = some (.int .u64 (x : Int))) : Ws w b 0 1 x := fun i hi => by
  obtain rfl : i = 0 := by omega
  rw [Nat.zero_add, h]
  unfold wd
  rw [Nat.pow_zero, Nat.div_one, Nat.mod_eq_of_lt hx]
theorem make1_c (w : World) : Calls Tryz.prog 105 #[.slice none 0 0, .int .i64 1] w fun e w' => e = .returned (.slice (some ⟨w.heap.size, 0, none⟩) 1 1) ∧ w' = w.alloc (.cells (mkw 1) 143) := by
  have hm1 : ∀ w : World, (Instr.makeSlice 101 (.int .i64 1) (.int .i64 1)).run Tryz.prog w = .ok (.slice (some ⟨w.heap.size, 0, none⟩) 1 1) (w.alloc (.cells (mkw 1) 143)) := mkw_c 1 1 (by omega) (by omega)
  go_enter Tryz.func105, Tryz.ntmps105
  go_wp2_with fail
  go_returns
  exact ⟨rfl, rfl⟩
theorem setWord1_c (x : Nat) (hx : 1 ≤ x) (hx1 : x < 18446744073709551616) (w : World) :
    Calls Tryz.prog 148 #[.slice none 0 0, .int .u64 x] w fun e w' => e = .returned (.slice (some ⟨w.heap.size, 0, none⟩) 1 1) ∧ Hid (Blk w' w.heap.size 1 ∧ Ws w' w.heap.size 0 1 x ∧ Fr w w' No) := by
  have KM := Lib.hid (make1_c w)
  have h0 : ¬ x = 0 := by omega
  have hB := Blk.new w (mkw 1) 143 1 (mkw_size 1)
  have fz := hB.fz 0
  obtain ⟨z, hz⟩ := hB.here 0 (by omega)
  have KH : Hid (Blk (w.alloc (.cells ((mkw 1).setIfInBounds 0 (.int .u64 x)) 143)) w.heap.size 1 ∧ Ws (w.alloc (.cells ((mkw 1).setIfInBounds 0 (.int .u64 x)) 143)) w.heap.size 0 1 x ∧ Fr w (w.alloc (.cells ((mkw 1).setIfInBounds 0 (.int .u64 x)) 143)) No) := Lib.hid
    ⟨Blk.new w _ 143 1 (by rw [Array.size_setIfInBounds, mkw_size]), ws_one hx1 (cell_new w _ 143 0 _ (by rw [Array.getElem?_setIfInBounds]; simp [mkw_size])), new40 w _ 143⟩
  clear hx hx1 hB
  go_enter Tryz.func148, Tryz.ntmps148
  go_wp2_with fail
  with_reducible refine KM.out.mono ?_
  rintro e w1 ⟨rfl, rfl⟩
  go_wp2_with fail
  go_returns
  exact ⟨rfl, KH⟩
theorem wd_shl (Y t j : Nat) : wd (Y * 18446744073709551616 ^ t) j = if j < t then 0 else wd Y (j - t) := by
  have h := wd_low Y 0 t
  have h2 := wd_high Y 0 t
  split
  · rename_i hj
    have := wd_low Y 0 t j hj
    rw [Nat.zero_mod, Nat.add_zero] at this
    rw [this, wd_zero]
  · rename_i hj
    obtain ⟨k, rfl⟩ : ∃ k, j = t + k := ⟨j - t, by omega⟩
    have := wd_high Y 0 t k
    rw [Nat.zero_mod, Nat.add_zero] at this
    rw [this, Nat.add_sub_cancel_left]
theorem sh_split (m s : Nat) : m * 2 ^ s = m * 2 ^ (s % 64) * 18446744073709551616 ^ (s / 64) := by
  rw [Nat.mul_assoc, pow64, ← Nat.pow_add]
  congr 2
  omega
theorem lsh_words {w : World} {b t : Nat} {Y : Nat} (hY : Y < 18446744073709551616 ^ 2) (h0 : ∀ j, j < t → w.cell? ⟨b, j, none⟩ = some (.int .u64 0)) (h1 : w.cell? ⟨b, t, none⟩ = some (.int .u64 ((wd Y 0 : Nat) : Int))) (h2 : w.cell? ⟨b, t + 1, none⟩ = some (.int .u64 ((wd Y 1 : Nat) : Int))) :
    Ws w b 0 (t + 2) (Y * 18446744073709551616 ^ t) := fun i hi => by
  rw [Nat.zero_add, wd_shl]
  by_cases h : i < t
  · rw [if_pos h, h0 i h]; rfl
  · rw [if_neg h]
    have : i = t ∨ i = t + 1 := by omega
    rcases this with rfl | rfl
    · rw [Nat.sub_self]; exact h1
    · rw [Nat.add_sub_cancel_left]; exact h2
end Go.Proofs.YtldejfallphhbaaGreatDoor
namespace Go.Proofs.YtldejfallphhbaaGreatDoor
set_option linter.unusedVariables false
open Go.RowKit
structure Lm (w w1 : World) (bx m b c t : Nat) : Prop where
  B : Blk w1 b c
  c : t + 2 ≤ c ∧ c ≤ 4000
  N : w.heap.size ≤ b
  F : Fr w w1 No
  x : w1.cell? ⟨bx, 0, none⟩ = some (.int .u64 (m : Int))
  ne : b ≠ bx
theorem lm_make {w : World} {bx m t : Nat} (hB : Blk w bx 1) (hx : w.cell? ⟨bx, 0, none⟩ = some (.int .u64 (m : Int))) (ht : t ≤ 40) :
    Calls Tryz.prog 105 #[.slice (some ⟨bx, 0, none⟩) 1 1, .int .i64 ((t : Int) + 2)] w fun e w1 => ∃ b c, e = .returned (.slice (some ⟨b, 0, none⟩) (t + 2) c) ∧ Hid (Lm w w1 bx m b c t) := by
  rw [show ((t : Int) + 2) = ((t + 2 : Nat) : Int) from by omega]
  refine (make_c (.slice (some ⟨bx, 0, none⟩) 1 1) bx (t + 2) (by omega) (by omega) w (Or.inr ⟨1, 1, rfl, by omega, by omega, hB⟩)).mono ?_
  rintro e w1 ⟨b, c, rfl, h1, h2, h3, h4, h5⟩
  have hlt := hB.lt
  have hb : w.heap.size ≤ b := by
    rcases h3 with ⟨rfl, _⟩ | ⟨h, _⟩
    · obtain ⟨a1, T1, e1, s1⟩ := hB.fr h5
      obtain ⟨a2, T2, e2, s2⟩ := h4
      rw [e1] at e2
      simp only [Option.some.injEq, Obj.cells.injEq] at e2
      obtain ⟨rfl, _⟩ := e2
      omega
    · exact h
  exact ⟨b, c, rfl, Lib.hid ⟨h4, ⟨h1, h2⟩, hb, h5, h5.keep hx (fun c => c), by omega⟩⟩
structure Lp (w w2 : World) (b c t Y : Nat) : Prop where
  B : Blk w2 b c
  c : t + 2 ≤ c ∧ c ≤ 4000
  N : w.heap.size ≤ b
  F : Fr w w2 No
  x0 : w2.cell? ⟨b, t, none⟩ = some (.int .u64 ((wd Y 0 : Nat) : Int))
  x1 : w2.cell? ⟨b, t + 1, none⟩ = some (.int .u64 ((wd Y 1 : Nat) : Int))
theorem lp_norm {w w2 w3 : World} {b c t Y : Nat} (h : Lp w w2 b c t Y) (hY : Y < 18446744073709551616 ^ 2) (ht : t ≤ 40) (h0 : ∀ j, j < t → w3.cell? ⟨b, j, none⟩ = some (.int .u64 0)) (hF : Fr w2 w3 (Rg b 0 t)) :
    Calls Tryz.prog 107 #[.slice (some ⟨b, 0, none⟩) (t + 2) c] w3 fun e w' => ∃ k, e = .returned (.slice (some ⟨b, 0, none⟩) k c) ∧ Hid (k ≤ t + 2 ∧ Nrm (Y * 18446744073709551616 ^ t) k ∧ Ws w' b 0 k (Y * 18446744073709551616 ^ t) ∧ Blk w' b c ∧ c ≤ 4000 ∧ t + 2 ≤ c ∧ w.heap.size ≤ b ∧ Fr w w' No) := by
  have hc := h.c
  have hW : Ws w3 b 0 (t + 2) (Y * 18446744073709551616 ^ t) := lsh_words hY h0 (hF.keep h.x0 (fun c => by have : b = b ∧ 0 ≤ t ∧ t < 0 + t := c; omega)) (hF.keep h.x1 (fun c => by have : b = b ∧ 0 ≤ t + 1 ∧ t + 1 < 0 + t := c; omega))
  have hlt : Y * 18446744073709551616 ^ t < 18446744073709551616 ^ (t + 2) := by
    rw [Nat.add_comm t 2, Nat.pow_add]
    exact Nat.mul_lt_mul_of_pos_right hY (bp_pos t)
  refine (norm_c b 0 (t + 2) c _ w3 (by omega) hc.1 hW hlt).mono ?_
  rintro e w' ⟨k, rfl, hk, hN, rfl⟩
  exact ⟨k, rfl, Lib.hid ⟨hk, hN, hW.less hk, h.B.fr hF, hc.2, hc.1, h.N, h.F.trans hF (fun k j hkw c => by have : k = b ∧ _ := c; have := h.N; omega)⟩⟩
theorem Lm.shift {w w1 w2 : World} {bx m b c t r : Nat} {hi : Nat} (h : Lm w w1 bx m b c t) (hm : m < 18446744073709551616) (hr : 1 ≤ r) (hr2 : r ≤ 63) (hW : Ws w2 b t 1 (m * 2 ^ r)) (hF : Fr w1 w2 (Rg b t 1)) (hhi : hi = wd m (1 - 1) / 2 ^ (64 - r)) :
    w2.frozen? ⟨b, 1 + t, none⟩ = false ∧ (∃ z, w2.cell? ⟨b, 1 + t, none⟩ = some z) ∧ Hid (Lp w (w2.setCell ⟨b, 1 + t, none⟩ (.int .u64 (hi : Int))) b c t (m * 2 ^ r)) := by
  rw [Nat.add_comm 1 t]
  have hB := h.B.fr hF
  have hc := h.c
  refine ⟨hB.fz _, hB.here _ (by omega), Lib.hid ?_⟩
  have hF2 : Fr w2 (w2.setCell ⟨b, t + 1, none⟩ (.int .u64 (hi : Int))) (Al b) := (Fr.refl _ _).set _ _ _ (fun _ => rfl)
  have hv : hi = wd (m * 2 ^ r) 1 := by
    rw [hhi, lsh_wd m r 0 (by omega)]
    have : wd m 1 = 0 := wd_zero_of_lt m 1 (by rwa [Nat.pow_one])
    rw [this, Nat.zero_mul, Nat.zero_mod, Nat.zero_add]
  have hN := h.N
  refine ⟨hB.fr hF2, hc, hN, ?_, ?_, ?_⟩
  · exact (h.F.trans hF (fun k j hk c => by have : k = b ∧ _ := c; omega)).trans hF2 (fun k j hk c => by have : k = b := c; omega)
  · rw [cell_set_ne _ _ _ _ _ _ (by omega)]; exact hW 0 (by omega)
  · rw [← hv]; exact hB.get _ (by omega) _
theorem Lm.whole {w w1 : World} {bx m b c t : Nat} (h : Lm w w1 bx m b c t) (hm : m < 18446744073709551616) :
    (∀ ty, (Builtin.copy_ #[101, 101] ty #[.slice (some ⟨b, t, none⟩) 1 (c - t), .slice (some ⟨bx, 0, none⟩) 1 1]).run Tryz.prog w1 = .ok (.int .i64 1) (w1.setCells b t (wvs m 1))) ∧ (w1.setCells b t (wvs m 1)).frozen? ⟨b, 1 + t, none⟩ = false ∧ (∃ z, (w1.setCells b t (wvs m 1)).cell? ⟨b, 1 + t, none⟩ = some z) ∧ Hid (Lp w ((w1.setCells b t (wvs m 1)).setCell ⟨b, 1 + t, none⟩ (.int .u64 0)) b c t (m * 2 ^ 0)) := by
  rw [Nat.add_comm 1 t]
  have hc := h.c
  obtain ⟨g1, g2, g3⟩ := copy_o b t (c - t) bx 0 1 1 c m w1 h.B (by omega) (ws_one hm h.x)
  have hF := g3 w1 (Rg b t 1) (Fr.refl _ _) (fun j hj _ => ⟨rfl, by omega, by omega⟩)
  have hB := h.B.fr hF
  refine ⟨g1, hB.fz _, hB.here _ (by omega), Lib.hid ?_⟩
  have hF2 : Fr (w1.setCells b t (wvs m 1)) ((w1.setCells b t (wvs m 1)).setCell ⟨b, t + 1, none⟩ (.int .u64 0)) (Al b) := (Fr.refl _ _).set _ _ _ (fun _ => rfl)
  have hN := h.N
  refine ⟨hB.fr hF2, hc, hN, ?_, ?_, ?_⟩
  · exact (h.F.trans hF (fun k j hk c => by have : k = b ∧ _ := c; omega)).trans hF2 (fun k j hk c => by have : k = b := c; omega)
  · rw [cell_set_ne _ _ _ _ _ _ (by omega), Nat.pow_zero, Nat.mul_one]; exact g2 0 (by omega)
  · rw [Nat.pow_zero, Nat.mul_one, show wd m 1 = 0 from wd_zero_of_lt m 1 (by rwa [Nat.pow_one])]; exact hB.get _ (by omega) _
def LshP (w : World) (m s : Nat) (e : Ending) (w' : World) : Prop := ∃ b k c, e = .returned (.slice (some ⟨b, 0, none⟩) k c) ∧ Hid (k ≤ 34 ∧ k ≤ c ∧ c ≤ 4000 ∧ Nrm (m * 2 ^ s) k ∧ Ws w' b 0 k (m * 2 ^ s) ∧ Blk w' b c ∧ w.heap.size ≤ b ∧ Fr w w' No)
theorem lsh_end {w w' : World} {m s k b c : Nat} (ht : s / 64 ≤ 32) (h : Hid (k ≤ s / 64 + 2 ∧ Nrm (m * 2 ^ (s % 64) * 18446744073709551616 ^ (s / 64)) k ∧ Ws w' b 0 k (m * 2 ^ (s % 64) * 18446744073709551616 ^ (s / 64)) ∧ Blk w' b c ∧ c ≤ 4000 ∧ s / 64 + 2 ≤ c ∧ w.heap.size ≤ b ∧ Fr w w' No)) :
    LshP w m s (.returned (.slice (some ⟨b, 0, none⟩) k c)) w' := by
  have h' := h.out
  rw [← sh_split] at h'
  obtain ⟨a1, a2, a3, a4, a5, a6, a7, a8⟩ := h'
  exact ⟨b, k, c, rfl, Lib.hid ⟨by omega, by omega, a5, a2, a3, a4, a7, a8⟩⟩
theorem sh2_lt {m r : Nat} (hm : m < 18446744073709551616) (hr : r ≤ 63) : m * 2 ^ r < 18446744073709551616 ^ 2 := by
  rw [Nat.pow_two]
  exact Nat.mul_lt_mul'' hm (Nat.lt_of_le_of_lt (Nat.pow_le_pow_right (by decide) hr) (by decide))
set_option maxRecDepth 100000 in
set_option maxHeartbeats 1000000 in
theorem lsh1_c (bx m s : Nat) (w : World) (hB : Blk w bx 1) (hx : w.cell? ⟨bx, 0, none⟩ = some (.int .u64 (m : Int))) (hm : m < 18446744073709551616) (hs : 1 ≤ s) (hs2 : s ≤ 2000) :
    Calls Tryz.prog 147 #[.slice (some ⟨bx, 0, none⟩) 1 1, .slice (some ⟨bx, 0, none⟩) 1 1, .int .u64 s] w (LshP w m s) := by
  obtain ⟨t, ht⟩ : ∃ t, t = s / 64 := ⟨_, rfl⟩
  obtain ⟨r, hr⟩ : ∃ r, r = s % 64 := ⟨_, rfl⟩
  have KM := Lib.hid (lm_make (t := t) hB hx (by omega))
  have e1 : ((s : Int) == 0) = false := by simp; omega
  have e2 : (s : Int) / 64 = (t : Int) := by omega
  have e3 : (s : Int) % 64 = (r : Int) := by omega
  have e4 : (1 : Int) + (t : Int) + 1 = ((t + 2 : Nat) : Int) := by omega
  have t1 : t ≤ 32 := by omega
  have r1 : r ≤ 63 := by omega
  have KT := Lib.hid (And.intro ht hr)
  have KE := Lib.hid (fun (k b c : Nat) (w' : World) => lsh_end (w := w) (w' := w') (m := m) (s := s) (k := k) (b := b) (c := c) (by omega))
  rw [← ht, ← hr] at KE
  clear hB hx ht hr
  have t2 : ((t : Int) + 1 : Int) = ((t + 1 : Nat) : Int) := by omega
  rcases Nat.eq_zero_or_pos r with rfl | hr
  · have t0 : 1 ≤ t := by have := KT.out; omega
    have q0 : (0 : Int) < (t : Int) := by omega
    go_enter Tryz.func147, Tryz.ntmps147
    go_wp2_with fail
    with_reducible refine KM.out.mono ?_
    rintro e w1 ⟨b, c, rfl, HM⟩
    obtain ⟨cp, fz1, ⟨z1, hz1⟩, HP⟩ := HM.out.whole hm
    have hc1 := HM.out.c.1
    have hct : ¬ c = t := by omega
    have hct2 : t ≤ c := by omega
    have hct3 : t + 1 ≤ c := by omega
    obtain ⟨k1, k2, k3⟩ := clear_ws b c t c _ HP.out.B (by omega) t0
    have KN := Lib.hid (lp_norm HP.out (sh2_lt hm (by decide)) (by omega) (fun j hj => by have := k2 j hj; rwa [Nat.zero_add, wd_zero] at this) k3)
    clear k2 k3
    go_wp2_with fail
    with_reducible refine KN.out.mono ?_
    rintro e w4 ⟨k, rfl, H4⟩
    have KL := Lib.hid (KE.out k b c w4 H4)
    clear H4
    go_wp2_with fail
    go_returns
    exact KL.out
  · have r0 : ((r : Int) == 0) = false := by simp; omega
    have r2 : ¬ (r : Int) = 0 := by omega
    obtain ⟨hi, hhi⟩ : ∃ hi, hi = wd m (1 - 1) / 2 ^ (64 - r) := ⟨_, rfl⟩
    have KI := Lib.hid hhi
    rcases Nat.eq_zero_or_pos t with rfl | t0
    · rw [show (((0 : Nat) : Int) + 2) = 2 from by decide] at KM
      clear hhi
      go_enter Tryz.func147, Tryz.ntmps147
      go_wp2_with fail
      with_reducible refine KM.out.mono ?_
      rintro e w1 ⟨b, c, rfl, HM⟩
      have hc1 := HM.out.c.1
      have KS := Lib.hid (lshV_c b 0 bx 0 1 m r c 1 c w1 HM.out.B (by omega) (by omega) (by omega) hr r1 (ws_one hm HM.out.x) (Or.inr (Ne.symm HM.out.ne)))
      rw [← KI.out] at KS
      go_wp2_with fail
      with_reducible refine KS.out.mono ?_
      rintro e w2 ⟨rfl, hW, hF⟩
      obtain ⟨fz1, ⟨z1, hz1⟩, HP⟩ := HM.out.shift hm hr r1 hW hF KI.out
      have k1 := fun ty => clear_0 (some ⟨b, 0, none⟩) c (w2.setCell ⟨b, 1 + 0, none⟩ (.int .u64 (hi : Int))) ty
      have KN := Lib.hid (lp_norm HP.out (sh2_lt hm r1) (by omega) (fun j hj => by omega) (Fr.refl _ _))
      clear hW hF
      go_wp2_with fail
      with_reducible refine KN.out.mono ?_
      rintro e w4 ⟨k, rfl, H4⟩
      have KL := Lib.hid (KE.out k b c w4 H4)
      clear H4
      go_wp2_with fail
      go_returns
      exact KL.out
    · have q0 : (0 : Int) < (t : Int) := by omega
      clear hhi
      go_enter Tryz.func147, Tryz.ntmps147
      go_wp2_with fail
      with_reducible refine KM.out.mono ?_
      rintro e w1 ⟨b, c, rfl, HM⟩
      have hc1 := HM.out.c.1
      have hct : ¬ c = t := by omega
      have hct2 : t ≤ c := by omega
      have hct3 : t + 1 ≤ c := by omega
      have KS := Lib.hid (lshV_c b t bx 0 1 m r (c - t) 1 c w1 HM.out.B (by omega) (by omega) (by omega) hr r1 (ws_one hm HM.out.x) (Or.inr (Ne.symm HM.out.ne)))
      rw [← KI.out] at KS
      go_wp2_with fail
      with_reducible refine KS.out.mono ?_
      rintro e w2 ⟨rfl, hW, hF⟩
      obtain ⟨fz1, ⟨z1, hz1⟩, HP⟩ := HM.out.shift hm hr r1 hW hF KI.out
      obtain ⟨k1, k2, k3⟩ := clear_ws b c t c _ HP.out.B (by omega) t0
      have KN := Lib.hid (lp_norm HP.out (sh2_lt hm r1) (by omega) (fun j hj => by have := k2 j hj; rwa [Nat.zero_add, wd_zero] at this) k3)
      clear k2 k3 hW hF
      go_wp2_with fail
      with_reducible refine KN.out.mono ?_
      rintro e w4 ⟨k, rfl, H4⟩
      have KL := Lib.hid (KE.out k b c w4 H4)
      clear H4
      go_wp2_with fail
      go_returns
      exact KL.out
end Go.Proofs.YtldejfallphhbaaGreatDoor
