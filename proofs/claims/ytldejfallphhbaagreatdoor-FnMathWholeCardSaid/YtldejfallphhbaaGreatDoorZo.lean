/-
  A part of the proof of FnMathWhole (packed out of smaller texts by a program of this session; what the proof does not reach is left out).
-/
import Derived.Test.YtldejfallphhbaaGreatDoorZn
import Derived.BigRegion
import Derived.Deep.RegionHeld3
import Derived.Deep.RegionWith
import Derived.Deep.DeepCutAuto
namespace Go.Proofs.YtldejfallphhbaaGreatDoor
set_option linter.unusedVariables false
set_option exponentiation.threshold 4000
open Go.RowKit Go.Proofs.YtldejfallphhbaaGreatDoorW.PrintWords Go.Proofs.YtldejfallphhbaaGreatDoorW.PrintLast Go.Proofs.YtldejfallphhbaaGreatDoorW.PrintMore
namespace Ref
theorem rsh_small (l : List Int) (N n : Nat) (h : Can l N) (hn : 8 * l.length < n) : N / 2 ^ n = 0 := by
  have h1 := val_lt h.byt
  rw [h.val, show (256 : Nat) = 2 ^ 8 from by decide, ← Nat.pow_mul] at h1
  exact Nat.div_eq_of_lt (Nat.lt_of_lt_of_le h1 (Nat.pow_le_pow_right (by decide) (by omega)))
end Ref
theorem pow_sm (n : Nat) (h : n ≤ 3199) : Sm ((2 ^ n : Nat) : Int) := by
  unfold Sm
  rw [Int.natAbs_natCast, show (256 : Nat) = 2 ^ 8 from by decide, ← Nat.pow_mul]
  exact Nat.pow_lt_pow_right (by decide) (by omega)
theorem blk_facts {w : World} {b : Nat} (h : Blk w b 2) : w.frozen? ⟨b, 0, none⟩ = false ∧ w.frozen? ⟨b, 1, none⟩ = false ∧ (∃ v, w.cell? ⟨b, 0, none⟩ = some v) ∧ (∃ v, w.cell? ⟨b, 1, none⟩ = some v) ∧ ¬ b = w.heap.size ∧ ¬ w.heap.size = b :=
  ⟨h.fz 0, h.fz 1, h.here 0 (by decide), h.here 1 (by decide), by have := h.lt; omega, by have := h.lt; omega⟩
theorem blk_twoB (w w3 : World) (h : Fr ((w.alloc (.cells #[.bool false, .slice none 0 0] 31)).alloc (.cells #[.bool false, .slice none 0 0] 31)) w3 No) : Blk w3 (w.heap.size + 1) 2 := by
  have := (Blk.new (w.alloc (.cells #[.bool false, .slice none 0 0] 31)) #[.bool false, .slice none 0 0] 31 2 rfl).fr h
  rwa [size_new] at this
theorem blk_two (w w3 : World) (h : Fr ((w.drew.alloc (.cells #[.bool false, .slice none 0 0] 31)).alloc (.cells #[.bool false, .slice none 0 0] 31)) w3 No) : Blk w3 (w.heap.size + 1) 2 := blk_twoB w.drew w3 h
def Sr (w : World) (lo hi : Nat) (v : Value) (z : Int) : Prop := ∃ s A c l, v = .agg #[.bool s, .slice A l.length c] ∧ Rb w A c l ∧ Ref.Is s l z ∧ ∀ ad, A = some ad → 0 < l.length → lo ≤ ad.block ∧ ad.block < hi
theorem Sr.of {w : World} {lo : Nat} {v : Value} {z : Int} (h : Sq w lo v z) : Sr w lo w.heap.size v z := by
  obtain ⟨s, A, c, l, rfl, h1, h2, h3⟩ := h
  refine ⟨s, A, c, l, rfl, h1, h2, fun ad ha hn => ⟨h3 ad ha hn, ?_⟩⟩
  obtain ⟨⟨-, -, h4⟩, -⟩ := h1
  obtain ⟨a, ha', h5⟩ := h4 hn
  obtain rfl := Option.some.inj (ha.symm.trans ha')
  obtain ⟨vs, hk, hs, h6⟩ := h5 0 _ (List.getElem?_eq_getElem hn)
  have h7 : vs.length = 1 := hk
  have h8 := h6 0 vs[0] (List.getElem?_eq_getElem (by omega))
  refine Nat.lt_of_not_le (fun hle => ?_)
  rw [show w.cell? (ad.add (0 * (Kd.int .u8).sz + 0)) = none from by
    have : w.heap[(ad.add (0 * (Kd.int .u8).sz + 0)).block]? = none := Array.getElem?_eq_none hle
    simp only [World.cell?, this]] at h8
  cases h8
theorem Sr.sq {w : World} {lo hi : Nat} {v : Value} {z : Int} (h : Sr w lo hi v z) : Sq w lo v z := by
  obtain ⟨s, A, c, l, rfl, h1, h2, h3⟩ := h
  exact ⟨s, A, c, l, rfl, h1, h2, fun ad ha hn => (h3 ad ha hn).1⟩
theorem Sr.alloc {w : World} {lo hi : Nat} {v : Value} {z : Int} (h : Sr w lo hi v z) (o : Obj) : Sr (w.alloc o) lo hi v z := by
  obtain ⟨s, A, c, l, rfl, h1, h2, h3⟩ := h
  exact ⟨s, A, c, l, rfl, h1.fr ((Fr.refl _ _).alloc o), h2, h3⟩
theorem Sr.set {w : World} {lo hi : Nat} {v : Value} {z : Int} (h : Sr w lo hi v z) (g i : Nat) (u : Value) (hg : g < lo ∨ hi ≤ g) : Sr (w.setCell ⟨g, i, none⟩ u) lo hi v z := by
  obtain ⟨s, A, c, l, rfl, h1, h2, h3⟩ := h
  exact ⟨s, A, c, l, rfl, ⟨Kd.C_keep 0 h1.1 ((KeepBut.refl w g none).set_ i u) (fun ad ha hn => by have := h3 ad ha hn; omega), h1.2⟩, h2, h3⟩
theorem quo2_c (u : Value) (N n : Nat) (w w2 wx : World) (hu : Sp w u (N : Int)) (hN : Sm (N : Int)) (v : Value) (hv : Sp w2 v ((2 ^ n : Nat) : Int)) (hn : Sm ((2 ^ n : Nat) : Int)) (hF : Fr w w2 No) (hG : Fr w2 wx No) :
    Calls Tryz.prog 85 #[u, v] wx fun e w' => ∃ lo s A n1 c s' A' n' c', wx.heap.size ≤ lo ∧ e = .returned (.tuple #[.agg #[.bool s, .slice A n1 c], .agg #[.bool s', .slice A' n' c']]) ∧ Hid (Sr w' lo w'.heap.size (.agg #[.bool s, .slice A n1 c]) ((N / 2 ^ n : Nat) : Int) ∧ Fr wx w' No) := by
  refine (quo_c u v N (2 ^ n) (Nat.pow_pos (by decide)) wx ((hu.fr hF).fr hG) (hv.fr hG) hN hn).mono ?_
  rintro e w' ⟨q, r, rfl, h⟩
  obtain ⟨h1, h2, h3⟩ := h.out
  have h1' := h1
  obtain ⟨s, A, c, l, rfl, -, -, -⟩ := h1
  obtain ⟨s', A', c', l', rfl, -, -, -⟩ := h2
  exact ⟨_, _, _, _, _, _, _, _, _, Nat.le_refl _, rfl, Lib.hid ⟨Sr.of h1', h3⟩⟩
set_option maxRecDepth 100000 in
set_option maxHeartbeats 16000000 in
theorem rsh_c (u : Value) (N n : Nat) (w : World) (hu : Sp w u (N : Int)) (hN : Sm (N : Int)) (hn : n ≤ 3199) :
    Calls Tryz.prog 63 #[u, .int .i64 (n : Int)] w fun e w' => ∃ v, e = .returned v ∧ Hid (Sq w' w.heap.size v ((N / 2 ^ n : Nat) : Int) ∧ Fr w w' No) := by
  have KU := Lib.hid hu
  obtain ⟨s, A, c, l, rfl, h1, h2⟩ := hu
  have hl := h2.len hN
  obtain ⟨rfl, hc⟩ := h2.nat
  have hw : IntKind.i64.wrap (8 * (l.length : Int)) = 8 * (l.length : Int) := by rw [IntKind.wrap_i64]; omega
  have KX := Lib.hid (And.intro (new40 w #[.bool false, .slice A l.length c] 31) (And.intro (cell_new w #[.bool false, .slice A l.length c] 31 0 _ rfl) (cell_new w #[.bool false, .slice A l.length c] 31 1 _ rfl)))
  by_cases hs : 8 * l.length < n
  · have KZ : Hid (N / 2 ^ n = 0) := Lib.hid (Ref.rsh_small l N n hc hs)
    have hs' : 8 * (l.length : Int) < (n : Int) := by omega
    clear h1 h2 hc hN hs
    generalize l.length = m at *
    go_enter Tryz.func63, Tryz.ntmps63
    go_wp2_with fail
    have F2 := KX.out.1.trans (new40 _ #[.bool false, .slice none 0 0] 31) (fun _ _ _ c => c)
    have r0 := cell_new (w.alloc (.cells #[.bool false, .slice A m c] 31)) #[.bool false, .slice none 0 0] 31 0 _ rfl
    have r1 := cell_new (w.alloc (.cells #[.bool false, .slice A m c] 31)) #[.bool false, .slice none 0 0] 31 1 _ rfl
    rw [show (w.alloc (.cells #[.bool false, .slice A m c] 31)).heap.size = w.heap.size + 1 from size_new _ _] at r0 r1
    generalize World.alloc (World.alloc w _) _ = w3 at *
    refine bodyPost_ret (by simp [results, Tryz.results63, go_sem, r0, r1]; try rfl) rfl ?_
    exact ⟨_, rfl, Lib.hid ⟨by rw [KZ.out]; exact nil_sq _ _, F2⟩⟩
  · have hs' : (n : Int) ≤ 8 * (l.length : Int) := by omega
    have KP := Lib.hid (power_c n (by omega))
    have KN := Lib.hid (And.intro hN hn)
    clear h1 h2 hc hN hs hn
    generalize l.length = m at *
    go_enter Tryz.func63, Tryz.ntmps63
    go_upto_region 5 with fail
    have B4 := Blk.new (w.alloc (.cells #[.bool false, .slice A m c] 31)) #[.bool false, .slice none 0 0] 31 2 rfl
    have hz2 : ((w.alloc (.cells #[.bool false, .slice A m c] 31)).alloc (.cells #[.bool false, .slice none 0 0] 31)).heap.size = w.heap.size + 2 := by rw [size_new, size_new]
    rw [show (w.alloc (.cells #[.bool false, .slice A m c] 31)).heap.size = w.heap.size + 1 from size_new _ _] at B4
    generalize hW : World.alloc (World.alloc w _) _ = w2
    rw [hW] at B4 hz2
    have K4 := Lib.hid (And.intro B4 hz2)
    clear B4 hz2
    have F2 : Fr w w2 No := by
      rw [← hW]
      exact KX.out.1.trans (new40 _ _ 31) (fun _ _ _ c => c)
    have c0 : w2.cell? ⟨w.heap.size, 0, none⟩ = some (.bool false) := by rw [← hW]; exact (new40 _ _ 31).keep KX.out.2.1 (fun c => c)
    have c1 : w2.cell? ⟨w.heap.size, 1, none⟩ = some (.slice A m c) := by rw [← hW]; exact (new40 _ _ 31).keep KX.out.2.2 (fun c => c)
    have KF := Lib.hid F2
    clear F2 hW
    have KQ := Lib.hid (fun v w3 wx (hv : Sp w3 v ((2 ^ n : Nat) : Int)) (hF : Fr w w3 No) (hG : Fr w3 wx No) => quo2_c _ N n w w3 wx KU.out KN.out.1 v hv (pow_sm n KN.out.2) hF hG)
    generalize hS : w2.heap.size = z2
    go_cut [5] (fun s5 wx => ∃ b s1 A1 n1 k1, s5 = .pointer (some ⟨b, 0, none⟩) ∧ Hid (wx.cell? ⟨b, 0, none⟩ = some (.bool s1) ∧ wx.cell? ⟨b, 1, none⟩ = some (.slice A1 n1 k1) ∧ Sq wx z2 (.agg #[.bool s1, .slice A1 n1 k1]) ((N / 2 ^ n : Nat) : Int) ∧ Fr w2 wx No))
    case first =>
      have mk : Hid (∀ w', Fr w2 w' No → (w'.cell? ⟨w.heap.size, 0, none⟩ = some (.bool false) ∧ w'.cell? ⟨w.heap.size, 1, none⟩ = some (.slice A m c))) := Lib.hid (fun w' h => ⟨h.keep c0 (fun c => c), h.keep c1 (fun c => c)⟩)
      go_region_held3 (fun w' => w'.cell? ⟨w.heap.size, 0, none⟩ = some (.bool false) ∧ w'.cell? ⟨w.heap.size, 1, none⟩ = some (.slice A m c)) (exact mk.out _ (by repeat (first | with_reducible exact Fr.refl _ _ | with_reducible exact F24 | with_reducible exact F3 | with_reducible apply Fr.drew | with_reducible apply Fr.alloc | (with_reducible refine Fr.set ?_ _ _ _ (fun h => by with_reducible first | exact absurd h (Nat.not_lt.2 KE.out.1) | exact absurd h (Nat.not_lt.2 KE.out.2.1) | exact absurd h (Nat.not_lt.2 KE.out.2.2.1) | exact absurd h (Nat.not_lt.2 KE.out.2.2.2.1) | exact absurd h (Nat.not_lt.2 KE.out.2.2.2.2.1) | exact absurd h (Nat.not_lt.2 KE.out.2.2.2.2.2)))))) (first
        | (go_at_call 64; with_reducible refine (KP.out _).mono ?_; rintro e w3 ⟨v3, rfl, H3⟩
           have F3 : Fr w2 w3 No := (by first | exact H3.out.2 | exact (Fr.refl w2 No).drew.trans H3.out.2 (fun _ _ _ c => c) | exact ((Fr.refl w2 No).drew.alloc _).trans H3.out.2 (fun _ _ _ c => c) | exact (((Fr.refl w2 No).drew.alloc _).alloc _).trans H3.out.2 (fun _ _ _ c => c))
           (first | have P0 : Blk w3 z2 2 := (by rw [← hS]; first | exact (Blk.new w2.drew #[.bool false, .slice none 0 0] 31 2 rfl).fr H3.out.2 | exact ((Blk.new w2.drew #[.bool false, .slice none 0 0] 31 2 rfl).fr (new40 _ #[.bool false, .slice none 0 0] 31)).fr H3.out.2) | skip)
           (first | (have L0 := P0.lt; have l1 : ¬ z2 = w3.heap.size := (by omega); have l2 : ¬ w3.heap.size = z2 := (by omega); clear L0) | skip)
           (first | have P1 : Blk w3 (z2 + 1) 2 := (by rw [← hS]; exact blk_two w2 w3 H3.out.2) | skip))
        | (go_at_call 85; with_reducible refine (KQ.out _ _ _ H3.out.1.sp (KF.out.trans F3 (fun _ _ _ c => c)) (by first | exact Fr.refl _ _ | exact (Fr.refl _ _).alloc _ | exact ((Fr.refl _ _).alloc _).alloc _ | exact (Fr.refl _ _).drew | exact (Fr.refl _ _).drew.alloc _ | exact ((Fr.refl _ _).drew.alloc _).alloc _)).mono ?_; rintro e w4 ⟨lo, s4, A4, n4, c4, s5, A5, n5, c5, hlo, rfl, H4⟩
           (first | have hl2 : w3.heap.size + 2 ≤ lo := (by rw [size_new, size_new] at hlo; exact hlo) | have hl2 : w3.heap.size + 1 ≤ lo := (by rw [size_new] at hlo; exact hlo) | have hl2 : w3.heap.size ≤ lo := hlo)
           clear hlo
           have hl0 : w3.heap.size ≤ lo := (by first | exact hl2 | exact Nat.le_trans (Nat.le_add_right _ _) hl2)
           have g4 : z2 ≤ lo := (by rw [← hS]; exact Nat.le_trans F3.size hl0)
           (first | have g0 : z2 < lo := Nat.lt_of_lt_of_le P0.lt hl0 | skip)
           (first | have g1 : z2 + 1 < lo := Nat.lt_of_lt_of_le P1.lt hl0 | skip)
           (first | have g2 : w3.heap.size < lo := hl2 | have g2 : w3.heap.size < lo := Nat.lt_of_lt_of_le (Nat.lt_add_of_pos_right (by decide)) hl2 | skip)
           (first | have g3 : w3.heap.size + 1 < lo := hl2 | skip)
           have F4 : Fr w3 w4 No := (by first | exact H4.out.2 | exact ((Fr.refl w3 No).alloc _).trans H4.out.2 (fun _ _ _ c => c) | exact (((Fr.refl w3 No).alloc _).alloc _).trans H4.out.2 (fun _ _ _ c => c))
           have F24 := F3.trans F4 (fun _ _ _ c => c)
           have KE := Lib.hid (show w2.heap.size ≤ z2 ∧ w2.heap.size ≤ z2 + 1 ∧ w2.heap.size ≤ w3.heap.size ∧ w2.heap.size ≤ w3.heap.size + 1 ∧ w2.heap.size ≤ w4.heap.size ∧ w2.heap.size ≤ w4.heap.size + 1 from ⟨Nat.le_of_eq hS, Nat.le_succ_of_le (Nat.le_of_eq hS), F3.size, Nat.le_succ_of_le F3.size, F24.size, Nat.le_succ_of_le F24.size⟩)
           (first | have Q0 := P0.fr F4 | skip)
           (first | have Q1 := P1.fr F4 | skip)
           (first | have R0 : Blk w4 w3.heap.size 2 := (by first | exact (Blk.new w3 #[.bool false, .slice none 0 0] 31 2 rfl).fr H4.out.2 | exact ((Blk.new w3 #[.bool false, .slice none 0 0] 31 2 rfl).fr (new40 _ #[.bool false, .slice none 0 0] 31)).fr H4.out.2) | skip)
           (first | have R1 : Blk w4 (w3.heap.size + 1) 2 := blk_twoB w3 w4 H4.out.2 | skip)
           (first | (have TT := blk_facts Q0; have TU := blk_facts (Q0.fr (new40 w4 #[.bool false, .slice none 0 0] 31)); have TV := blk_facts (Q0.fr (new40 w4 #[.bool s4, .slice A4 n4 c4] 31)); obtain ⟨a0, a1, ⟨x0, a2⟩, ⟨x1, a3⟩, a4, a5⟩ := TT; obtain ⟨b0, b1, ⟨y0, b2⟩, ⟨y1, b3⟩, b4, b5⟩ := TU; obtain ⟨bv0, bv1, ⟨yv0, bv2⟩, ⟨yv1, bv3⟩, bv4, bv5⟩ := TV) | skip)
           (first | (have TT := blk_facts Q1; have TU := blk_facts (Q1.fr (new40 w4 #[.bool false, .slice none 0 0] 31)); have TV := blk_facts (Q1.fr (new40 w4 #[.bool s4, .slice A4 n4 c4] 31)); obtain ⟨aa0, aa1, ⟨xx0, aa2⟩, ⟨xx1, aa3⟩, aa4, aa5⟩ := TT; obtain ⟨bb0, bb1, ⟨yy0, bb2⟩, ⟨yy1, bb3⟩, bb4, bb5⟩ := TU; obtain ⟨bbv0, bbv1, ⟨yyv0, bbv2⟩, ⟨yyv1, bbv3⟩, bbv4, bbv5⟩ := TV) | skip)
           (first | (have TT := blk_facts R0; have TU := blk_facts (R0.fr (new40 w4 #[.bool false, .slice none 0 0] 31)); have TV := blk_facts (R0.fr (new40 w4 #[.bool s4, .slice A4 n4 c4] 31)); obtain ⟨ac0, ac1, ⟨xc0, ac2⟩, ⟨xc1, ac3⟩, ac4, ac5⟩ := TT; obtain ⟨bc0, bc1, ⟨yc0, bc2⟩, ⟨yc1, bc3⟩, bc4, bc5⟩ := TU; obtain ⟨bcv0, bcv1, ⟨ycv0, bcv2⟩, ⟨ycv1, bcv3⟩, bcv4, bcv5⟩ := TV) | skip)
           (first | (have TT := blk_facts R1; have TU := blk_facts (R1.fr (new40 w4 #[.bool false, .slice none 0 0] 31)); have TV := blk_facts (R1.fr (new40 w4 #[.bool s4, .slice A4 n4 c4] 31)); obtain ⟨ad0, ad1, ⟨xd0, ad2⟩, ⟨xd1, ad3⟩, ad4, ad5⟩ := TT; obtain ⟨bd0, bd1, ⟨yd0, bd2⟩, ⟨yd1, bd3⟩, bd4, bd5⟩ := TU; obtain ⟨bdv0, bdv1, ⟨ydv0, bdv2⟩, ⟨ydv1, bdv3⟩, bdv4, bdv5⟩ := TV) | skip)))
      all_goals
        go_wp2_with fail
        go_meet
        case rel =>
          refine ⟨_, s4, A4, n4, c4, rfl, Lib.hid ⟨?_, ?_, ?_, ?_⟩⟩
          · first | (go_simp; done) | (go_simp; rfl)
          · first | (go_simp; done) | (go_simp; rfl)
          · refine Sq.mono (lo := lo) (Sr.sq (hi := w4.heap.size) ?_) g4
            repeat (first | with_reducible exact H4.out.1 | with_reducible apply Sr.alloc | (with_reducible refine Sr.set ?_ _ _ _ (by with_reducible first | exact Or.inl g0 | exact Or.inl g1 | exact Or.inl g2 | exact Or.inl g3 | exact Or.inr (Nat.le_refl _) | exact Or.inr (Nat.le_succ _))))
          · repeat (first | with_reducible exact Fr.refl _ _ | with_reducible exact F24 | with_reducible exact F3 | with_reducible apply Fr.drew | with_reducible apply Fr.alloc | (with_reducible refine Fr.set ?_ _ _ _ (fun h => by with_reducible first | exact absurd h (Nat.not_lt.2 KE.out.1) | exact absurd h (Nat.not_lt.2 KE.out.2.1) | exact absurd h (Nat.not_lt.2 KE.out.2.2.1) | exact absurd h (Nat.not_lt.2 KE.out.2.2.2.1) | exact absurd h (Nat.not_lt.2 KE.out.2.2.2.2.1) | exact absurd h (Nat.not_lt.2 KE.out.2.2.2.2.2))))
    case rest =>
      obtain ⟨b, s1, A1, n1, k1, rfl, KR⟩ := hcut
      rename World => w5
      obtain ⟨e0, e1, hSq, hF5⟩ := KR.out
      have KQ2 := Lib.hid (And.intro (K4.out.1.fr hF5) (And.intro (KF.out.trans hF5 (fun _ _ _ c => c)) (And.intro hSq (show w.heap.size + 1 < z2 by rw [← hS, K4.out.2]; exact Nat.lt_succ_self _))))
      have hB := KQ2.out.1
      have fz0 := hB.fz 0
      have fz1 := hB.fz 1
      obtain ⟨u0, hu0⟩ := hB.here 0 (by decide)
      obtain ⟨u1, hu1⟩ := hB.here 1 (by decide)
      clear hB hSq hF5 KR KQ KP c0 c1
      go_wp2_with fail
      generalize hw : World.setCell _ _ _ = w6
      obtain ⟨r0, r1, r2⟩ := sp_store (w := w) KQ2.out.1 KQ2.out.2.1 KQ2.out.2.2.1 (Nat.le_succ _) KQ2.out.2.2.2 hw
      clear hw
      refine bodyPost_ret (by simp [results, Tryz.results63, go_sem, r0, r1]; try rfl) rfl ?_
      exact ⟨_, rfl, Lib.hid r2⟩
end Go.Proofs.YtldejfallphhbaaGreatDoor
