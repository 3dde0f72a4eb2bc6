/-
  A part of the proof of FnMathWhole (packed out of smaller texts by a program of this session; what the proof does not reach is left out).
-/
import Derived.Test.YtldejfallphhbaaGreatDoorZp
import Derived.Test.YtldejfallphhbaaGreatDoorZo2
namespace Go.Proofs.YtldejfallphhbaaGreatDoor
set_option linter.unusedVariables false
open Ieee
theorem cfl_rep (y N : Nat) (h : Fl.U (Fl.rg y) = N * Fl.B) : cfl (Ref.iv (Fl.sg y) N) y = 0 := by
  obtain ⟨h1, h2⟩ := nw_whole h
  have := cfl_self y
  rw [h1, h2] at this
  simpa using this
theorem cmpI_zero {a b : Int} (h : Ref.cmpI a b = 0) : a = b := by
  unfold Ref.cmpI at h
  split at h
  · exact absurd h (by decide)
  · split at h
    · assumption
    · exact absurd h (by decide)
theorem cfl_zero (z : Int) (y : Nat) (h : cfl z y = 0) : Fl.U (Fl.rg y) = Nw y * Fl.B ∧ z = Ref.iv (Fl.sg y) (Nw y) := by
  unfold cfl at h
  split at h
  · next hc =>
    have hz := cmpI_zero h
    refine ⟨?_, hz⟩
    rcases hc with hc | hc
    · exact absurd h hc
    · unfold Aw at hc
      have := of_decide_eq_true hc
      unfold Nw
      have hd := Nat.div_add_mod (Fl.U (Fl.rg y)) Fl.B
      rw [this, Nat.add_zero, Nat.mul_comm] at hd
      exact hd.symm
  · split at h <;> exact absurd h (by decide)
theorem near_whole (N : Nat) : Fl.nearN (N * Fl.B) = N := by
  unfold Fl.nearN
  have hB := Fl.B_pos
  have h2 : Fl.B = 2 * Fl.H := Fl.B_H
  rw [Nat.mul_div_cancel _ hB, Nat.mul_mod_left, if_neg (by omega), Nat.add_zero]
theorem round_near (x : Nat) (hx : x < 18446744073709551616) (hf : Fl.Fin x) : Fl.roundBits x < 18446744073709551616 ∧ Fl.Fin (Fl.roundBits x) ∧ cfl (Nr x) (Fl.roundBits x) = 0 := by
  obtain ⟨r, hr, he, hU⟩ := Fl.round_law x hx hf
  rw [he]
  refine ⟨Fl.wordOf_lt _ _ hr, Fl.fin_word _ _ hr, ?_⟩
  have h := cfl_rep (Fl.wordOf (Fl.sg x) r) (Fl.nearN (Fl.U (Fl.rg x))) (by rw [Fl.rg_word _ _ hr]; exact hU)
  rw [Fl.sg_word _ _ hr] at h
  exact h
theorem round_whole (s : Bool) (r V : Nat) (hr : r < 9218868437227405312) (hU : Fl.U r = V * Fl.B) : Fl.roundBits (Fl.wordOf s r) < 18446744073709551616 ∧ Fl.Fin (Fl.roundBits (Fl.wordOf s r)) ∧ cfl (Ref.iv s V) (Fl.roundBits (Fl.wordOf s r)) = 0 := by
  obtain ⟨h1, h2, h3⟩ := round_near (Fl.wordOf s r) (Fl.wordOf_lt _ _ hr) (Fl.fin_word _ _ hr)
  refine ⟨h1, h2, ?_⟩
  unfold Nr at h3
  rw [Fl.sg_word _ _ hr, Fl.rg_word _ _ hr, hU, near_whole] at h3
  exact h3
theorem aw_bne (x : Nat) : (Fl.U (Fl.rg x) % Fl.B != 0) = !Aw x := by unfold Aw; by_cases h : Fl.U (Fl.rg x) % Fl.B = 0 <;> simp [h]
theorem down_eq (x : Nat) : Ref.iv (Fl.sg x) (Fl.wholeN .down x) = Dn x := by
  unfold Fl.wholeN Dn Fl.more
  rw [aw_bne]
  show Ref.iv _ (Nw x + _) = _
  unfold Ref.iv
  cases Aw x <;> cases Fl.sg x <;> simp <;> omega
theorem up_eq (x : Nat) (hf : Fl.Fin x) : Ref.iv (Fl.sg x) (Fl.wholeN .up x) = -Dn (Fl.wordOf (!Fl.sg x) (Fl.rg x)) := by
  have hr : Fl.rg (Fl.wordOf (!Fl.sg x) (Fl.rg x)) = Fl.rg x := Fl.rg_word _ _ hf
  have hn : Nw (Fl.wordOf (!Fl.sg x) (Fl.rg x)) = Nw x := by unfold Nw; rw [hr]
  have ha : Aw (Fl.wordOf (!Fl.sg x) (Fl.rg x)) = Aw x := by unfold Aw; rw [hr]
  unfold Fl.wholeN Dn Fl.more
  rw [aw_bne, hn, ha, Fl.sg_word _ _ hf]
  show Ref.iv _ (Nw x + _) = _
  unfold Ref.iv
  cases Aw x <;> cases Fl.sg x <;> simp <;> omega
end Go.Proofs.YtldejfallphhbaaGreatDoor
namespace Go.Proofs.YtldejfallphhbaaGreatDoor
set_option linter.unusedVariables false
open Go.RowKit
theorem cmpz_c (u v : Value) (z : Int) (w w2 : World) (hu : Sp w u z) (hv : Sp w v z) (hz : Sm z) (hF : Fr w2 w No) :
    Calls Tryz.prog 26 #[u, v] w fun e w' => e = .returned (.int .i64 0) ∧ Hid (Fr w2 w' No) := by
  refine (cmp_c u v z z w hu hv hz hz).mono ?_
  rintro e w' ⟨rfl, h⟩
  rw [cmpI_self]
  exact ⟨rfl, Lib.hid (hF.trans h.out (fun _ _ _ c => c))⟩
set_option maxRecDepth 100000 in
set_option maxHeartbeats 4000000 in
theorem same_c (u v : Value) (z : Int) (w : World) (hu : Vi w u z) (hv : Vi w v z) (hz : Sm z) :
    Calls Tryz.prog 9 #[u, v] w fun e w' => e = .returned (.bool true) ∧ Hid (Fr w w' No) := by
  have KU := Lib.hid hu
  have KV := Lib.hid hv
  have KS := Lib.hid hz
  obtain ⟨s, A1, c1, l1, B1, d1, rfl, -, i1⟩ := hu
  obtain ⟨s', A2, c2, l2, B2, d2, rfl, -, i2⟩ := hv
  obtain rfl : s' = s := by rw [i1.sgn, i2.sgn]
  obtain rfl : l2 = l1 := i2.can.unique i1.can
  clear i1 i2
  rename Bool => s
  rename List Int => l1
  generalize l1.length = n at *
  have b1 := Bx.new w s A1 n c1 B1 d1
  have f1 := new40 w #[.int .i64 2, .bool s, .slice A1 n c1, .int .u64 0, .string ⟨#[]⟩, .slice B1 0 d1] 28
  have z1 : (w.alloc (.cells #[.int .i64 2, .bool s, .slice A1 n c1, .int .u64 0, .string ⟨#[]⟩, .slice B1 0 d1] 28)).heap.size = w.heap.size + 1 := size_new _ _
  have b2 := Bx.new (w.alloc (.cells #[.int .i64 2, .bool s, .slice A1 n c1, .int .u64 0, .string ⟨#[]⟩, .slice B1 0 d1] 28)) s A2 n c2 B2 d2
  have f2 := new40 (w.alloc (.cells #[.int .i64 2, .bool s, .slice A1 n c1, .int .u64 0, .string ⟨#[]⟩, .slice B1 0 d1] 28)) #[.int .i64 2, .bool s, .slice A2 n c2, .int .u64 0, .string ⟨#[]⟩, .slice B2 0 d2] 28
  rw [z1] at b2
  have KX := Lib.hid (And.intro (b1.fr f2) (And.intro b2 (f1.trans f2 (fun _ _ _ c => c))))
  clear b1 f1 z1 b2 f2 hz
  unfold vIn at *
  go_enter Tryz.func9, Tryz.ntmps9
  go_upto_region 5 with fail
  generalize World.alloc (World.alloc w _) _ = w2 at *
  obtain ⟨p0, p1, p2, p3, p4, p5⟩ := KX.out.1
  obtain ⟨q0, q1, q2, q3, q4, q5⟩ := KX.out.2.1
  have KN1 := Lib.hid (fun wx (h : Fr w2 wx No) => numv2_c _ z w2 wx (KU.out.fr KX.out.2.2) KS.out h)
  have KN2 := Lib.hid (fun wx (h : Fr w2 wx No) => numv2_c _ z w2 wx (KV.out.fr KX.out.2.2) KS.out h)
  have KC := Lib.hid (fun u v wx (hu : Sp wx u z) (hv : Sp wx v z) (h : Fr w2 wx No) => cmpz_c u v z wx w2 hu hv KS.out h)
  go_cut [4] (fun s4 wx => s4 = .bool true ∧ Hid (Fr w2 wx No))
  case first =>
    have mk : Hid (∀ w', Fr w2 w' No → (w'.cell? ⟨w.heap.size, 0, none⟩ = some (.int .i64 2) ∧ w'.cell? ⟨w.heap.size, 1, none⟩ = some (.bool s) ∧ w'.cell? ⟨w.heap.size, 2, none⟩ = some (.slice A1 n c1) ∧ w'.cell? ⟨w.heap.size, 3, none⟩ = some (.int .u64 0) ∧ w'.cell? ⟨w.heap.size, 4, none⟩ = some (.string ⟨#[]⟩) ∧ w'.cell? ⟨w.heap.size, 5, none⟩ = some (.slice B1 0 d1) ∧ w'.cell? ⟨w.heap.size + 1, 0, none⟩ = some (.int .i64 2) ∧ w'.cell? ⟨w.heap.size + 1, 1, none⟩ = some (.bool s) ∧ w'.cell? ⟨w.heap.size + 1, 2, none⟩ = some (.slice A2 n c2) ∧ w'.cell? ⟨w.heap.size + 1, 3, none⟩ = some (.int .u64 0) ∧ w'.cell? ⟨w.heap.size + 1, 4, none⟩ = some (.string ⟨#[]⟩) ∧ w'.cell? ⟨w.heap.size + 1, 5, none⟩ = some (.slice B2 0 d2))) := Lib.hid (fun w' h => ⟨h.keep p0 (fun c => c), h.keep p1 (fun c => c), h.keep p2 (fun c => c), h.keep p3 (fun c => c), h.keep p4 (fun c => c), h.keep p5 (fun c => c), h.keep q0 (fun c => c), h.keep q1 (fun c => c), h.keep q2 (fun c => c), h.keep q3 (fun c => c), h.keep q4 (fun c => c), h.keep q5 (fun c => c)⟩)
    go_region_held3 (fun w' => w'.cell? ⟨w.heap.size, 0, none⟩ = some (.int .i64 2) ∧ w'.cell? ⟨w.heap.size, 1, none⟩ = some (.bool s) ∧ w'.cell? ⟨w.heap.size, 2, none⟩ = some (.slice A1 n c1) ∧ w'.cell? ⟨w.heap.size, 3, none⟩ = some (.int .u64 0) ∧ w'.cell? ⟨w.heap.size, 4, none⟩ = some (.string ⟨#[]⟩) ∧ w'.cell? ⟨w.heap.size, 5, none⟩ = some (.slice B1 0 d1) ∧ w'.cell? ⟨w.heap.size + 1, 0, none⟩ = some (.int .i64 2) ∧ w'.cell? ⟨w.heap.size + 1, 1, none⟩ = some (.bool s) ∧ w'.cell? ⟨w.heap.size + 1, 2, none⟩ = some (.slice A2 n c2) ∧ w'.cell? ⟨w.heap.size + 1, 3, none⟩ = some (.int .u64 0) ∧ w'.cell? ⟨w.heap.size + 1, 4, none⟩ = some (.string ⟨#[]⟩) ∧ w'.cell? ⟨w.heap.size + 1, 5, none⟩ = some (.slice B2 0 d2)) (first | exact mk.out _ (Fr.refl _ _) | exact mk.out _ ((Fr.refl _ _).drew) | exact mk.out _ Hc.out | exact mk.out _ Hc.out.drew | exact mk.out _ Hb.out.2.2 | exact mk.out _ Hb.out.2.2.drew | exact mk.out _ Ha.out.2.2 | exact mk.out _ Ha.out.2.2.drew) (first | (go_at_call 25; with_reducible refine (KN1.out _ (by first | exact Fr.refl _ _ | exact (Fr.refl _ _).drew | exact Hb.out.2.2 | exact Hb.out.2.2.drew)).mono ?_; rintro e wa ⟨sa, Aa, ca, na, rfl, Ha⟩) | (go_at_call 25; with_reducible refine (KN2.out _ (by first | exact Fr.refl _ _ | exact (Fr.refl _ _).drew | exact Ha.out.2.2 | exact Ha.out.2.2.drew)).mono ?_; rintro e wb ⟨sb, Ab, cb, nb, rfl, Hb⟩) | (go_at_call 26; with_reducible refine (KC.out _ _ _ (by first | exact Ha.out.1 | exact Ha.out.1.fr Hb.out.2.1 | exact Ha.out.1.fr ((Fr.refl _ No).drew) | exact (Ha.out.1.fr Hb.out.2.1).fr ((Fr.refl _ No).drew)) (by first | exact Hb.out.1 | exact Hb.out.1.fr Ha.out.2.1 | exact Hb.out.1.fr ((Fr.refl _ No).drew) | exact (Hb.out.1.fr Ha.out.2.1).fr ((Fr.refl _ No).drew)) (by first | exact Hb.out.2.2 | exact Ha.out.2.2 | exact Hb.out.2.2.drew | exact Ha.out.2.2.drew)).mono ?_; rintro e wc ⟨rfl, Hc⟩))
    all_goals
      go_wp2_with fail
      go_meet
      case rel => exact ⟨by simp, Lib.hid (by first | exact Hc.out | exact Hc.out.drew)⟩
  case rest =>
    obtain ⟨rfl, KF⟩ := hcut
    have KF2 := Lib.hid (KX.out.2.2.trans KF.out (fun _ _ _ c => c))
    go_wp2_with fail
    go_returns
    exact ⟨rfl, KF2⟩
end Go.Proofs.YtldejfallphhbaaGreatDoor
namespace Go.Proofs.YtldejfallphhbaaGreatDoor
set_option linter.unusedVariables false
set_option exponentiation.threshold 4000
open Go.RowKit
structure By (w : World) (p : Nat) (a0 a1 a2 a3 a4 a5 : Value) : Prop where
  c0 : w.cell? ⟨p, 0, none⟩ = some a0
  c1 : w.cell? ⟨p, 1, none⟩ = some a1
  c2 : w.cell? ⟨p, 2, none⟩ = some a2
  c3 : w.cell? ⟨p, 3, none⟩ = some a3
  c4 : w.cell? ⟨p, 4, none⟩ = some a4
  c5 : w.cell? ⟨p, 5, none⟩ = some a5
theorem By.fr {w w' : World} {p : Nat} {a0 a1 a2 a3 a4 a5 : Value} (h : By w p a0 a1 a2 a3 a4 a5) (hf : Fr w w' No) : By w' p a0 a1 a2 a3 a4 a5 :=
  ⟨hf.keep h.c0 (fun c => c), hf.keep h.c1 (fun c => c), hf.keep h.c2 (fun c => c), hf.keep h.c3 (fun c => c), hf.keep h.c4 (fun c => c), hf.keep h.c5 (fun c => c)⟩
theorem By.new (w : World) (a0 a1 a2 a3 a4 a5 : Value) : By (w.alloc (.cells #[a0, a1, a2, a3, a4, a5] 28)) w.heap.size a0 a1 a2 a3 a4 a5 :=
  ⟨cell_new w _ 28 0 _ rfl, cell_new w _ 28 1 _ rfl, cell_new w _ 28 2 _ rfl, cell_new w _ 28 3 _ rfl, cell_new w _ 28 4 _ rfl, cell_new w _ 28 5 _ rfl⟩
theorem by_two (w : World) (a0 a1 a2 a3 a4 a5 b0 b1 b2 b3 b4 b5 : Value) :
    By ((w.alloc (.cells #[a0, a1, a2, a3, a4, a5] 28)).alloc (.cells #[b0, b1, b2, b3, b4, b5] 28)) w.heap.size a0 a1 a2 a3 a4 a5 ∧
    By ((w.alloc (.cells #[a0, a1, a2, a3, a4, a5] 28)).alloc (.cells #[b0, b1, b2, b3, b4, b5] 28)) (w.heap.size + 1) b0 b1 b2 b3 b4 b5 ∧
    Fr w ((w.alloc (.cells #[a0, a1, a2, a3, a4, a5] 28)).alloc (.cells #[b0, b1, b2, b3, b4, b5] 28)) No := by
  have f1 := new40 w #[a0, a1, a2, a3, a4, a5] 28
  have f2 := new40 (w.alloc (.cells #[a0, a1, a2, a3, a4, a5] 28)) #[b0, b1, b2, b3, b4, b5] 28
  have h2 := By.new (w.alloc (.cells #[a0, a1, a2, a3, a4, a5] 28)) b0 b1 b2 b3 b4 b5
  have z1 : (w.alloc (.cells #[a0, a1, a2, a3, a4, a5] 28)).heap.size = w.heap.size + 1 := size_new _ _
  rw [z1] at h2
  exact ⟨(By.new w a0 a1 a2 a3 a4 a5).fr f2, h2, f1.trans f2 (fun _ _ _ c => c)⟩
def Nums (x : Value) : Prop := ∀ w, Calls Tryz.prog 35 #[x] w fun e w' => e = .returned (.bool true) ∧ Hid (Fr w w' No)
set_option maxRecDepth 100000 in
set_option maxHeartbeats 4000000 in
theorem equal_any (a0 a1 a2 a3 a4 a5 b0 b1 b2 b3 b4 b5 : Value) (w : World) (hx : Nums (.agg #[a0, a1, a2, a3, a4, a5])) (hy : Nums (.agg #[b0, b1, b2, b3, b4, b5]))
    (hc : ∀ wx, Fr w wx No → Calls Tryz.prog 36 #[.agg #[a0, a1, a2, a3, a4, a5], .agg #[b0, b1, b2, b3, b4, b5]] wx fun e w' => e = .returned (.int .i64 0) ∧ Hid (Fr wx w' No)) :
    Calls Tryz.prog 12 #[.agg #[a0, a1, a2, a3, a4, a5], .agg #[b0, b1, b2, b3, b4, b5]] w fun e w' => e = .returned (.bool true) ∧ Hid (Fr w w' No) := by
  have KX := Lib.hid (by_two w a0 a1 a2 a3 a4 a5 b0 b1 b2 b3 b4 b5)
  have KN1 := Lib.hid (fun w => hx w)
  have KN2 := Lib.hid (fun w => hy w)
  have KC := Lib.hid hc
  clear hx hy hc
  go_enter Tryz.func12, Tryz.ntmps12
  go_upto_region 1 with fail
  generalize World.alloc (World.alloc w _) _ = w2 at *
  obtain ⟨p0, p1, p2, p3, p4, p5⟩ := KX.out.1
  go_wp2_with fail
  with_reducible refine (KN1.out _).mono ?_
  rintro e w3 ⟨rfl, H3⟩
  clear p0 p1 p2 p3 p4 p5
  obtain ⟨p0, p1, p2, p3, p4, p5⟩ := KX.out.2.1.fr H3.out
  go_wp2_with fail
  with_reducible refine (KN2.out _).mono ?_
  rintro e w4 ⟨rfl, H4⟩
  clear p0 p1 p2 p3 p4 p5
  have F4 := Lib.hid (H3.out.trans H4.out (fun _ _ _ c => c))
  have G4 := Lib.hid (KX.out.2.2.trans F4.out (fun _ _ _ c => c))
  obtain ⟨p0, p1, p2, p3, p4, p5⟩ := KX.out.1.fr F4.out
  obtain ⟨q0, q1, q2, q3, q4, q5⟩ := KX.out.2.1.fr F4.out
  go_wp2_with fail
  with_reducible refine (KC.out _ G4.out).mono ?_
  rintro e w5 ⟨rfl, H5⟩
  have G5 := Lib.hid (G4.out.trans H5.out (fun _ _ _ c => c))
  go_wp2_with fail
  go_returns
  exact ⟨by simp, G5⟩
theorem equal_ii (u v : Value) (z : Int) (w : World) (hu : Vi w u z) (hv : Vi w v z) (hz : Sm z) :
    Calls Tryz.prog 12 #[u, v] w fun e w' => e = .returned (.bool true) ∧ Hid (Fr w w' No) := by
  have hu' := hu
  have hv' := hv
  obtain ⟨s1, A1, c1, l1, B1, d1, rfl, -, -⟩ := hu
  obtain ⟨s2, A2, c2, l2, B2, d2, rfl, -, -⟩ := hv
  refine equal_any _ _ _ _ _ _ _ _ _ _ _ _ w (fun w => isnum_i _ _ _ _ _ _ w) (fun w => isnum_i _ _ _ _ _ _ w) (fun wx hF => ?_)
  refine (cmpII_c _ _ z z wx (hu'.fr hF) (hv'.fr hF) hz hz).mono ?_
  rintro e w' ⟨rfl, h⟩
  rw [cmpI_self]
  exact ⟨rfl, h⟩
theorem equal_fi (x : Nat) (v : Value) (z : Int) (w : World) (hx : x < 18446744073709551616) (hf : Fl.Fin x) (hv : Vi w v z) (hz : Sm z) (hc : cfl z x = 0) :
    Calls Tryz.prog 12 #[vFlt x, v] w fun e w' => e = .returned (.bool true) ∧ Hid (Fr w w' No) := by
  have hv' := hv
  obtain ⟨s2, A2, c2, l2, B2, d2, rfl, -, -⟩ := hv
  refine equal_any _ _ _ _ _ _ _ _ _ _ _ _ w (fun w => isnum_f x w) (fun w => isnum_i _ _ _ _ _ _ w) (fun wx hF => ?_)
  refine (cmpFI_c x _ z wx hx hf (hv'.fr hF) hz).mono ?_
  rintro e w' ⟨rfl, h⟩
  rw [hc]
  exact ⟨rfl, h⟩
theorem big_lt' {z : Int} (h : z.natAbs < Big) : Sm z := by
  unfold Sm; unfold Big at h
  exact Nat.lt_of_lt_of_le h (Nat.pow_le_pow_right (by decide) (by decide))
def ArgO (z : Int) (y : Nat) (b : Bool) : Prop := b = true → y < 18446744073709551616 ∧ Fl.Fin y ∧ cfl z y = 0
def fb (y : Nat) : Bool := decide (y % 9223372036854775808 < 9218868437227405312)
theorem ok_fin (y : Nat) (w : World) : Calls Tryz.prog 7 #[.float .f64 y] w fun e w' => e = .returned (.bool (fb y)) ∧ w = w' := by
  unfold fb
  by_cases hf : y % 9223372036854775808 < 9218868437227405312
  · rw [decide_eq_true hf]; exact fin_yes y hf w
  · rw [decide_eq_false hf]; exact fin_no y (by omega) w
set_option maxRecDepth 100000 in
set_option maxHeartbeats 4000000 in
theorem arg_c (v : Value) (z : Int) (w : World) (hv : Vi w v z) (hz : z.natAbs < Big) :
    Calls Tryz.prog 14 #[v] w fun e w' => ∃ y b, e = .returned (.tuple #[.float .f64 y, .bool b]) ∧ Hid (ArgO z y b ∧ Fr w w' No) := by
  have hsm : Sm z := big_lt' hz
  have KV := Lib.hid hv
  obtain ⟨s, A, c, l, B, d, rfl, -, -⟩ := hv
  generalize l.length = n at *
  have KX := Lib.hid (And.intro (By.new w (.int .i64 2) (.bool s) (.slice A n c) (.int .u64 0) (.string ⟨#[]⟩) (.slice B 0 d)) (new40 w #[.int .i64 2, .bool s, .slice A n c, .int .u64 0, .string ⟨#[]⟩, .slice B 0 d] 28))
  have KS := Lib.hid (And.intro hsm hz)
  clear hsm hz
  unfold vIn at *
  go_enter Tryz.func14, Tryz.ntmps14
  go_upto_region 5 with fail
  generalize World.alloc w _ = w2 at *
  obtain ⟨p0, p1, p2, p3, p4, p5⟩ := KX.out.1
  have KN := Lib.hid (fun wx (h : Fr w2 wx No) => numv2_c _ z w2 wx (KV.out.fr KX.out.2) KS.out.1 h)
  go_wp2_with fail
  with_reducible refine (KN.out _ (Fr.refl _ _)).mono ?_
  rintro e w3 ⟨s3, A3, c3, n3, rfl, H3⟩
  go_wp2_with fail
  with_reducible refine (nearest_c _ z _ H3.out.1 KS.out.2).mono ?_
  rintro e w4 ⟨y, rfl, H4⟩
  have F4 := Lib.hid (H3.out.2.2.trans H4.out.2 (fun _ _ _ c => c))
  have KY := Lib.hid (ok_fin y)
  have KA : Hid (fb y = true → y < 18446744073709551616 ∧ Fl.Fin y) := Lib.hid (fun h => ⟨H4.out.1.1, (by unfold fb at h; exact (of_decide_eq_true h : y % 9223372036854775808 < 9218868437227405312))⟩)
  clear p0 p1 p2 p3 p4 p5
  obtain ⟨p0, p1, p2, p3, p4, p5⟩ := KX.out.1.fr F4.out
  have G4 := Lib.hid (KX.out.2.trans F4.out (fun _ _ _ c => c))
  generalize fb y = b at *
  cases b
  · go_wp2_with fail
    with_reducible refine (KY.out _).mono ?_
    rintro e w5 ⟨rfl, rfl⟩
    go_wp2_with fail
    go_ret2
    exact ⟨_, _, rfl, Lib.hid ⟨fun h => (by cases h), G4.out⟩⟩
  · have KB := Lib.hid (KA.out rfl)
    have KC := Lib.hid (fun u wx (h : Sp wx u z) => cmpFloat_c u z y KB.out.1 KB.out.2 wx h KS.out.1)
    go_wp2_with fail
    with_reducible refine (KY.out _).mono ?_
    rintro e w5 ⟨rfl, rfl⟩
    go_wp2_with fail
    with_reducible refine (KN.out _ F4.out).mono ?_
    rintro e w5 ⟨s5, A5, c5, n5, rfl, H5⟩
    go_wp2_with fail
    with_reducible refine (KC.out _ _ H5.out.1).mono ?_
    rintro e w6 ⟨rfl, H6⟩
    have G6 := Lib.hid ((G4.out.trans H5.out.2.1 (fun _ _ _ c => c)).trans H6.out (fun _ _ _ c => c))
    have KZ : Hid (∀ b : Bool, (b = true → cfl z y = 0) → ArgO z y b) := Lib.hid (fun b hb h => ⟨KB.out.1, KB.out.2, hb h⟩)
    generalize cfl z y = k at *
    go_wp2_with fail
    go_ret2
    exact ⟨_, _, rfl, Lib.hid ⟨KZ.out _ (fun h => by simpa using h), G6.out⟩⟩
end Go.Proofs.YtldejfallphhbaaGreatDoor
namespace Go.Proofs.YtldejfallphhbaaGreatDoor
set_option linter.unusedVariables false
set_option exponentiation.threshold 4000
open Go.RowKit
def Up (x : Nat) : Int := -Dn (Fl.wordOf (!Fl.sg x) (Fl.rg x))
theorem up_sm (x : Nat) (hx : x < 18446744073709551616) (hf : Fl.Fin x) : Sm (Up x) := by
  have h := dn_sm (Fl.wordOf (!Fl.sg x) (Fl.rg x)) (Fl.wordOf_lt _ _ hf) (Fl.fin_word _ _ hf)
  unfold Up Sm at *
  rwa [Int.natAbs_neg]
theorem nr_sm (x : Nat) (hx : x < 18446744073709551616) (hf : Fl.Fin x) : Sm (Nr x) := by
  have h := nearN_sm x hx hf
  unfold Nr Sm at *
  rwa [iv_abs]
theorem ceilV (x : Nat) (hx : x < 18446744073709551616) (hf : Fl.Fin x) (w wx : World) (hF : Fr w wx No) :
    Calls Tryz.prog 8 #[.int .i64 0, vFlt x] wx fun e w' => ∃ s A n c, e = .returned (.tuple #[vInt s A n c, .bool true]) ∧ Hid (Vi w' (vInt s A n c) (Up x) ∧ Fr w w' No) := by
  refine (ceil1_f x hx hf wx).mono ?_
  rintro e w' ⟨A, n, c, l, rfl, h⟩
  have hv := vi_of h.out.1
  rw [up_eq x hf] at hv
  exact ⟨_, A, n, c, rfl, Lib.hid ⟨hv, hF.trans h.out.2 (fun _ _ _ c => c)⟩⟩
theorem floorV (x : Nat) (hx : x < 18446744073709551616) (hf : Fl.Fin x) (w wx : World) (hF : Fr w wx No) :
    Calls Tryz.prog 8 #[.int .i64 1, vFlt x] wx fun e w' => ∃ s A n c, e = .returned (.tuple #[vInt s A n c, .bool true]) ∧ Hid (Vi w' (vInt s A n c) (Dn x) ∧ Fr w w' No) := by
  refine (floor1_f x hx hf wx).mono ?_
  rintro e w' ⟨A, n, c, l, rfl, h⟩
  have hv := vi_of h.out.1
  rw [down_eq x] at hv
  exact ⟨_, A, n, c, rfl, Lib.hid ⟨hv, hF.trans h.out.2 (fun _ _ _ c => c)⟩⟩
theorem roundV (x : Nat) (hx : x < 18446744073709551616) (w wx : World) (hF : Fr w wx No) :
    Calls Tryz.prog 8 #[.int .i64 2, vFlt x] wx fun e w' => e = .returned (.tuple #[vFlt (Fl.roundBits x), .bool true]) ∧ Hid (Fr w w' No) := by
  refine (round1_f x hx wx).mono ?_
  rintro e w' ⟨rfl, h⟩
  exact ⟨rfl, Lib.hid (hF.trans h.out (fun _ _ _ c => c))⟩
theorem retS_of {w wx w' : World} {e : Ending} {z : Int} (hF : Fr w wx No) (h : ∃ v, e = .returned v ∧ Hid (Sq w' wx.heap.size v z ∧ Fr wx w' No)) : ∃ s A n c, e = .returned (.agg #[.bool s, .slice A n c]) ∧ Hid (Sp w' (.agg #[.bool s, .slice A n c]) z ∧ Fr w w' No) := by
  obtain ⟨v, rfl, h⟩ := h
  obtain ⟨h1, h2⟩ := h.out
  have h1' := h1.sp
  obtain ⟨s, A, c, l, rfl, h3, h4, h5⟩ := h1
  exact ⟨s, A, _, c, rfl, Lib.hid ⟨h1', hF.trans h2 (fun _ _ _ c => c)⟩⟩
theorem upS (x : Nat) (hx : x < 18446744073709551616) (hf : Fl.Fin x) (w wx : World) (hF : Fr w wx No) :
    Calls Tryz.prog 10 #[.float .f64 x] wx fun e w' => ∃ s A n c, e = .returned (.agg #[.bool s, .slice A n c]) ∧ Hid (Sp w' (.agg #[.bool s, .slice A n c]) (Up x) ∧ Fr w w' No) :=
  (up_c x hx hf wx).mono (fun e w' h => retS_of hF h)
theorem downS (x : Nat) (hx : x < 18446744073709551616) (hf : Fl.Fin x) (w wx : World) (hF : Fr w wx No) :
    Calls Tryz.prog 11 #[.float .f64 x] wx fun e w' => ∃ s A n c, e = .returned (.agg #[.bool s, .slice A n c]) ∧ Hid (Sp w' (.agg #[.bool s, .slice A n c]) (Dn x) ∧ Fr w w' No) :=
  (down_c x hx hf wx).mono (fun e w' h => retS_of hF h)
theorem nearS (x : Nat) (hx : x < 18446744073709551616) (hf : Fl.Fin x) (w wx : World) (hF : Fr w wx No) :
    Calls Tryz.prog 13 #[.float .f64 x] wx fun e w' => ∃ s A n c, e = .returned (.agg #[.bool s, .slice A n c]) ∧ Hid (Sp w' (.agg #[.bool s, .slice A n c]) (Nr x) ∧ Fr w w' No) :=
  (near2_c x hx hf wx).mono (fun e w' h => retS_of hF h)
theorem valV (v : Value) (z : Int) (w wx : World) (hv : Sp wx v z) (hz : Sm z) (hF : Fr w wx No) :
    Calls Tryz.prog 5 #[v] wx fun e w' => ∃ s A n c B d, e = .returned (.agg #[.int .i64 2, .bool s, .slice A n c, .int .u64 0, .string ⟨#[]⟩, .slice B 0 d]) ∧ Hid (Vi w' (.agg #[.int .i64 2, .bool s, .slice A n c, .int .u64 0, .string ⟨#[]⟩, .slice B 0 d]) z ∧ Fr w w' No) := by
  refine (intVal_c v z wx hv hz).mono ?_
  rintro e w' ⟨u, rfl, h⟩
  obtain ⟨h1, h2⟩ := h.out
  have h3 := h1.vi hz
  obtain ⟨s, A, c, l, B, d, rfl, -, -⟩ := h1
  exact ⟨s, A, _, c, B, d, rfl, Lib.hid ⟨h3, hF.trans h2 (fun _ _ _ c => c)⟩⟩
theorem sameV (u v : Value) (z : Int) (w wx : World) (hu : Vi wx u z) (hv : Vi wx v z) (hz : Sm z) (hF : Fr w wx No) :
    Calls Tryz.prog 9 #[u, v] wx fun e w' => e = .returned (.bool true) ∧ Hid (Fr w w' No) := by
  refine (same_c u v z wx hu hv hz).mono ?_
  rintro e w' ⟨rfl, h⟩
  exact ⟨rfl, Lib.hid (hF.trans h.out (fun _ _ _ c => c))⟩
theorem eqNear (x : Nat) (v : Value) (w wx : World) (hx : x < 18446744073709551616) (hf : Fl.Fin x) (hv : Vi wx v (Nr x)) (hF : Fr w wx No) :
    Calls Tryz.prog 12 #[vFlt (Fl.roundBits x), v] wx fun e w' => e = .returned (.bool true) ∧ Hid (Fr w w' No) := by
  obtain ⟨h1, h2, h3⟩ := round_near x hx hf
  refine (equal_fi _ v _ wx h1 h2 hv (nr_sm x hx hf) h3).mono ?_
  rintro e w' ⟨rfl, h⟩
  exact ⟨rfl, Lib.hid (hF.trans h.out (fun _ _ _ c => c))⟩
def Nv (w : World) (s : Bool) (A : Option Addr) (n c : Nat) (B : Option Addr) (d : Nat) (z : Int) : Prop := ∃ l : List Int, n = l.length ∧ Dl w (.slice A l.length c) l ∧ Ref.Is s l z ∧ l.length ≤ 300
theorem Nv.fr {w w' : World} {s : Bool} {A : Option Addr} {n c : Nat} {B : Option Addr} {d : Nat} {z : Int} (h : Nv w s A n c B d z) (hf : Fr w w' No) : Nv w' s A n c B d z := by
  obtain ⟨l, h1, h2, h3, h4⟩ := h
  exact ⟨l, h1, h2.no hf, h3, h4⟩
theorem can_300 {l : List Int} {N : Nat} (h : Ref.Can l N) (hl : l.length ≤ 300) : N < 256 ^ 300 := by
  have := Ref.val_lt h.byt
  rw [h.val] at this
  exact Nat.lt_of_lt_of_le this (Nat.pow_le_pow_right (by decide) hl)
theorem Nv.big {w : World} {s : Bool} {A : Option Addr} {n c : Nat} {B : Option Addr} {d : Nat} {z : Int} (h : Nv w s A n c B d z) : z.natAbs < Big := by
  obtain ⟨l, h1, h2, h3, h4⟩ := h
  exact Nat.lt_of_lt_of_le (can_300 h3.can h4) (Nat.pow_le_pow_right (by decide) (by decide))
theorem Nv.vi {w : World} {s : Bool} {A : Option Addr} {n c : Nat} {B : Option Addr} {d : Nat} {z : Int} (h : Nv w s A n c B d z) : Vi w (vIn s A n c B d) z := by
  have hz := big_lt' h.big
  obtain ⟨l, rfl, h2, h3, h4⟩ := h
  exact Vd.vi ⟨s, A, c, l, B, d, rfl, h2, h3⟩ hz
theorem ofS (an : Bool) (A : Option Addr) (c : Nat) (l : List Int) (w : World) (h : Rb w A c l) (hb : Ref.Byt l) (hl : l.length ≤ 300) :
    Calls Tryz.prog 6 #[.bool an, .slice A l.length c] w fun e w' => ∃ s A1 n1 c1, e = .returned (.agg #[.bool s, .slice A1 n1 c1]) ∧ Hid (Sp w' (.agg #[.bool s, .slice A1 n1 c1]) (Ref.iv an (Ref.val l)) ∧ Fr w w' No) :=
  (of_c an A c l _ w h hb (by omega) rfl).mono (fun e w' h => retS_of (Fr.refl _ _) h)
theorem val_sm (an : Bool) {l : List Int} (hb : Ref.Byt l) (hl : l.length ≤ 300) : (Ref.iv an (Ref.val l)).natAbs < 256 ^ 300 := by
  rw [iv_abs]
  exact Nat.lt_of_lt_of_le (Ref.val_lt hb) (Nat.pow_le_pow_right (by decide) hl)
theorem valN (v : Value) (z : Int) (w wx : World) (hv : Sp wx v z) (hz : z.natAbs < 256 ^ 300) (hF : Fr w wx No) :
    Calls Tryz.prog 5 #[v] wx fun e w' => ∃ s A n c B d, e = .returned (.agg #[.int .i64 2, .bool s, .slice A n c, .int .u64 0, .string ⟨#[]⟩, .slice B 0 d]) ∧ Hid (Nv w' s A n c B d z ∧ Fr w w' No) := by
  have hsm : Sm z := Nat.lt_of_lt_of_le hz (Nat.pow_le_pow_right (by decide) (by decide))
  refine (intVal_c v z wx hv hsm).mono ?_
  rintro e w' ⟨u, rfl, h⟩
  obtain ⟨h1, h2⟩ := h.out
  obtain ⟨s, A, c, l, B, d, rfl, h3, h4⟩ := h1
  exact ⟨s, A, _, c, B, d, rfl, Lib.hid ⟨⟨l, rfl, h3, h4, h4.can.len_le hz⟩, hF.trans h2 (fun _ _ _ c => c)⟩⟩
def Eqs (w : World) (r v : Value) : Prop := ∀ wx, Fr w wx No → Calls Tryz.prog 12 #[r, v] wx fun e w' => e = .returned (.bool true) ∧ Hid (Fr w w' No)
theorem Eqs.mk {w : World} {r v : Value} (h : ∀ wx, Fr w wx No → Calls Tryz.prog 12 #[r, v] wx fun e w' => e = .returned (.bool true) ∧ Hid (Fr wx w' No)) : Eqs w r v :=
  fun wx hF => (h wx hF).mono (by rintro e w' ⟨rfl, h⟩; exact ⟨rfl, Lib.hid (hF.trans h.out (fun _ _ _ c => c))⟩)
theorem oneV (k : Nat) (hk : k < 3) (s : Bool) (A : Option Addr) (n c : Nat) (B : Option Addr) (d : Nat) (z : Int) (y : Nat) (w wx : World) (hn : Nv w s A n c B d z) (ha : ArgO z y true) (hF : Fr w wx No) :
    Calls Tryz.prog 8 #[.int .i64 (k : Int), vIn s A n c B d] wx fun e w' => ∃ K t T m q X, e = .returned (.tuple #[.agg #[.int .i64 K, .bool t, .slice T m q, .int .u64 X, .string ⟨#[]⟩, .slice none 0 0], .bool true]) ∧ Hid (Eqs w' (.agg #[.int .i64 K, .bool t, .slice T m q, .int .u64 X, .string ⟨#[]⟩, .slice none 0 0]) (vIn s A n c B d) ∧ Fr w w' No) := by
  have hv := hn.vi
  have hz := big_lt' hn.big
  obtain ⟨l, rfl, h2, h3, h4⟩ := hn
  have h2' := h2.no hF
  have he := h3.eq
  have hs := h3.self
  rcases (by omega : k = 0 ∨ k = 1 ∨ k = 2) with rfl | rfl | rfl
  · refine (ceil1_i s (.slice A l.length c) (.slice B 0 d) l wx h4 h2' z.natAbs h3.can).mono ?_
    rintro e w' ⟨A', n', c', l', rfl, h⟩
    have hv1 := vi_of h.out.1
    rw [he] at hv1
    have hF1 := hF.trans h.out.2 (fun _ _ _ c => c)
    exact ⟨_, _, _, _, _, _, rfl, Lib.hid ⟨Eqs.mk (fun w2 h2 => equal_ii _ _ z w2 (hv1.fr h2) (hv.fr (hF1.trans h2 (fun _ _ _ c => c))) hz), hF1⟩⟩
  · refine (floor1_i s (.slice A l.length c) (.slice B 0 d) l wx h4 h2' z.natAbs h3.can).mono ?_
    rintro e w' ⟨A', n', c', l', rfl, h⟩
    have hv1 := vi_of h.out.1
    rw [he] at hv1
    have hF1 := hF.trans h.out.2 (fun _ _ _ c => c)
    exact ⟨_, _, _, _, _, _, rfl, Lib.hid ⟨Eqs.mk (fun w2 h2 => equal_ii _ _ z w2 (hv1.fr h2) (hv.fr (hF1.trans h2 (fun _ _ _ c => c))) hz), hF1⟩⟩
  · obtain ⟨hy, hfy, hc⟩ := ha rfl
    obtain ⟨hU, hzz⟩ := cfl_zero z y hc
    have hab : Nw y = z.natAbs := by rw [hzz, iv_abs]
    rw [hab] at hU
    have h1 : (s && decide (1 ≤ z.natAbs)) = true → 1 ≤ z.natAbs := fun h => by simp at h; exact h.2
    obtain ⟨q1, q2, q3⟩ := round_whole (s && decide (1 ≤ z.natAbs)) (Fl.rg y) z.natAbs hfy hU
    rw [hs, he] at q3
    rw [hs] at q1 q2
    refine (round1_i (Fl.wordOf (s && decide (1 ≤ z.natAbs)) (Fl.rg y)) (Fl.wordOf_lt _ _ hfy) s (.slice A l.length c) (.slice B 0 d) l wx h4 h2' z.natAbs h3.can (fun w1 x yy hI => takes_i z.natAbs (Fl.rg y) _ x yy w1 hI h1 hfy hU)).mono ?_
    rintro e w' ⟨rfl, h⟩
    rw [hs]
    have hF1 := hF.trans h.out (fun _ _ _ c => c)
    exact ⟨_, _, _, _, _, _, rfl, Lib.hid ⟨Eqs.mk (fun w2 h2 => equal_fi _ _ z w2 q1 q2 (hv.fr (hF1.trans h2 (fun _ _ _ c => c))) hz q3), hF1⟩⟩
end Go.Proofs.YtldejfallphhbaaGreatDoor
