/-
  A part of the proof of FnMathWhole (packed out of smaller texts by a program of this session; what the proof does not reach is left out).
-/
import Derived.Test.YtldejfallphhbaaGreatDoorZf
import Derived.Test.YtldejfallphhbaaGreatDoorZe
import Derived.Test.YtldejfallphhbaaGreatDoorZb
import Derived.Test.YtldejfallphhbaaGreatDoorZc
import Derived.Test.YtldejfallphhbaaGreatDoorZa
import Derived.Laws.FloatArith
namespace Go.Proofs.YtldejfallphhbaaGreatDoor
set_option linter.unusedVariables false
open Go.RowKit
theorem setU64_c (x : Nat) (hx : 1 ≤ x) (hx1 : x < 18446744073709551616) (w : World) :
    Calls Tryz.prog 146 #[.slice none 0 0, .int .u64 x] w fun e w' => e = .returned (.slice (some ⟨w.heap.size, 0, none⟩) 1 1) ∧ Hid (Blk w' w.heap.size 1 ∧ Ws w' w.heap.size 0 1 x ∧ Fr w w' No) := by
  have K := Lib.hid (setWord1_c x hx hx1 w)
  clear hx hx1
  go_enter Tryz.func146, Tryz.ntmps146
  go_wp2_with fail
  with_reducible refine K.out.mono ?_
  rintro e w1 ⟨rfl, H⟩
  go_wp2_with fail
  go_returns
  exact ⟨rfl, H⟩
structure C1 (w w' : World) (p o : Nat) (neg : Bool) (b m : Nat) : Prop where
  i : Ci w' p o neg (.slice (some ⟨b, 0, none⟩) 1 1)
  B : Blk w' b 1
  x : w'.cell? ⟨b, 0, none⟩ = some (.int .u64 (m : Int))
  N : w.heap.size ≤ b
  F : Fr w w' (Two p o)
theorem c1_of {w w1 : World} {p o b m : Nat} {nz : Bool} {v0 : Value} (hp : Ci w p o nz v0) (hm : m < 18446744073709551616) (hb : b = w.heap.size) (hB : Blk w1 b 1) (hW : Ws w1 b 0 1 m) (hF : Fr w w1 No) :
    w1.frozen? ⟨p, o, none⟩ = false ∧ w1.frozen? ⟨p, o + 1, none⟩ = false ∧ w1.cell? ⟨p, o, none⟩ = some (.bool nz) ∧ w1.cell? ⟨p, o + 1, none⟩ = some v0 ∧ Hid (C1 w ((w1.setCell ⟨p, o + 1, none⟩ (.slice (some ⟨b, 0, none⟩) 1 1)).setCell ⟨p, o, none⟩ (.bool false)) p o false b m) := by
  have h1 := hp.fr hF (fun c => c) (fun c => c)
  obtain ⟨g1, g2⟩ := h1.put1 (.slice (some ⟨b, 0, none⟩) 1 1)
  obtain ⟨g3, g4⟩ := g1.put false
  have hpl := hp.lt
  have g := (g2.weaken (S2 := Two p o) (fun k j _ c => ⟨c.1, Or.inr c.2⟩)).trans g4 (fun k j _ c => ⟨c.1, Or.inl c.2⟩)
  have hx := hW 0 (by decide)
  rw [Nat.zero_add, show wd m 0 = m from by unfold wd; rw [Nat.pow_zero, Nat.div_one, Nat.mod_eq_of_lt hm]] at hx
  exact ⟨h1.fz _, h1.fz _, h1.c0, h1.c1, Lib.hid ⟨g3, hB.fr g, g.keep hx (fun c => by have : b = p ∧ _ := c; omega), by omega, hF.no.trans g (fun _ _ _ c => c)⟩⟩
set_option maxRecDepth 100000 in
theorem setU_c (p m : Nat) (nz : Bool) (w : World) (hp : Ci w p 0 nz (.slice none 0 0)) (hm : 1 ≤ m) (hm1 : m < 18446744073709551616) :
    Calls Tryz.prog 134 #[.pointer (some ⟨p, 0, none⟩), .int .u64 m] w fun e w' => e = .returned (.pointer (some ⟨p, 0, none⟩)) ∧ Hid (C1 w w' p 0 false w.heap.size m) := by
  have K := Lib.hid (setU64_c m hm hm1 w)
  have KH := Lib.hid hp
  have c1 := hp.c1
  have hm2 := Lib.hid hm1
  clear hp hm hm1
  go_enter Tryz.func134, Tryz.ntmps134
  go_wp2_with fail
  with_reducible refine K.out.mono ?_
  rintro e w1 ⟨rfl, H⟩
  obtain ⟨f0, f1, g0, g1, KC⟩ := c1_of KH.out hm2.out rfl H.out.1 H.out.2.1 H.out.2.2
  go_wp2_with fail
  go_returns
  exact ⟨rfl, KC⟩
structure Lso (w w' : World) (p : Nat) (neg : Bool) (b k c X : Nat) : Prop where
  i : Ci w' p 0 neg (.slice (some ⟨b, 0, none⟩) k c)
  a : Abs w' (.slice (some ⟨b, 0, none⟩) k c) X
  N : w.heap.size ≤ b
  F : Fr w w' (Two p 0)
theorem lso_of {w w1 : World} {p b k c X : Nat} {neg : Bool} {v0 : Value} (hp : Ci w p 0 neg v0) (hX : 1 ≤ X) (h : k ≤ 34 ∧ k ≤ c ∧ c ≤ 4000 ∧ Nrm X k ∧ Ws w1 b 0 k X ∧ Blk w1 b c ∧ w.heap.size ≤ b ∧ Fr w w1 No) :
    w1.frozen? ⟨p, 1, none⟩ = false ∧ w1.cell? ⟨p, 1, none⟩ = some v0 ∧ (w1.setCell ⟨p, 1, none⟩ (.slice (some ⟨b, 0, none⟩) k c)).frozen? ⟨p, 0, none⟩ = false ∧ (w1.setCell ⟨p, 1, none⟩ (.slice (some ⟨b, 0, none⟩) k c)).cell? ⟨p, 0, none⟩ = some (.bool neg) ∧ Hid (Lso w ((w1.setCell ⟨p, 1, none⟩ (.slice (some ⟨b, 0, none⟩) k c)).setCell ⟨p, 0, none⟩ (.bool neg)) p neg b k c X) := by
  obtain ⟨a1, a2, a3, a4, a5, a6, a7, a8⟩ := h
  have h1 := hp.fr a8 (fun c => c) (fun c => c)
  obtain ⟨g1, g2⟩ := h1.put1 (.slice (some ⟨b, 0, none⟩) k c)
  obtain ⟨g3, g4⟩ := g1.put neg
  have hpl := hp.lt
  have g := (g2.weaken (S2 := Two p 0) (fun k j _ c => ⟨c.1, Or.inr c.2⟩)).trans g4 (fun k j _ c => ⟨c.1, Or.inl c.2⟩)
  have hk : 1 ≤ k := by
    refine Nat.le_of_not_lt (fun h => ?_)
    obtain rfl : k = 0 := by omega
    have := a4.1
    rw [Nat.pow_zero] at this
    omega
  exact ⟨h1.fz _, h1.c1, g1.fz _, g1.c0, Lib.hid ⟨g3, Or.inr ⟨b, k, c, rfl, hk, by omega, a2, by omega, a3, a4, a5.fr g (fun i _ c => by have : b = p ∧ _ := c; omega), a6.fr g⟩, a7, a8.no.trans g (fun _ _ _ c => c)⟩⟩
set_option maxRecDepth 100000 in
set_option maxHeartbeats 1000000 in
theorem Lsh_c (p b m s : Nat) (neg : Bool) (w : World) (hp : Ci w p 0 neg (.slice (some ⟨b, 0, none⟩) 1 1)) (hB : Blk w b 1) (hx : w.cell? ⟨b, 0, none⟩ = some (.int .u64 (m : Int))) (hm : 1 ≤ m) (hm1 : m < 18446744073709551616) (hs : 1 ≤ s) (hs2 : s ≤ 2000) :
    Calls Tryz.prog 135 #[.pointer (some ⟨p, 0, none⟩), .pointer (some ⟨p, 0, none⟩), .int .u64 s] w fun e w' => ∃ b k c, e = .returned (.pointer (some ⟨p, 0, none⟩)) ∧ Hid (Lso w w' p neg b k c (m * 2 ^ s)) := by
  have K : Hid (Calls Tryz.prog 147 #[.slice (some ⟨b, 0, none⟩) 1 1, .slice (some ⟨b, 0, none⟩) 1 1, .int .u64 s] w.drew fun e w' => ∃ b k c, e = .returned (.slice (some ⟨b, 0, none⟩) k c) ∧ Hid (k ≤ 34 ∧ k ≤ c ∧ c ≤ 4000 ∧ Nrm (m * 2 ^ s) k ∧ Ws w' b 0 k (m * 2 ^ s) ∧ Blk w' b c ∧ w.heap.size ≤ b ∧ Fr w w' No)) := Lib.hid ((lsh1_c b m s w.drew (hB.fr ((Fr.refl w No).drew)) hx hm1 hs hs2).mono (by
    rintro e w' ⟨b2, k, c, rfl, h⟩
    obtain ⟨a1, a2, a3, a4, a5, a6, a7, a8⟩ := h.out
    exact ⟨b2, k, c, rfl, Lib.hid ⟨a1, a2, a3, a4, a5, a6, a7, ((Fr.refl w No).drew).trans a8 (fun _ _ _ c => c)⟩⟩))
  have KH := Lib.hid hp
  have c0 := hp.c0
  have c1 := hp.c1
  have KX : Hid (1 ≤ m * 2 ^ s) := Lib.hid (Nat.mul_pos hm (Nat.pow_pos (by decide)))
  clear hp hB hx hm hm1 hs hs2
  go_enter Tryz.func135, Tryz.ntmps135
  go_wp2_with fail
  go_region_with (go_at_call 147; with_reducible refine K.out.mono ?_; rintro e w1 ⟨b2, k, c, rfl, H⟩; obtain ⟨f0, g0, f1, g1, KC⟩ := lso_of KH.out KX.out H.out)
  all_goals
    go_wp2_with fail
    go_returns
    exact ⟨b2, k, c, rfl, KC⟩
end Go.Proofs.YtldejfallphhbaaGreatDoor
namespace Go.Proofs.YtldejfallphhbaaGreatDoor
set_option linter.unusedVariables false
open Go.RowKit
theorem and1 (y : Nat) (h : y < 18446744073709551616) : bits .and .u64 (y : Int) 1 = ((y % 2 : Nat) : Int) := by
  have h1 : (BitVec.ofInt 64 (y : Int)).toNat = y := by rw [BitVec.toNat_ofInt]; omega
  have h2 : (BitVec.ofInt 64 1).toNat = 2 ^ 1 - 1 := by decide
  have key : (BitVec.ofInt 64 (y : Int) &&& BitVec.ofInt 64 1).toNat = y % 2 := by
    rw [BitVec.toNat_and, h1, h2, Nat.and_two_pow_sub_one_eq_mod]
  show IntKind.u64.wrap ((BitVec.ofInt 64 (y : Int) &&& BitVec.ofInt 64 1).toNat : Nat) = _
  rw [key, IntKind.wrap_u64]
  omega
structure Sf1 (w w' : World) (p : Nat) (s : Bool) (b m : Nat) : Prop where
  P : Blk w' p 4
  a : Ci w' p 0 s (.slice (some ⟨b, 0, none⟩) 1 1)
  B : Blk w' b 1
  x : w'.cell? ⟨b, 0, none⟩ = some (.int .u64 (m : Int))
  d : Ci w' p 2 false (.slice none 0 0)
  N : w.heap.size ≤ b
  F : Fr w w' (fun k _ => k = p)
theorem sf1_of {w w1 : World} {p b m : Nat} (s : Bool) (hP : Blk w p 4) (hd : Ci w p 2 false (.slice none 0 0)) (h : C1 w w1 p 0 false b m) :
    w1.frozen? ⟨p, 0, none⟩ = false ∧ w1.cell? ⟨p, 0, none⟩ = some (.bool false) ∧ Hid (Sf1 w (w1.setCell ⟨p, 0, none⟩ (.bool s)) p s b m) := by
  obtain ⟨g1, g2⟩ := h.i.put s
  have hpl := hP.lt
  have hN := h.N
  have hF := (h.F.trans g2 (fun k j _ c => ⟨c.1, Or.inl c.2⟩))
  have hF2 : Fr w (w1.setCell ⟨p, 0, none⟩ (.bool s)) (fun k _ => k = p) := hF.weaken (fun k j _ c => c.1)
  exact ⟨h.i.fz 0, h.i.c0, Lib.hid ⟨hP.fr hF2, g1, h.B.fr g2, g2.keep h.x (fun c => by omega), hd.fr hF (fun c => by have : p = p ∧ (2 = 0 ∨ 2 = 0 + 1) := c; omega) (fun c => by have : p = p ∧ (2 + 1 = 0 ∨ 2 + 1 = 0 + 1) := c; omega), hN, hF2⟩⟩
structure Sf2 (w w' : World) (p : Nat) (s : Bool) (b m b1 n1 c1 : Nat) : Prop where
  P : Blk w' p 4
  a : Ci w' p 0 s (.slice (some ⟨b, 0, none⟩) 1 1)
  B : Blk w' b 1
  x : w'.cell? ⟨b, 0, none⟩ = some (.int .u64 (m : Int))
  d : Ci w' p 2 false (.slice (some ⟨b1, 0, none⟩) n1 c1)
  dv : Abs w' (.slice (some ⟨b1, 0, none⟩) n1 c1) 1
  N : w.heap.size ≤ b
  F : Fr w w' (fun k _ => k = p)
theorem sf2_one {w w2 : World} {p b m : Nat} {s : Bool} (h : Sf1 w w2 p s b m) : Calls Tryz.prog 129 #[] w2.drew fun e w3 => ∃ q, e = .returned (.pointer (some ⟨q, 0, none⟩)) ∧ Hid (Calls Tryz.prog 88 #[.pointer (some ⟨p, 2, none⟩), .pointer (some ⟨q, 0, none⟩)] w3 fun e w4 => ∃ b1 n1 c1, e = .returned (.pointer (some ⟨p, 2, none⟩)) ∧ Hid (Sf2 w w4 p s b m b1 n1 c1)) := by
  refine (intOne_c w2.drew).mono ?_
  rintro e w3 ⟨q, v, rfl, o1, o2, o3, o4, _⟩
  have h3 : Fr w2 w3 No := ((Fr.refl w2 No).drew).trans o4 (fun _ _ _ c => c)
  have o3' : w2.heap.size ≤ q := o3
  have hpl := h.P.lt
  have hbl := h.B.lt
  have hN := h.N
  refine ⟨q, rfl, Lib.hid ?_⟩
  refine (set_o p 2 q 0 1 false false v w3 (h.d.fr h3 (fun c => c) (fun c => c)) o1 o2 (Nat.le_refl _) (by omega)).mono ?_
  rintro e w4 ⟨b1, n1, c1, rfl, g1, g2, g3, g4⟩
  have hF := h3.no.trans g4 (fun k j _ c => c)
  have hbp : b ≠ p := by
    have := h.F
    intro e
    have hc := h.x
    rw [e, h.a.c0] at hc
    cases hc
  exact ⟨b1, n1, c1, rfl, Lib.hid ⟨h.P.fr hF, h.a.fr hF (fun c => by have : p = p ∧ (0 = 2 ∨ 0 = 2 + 1) := c; omega) (fun c => by have : p = p ∧ (0 + 1 = 2 ∨ 0 + 1 = 2 + 1) := c; omega), h.B.fr hF, hF.keep h.x (fun c => hbp c.1), g1, g2, hN, h.F.trans (hF.weaken (S2 := fun k _ => k = p) (fun k j _ c => c.1)) (fun _ _ _ c => c)⟩⟩
theorem sf3 {w w4 : World} {p b m b1 n1 c1 sh : Nat} {s : Bool} (h : Sf2 w w4 p s b m b1 n1 c1) (hm : 4503599627370496 ≤ m) (hm1 : m < 18446744073709551616) (hs : 1 ≤ sh) (hs2 : sh ≤ 2000) (wx : World) (hx : Fr w4 wx No) :
    Calls Tryz.prog 135 #[.pointer (some ⟨p, 0, none⟩), .pointer (some ⟨p, 0, none⟩), .int .u64 sh] wx fun e w5 => ∃ b2 k2 c2, e = .returned (.pointer (some ⟨p, 0, none⟩)) ∧ Hid (Ra1 w5 p s (.slice (some ⟨b2, 0, none⟩) k2 c2) (m * 2 ^ sh) b1 c1 ∧ Fr w w5 (fun k _ => k = p) ∧ n1 = 1) := by
  obtain ⟨rfl, hb1⟩ := abs_one h.dv
  refine (Lsh_c p b m sh s wx (h.a.fr hx (fun c => c) (fun c => c)) (h.B.fr hx) (hx.keep h.x (fun c => c)) (by omega) hm1 hs hs2).mono ?_
  rintro e w5 ⟨b2, k2, c2, rfl, HL⟩
  have hF := hx.no.trans HL.out.F (fun k j _ c => c)
  have hF2 : Fr w4 w5 (fun k _ => k = p) := hF.weaken (fun k j _ c => c.1)
  exact ⟨b2, k2, c2, rfl, Lib.hid ⟨⟨h.P.fr hF2, HL.out.i, HL.out.a, h.d.fr hF (fun c => by have : p = p ∧ (2 = 0 ∨ 2 = 0 + 1) := c; omega) (fun c => by have : p = p ∧ (2 + 1 = 0 ∨ 2 + 1 = 0 + 1) := c; omega), h.dv.far h.a.c0 (by simp) hF2⟩, h.F.trans hF2 (fun _ _ _ c => c), rfl⟩⟩
theorem wrap_wrap (n : Nat) (h : n ≤ 2046) : IntKind.u64.wrap (IntKind.i64.wrap (n : Int)) = (n : Int) := by
  have e : IntKind.i64.wrap (n : Int) = (n : Int) := by rw [IntKind.wrap_i64]; omega
  rw [e, IntKind.wrap_u64]; omega
set_option maxRecDepth 100000 in
set_option maxHeartbeats 1000000 in
theorem setFloat_c (p y E f : Nat) (s : Bool) (w : World) (hE0 : E = y / 4503599627370496 % 2048) (hf0 : f = y % 4503599627370496) (hE : 1086 ≤ E) (hE2 : E ≤ 2046) (hB : Blk w p 4) (ha : Ci w p 0 false (.slice none 0 0)) (hb : Ci w p 2 false (.slice none 0 0))
    (ho : Ieee.double.order y 0 = some (if s then .lt else .gt)) :
    Calls Tryz.prog 126 #[.pointer (some ⟨p, 0, none⟩), .float .f64 y] w fun e w' => ∃ b2 k2 c2 b1 c1, e = .returned (.pointer (some ⟨p, 0, none⟩)) ∧ Hid (Ra1 w' p s (.slice (some ⟨b2, 0, none⟩) k2 c2) ((f + 4503599627370496) * 2 ^ (E - 1075)) b1 c1 ∧ Fr w w' (fun k _ => k = p)) := by
  have h59 := e59
  have hf1 : f < 4503599627370496 := by omega
  have e1 : bits BinOp.and IntKind.u64 ((y : Int) / 4503599627370496) 2047 = E := by
    rw [u64_and2047]; omega
  have e1' : (y : Int) / 4503599627370496 % 2048 = (E : Int) := by omega
  have e2 : bits BinOp.and IntKind.u64 (y : Int) 4503599627370495 = f := by rw [u64_and52]; omega
  have e2' : (y : Int) % 4503599627370496 = (f : Int) := by omega
  have e3 : bits BinOp.or IntKind.u64 (f : Int) 4503599627370496 = f + 4503599627370496 := u64_or52 f hf1
  have z1 : ((E : Int) == 2047) = false := by simp; omega
  have z2 : ((E : Int) == 0) = false := by simp; omega
  have z3 : (52 : Int) - ((E : Int) - 1023) = 1075 - (E : Int) := by omega
  have z4 : ¬ (0 : Int) < 1075 - (E : Int) := by omega
  obtain ⟨m, hm⟩ : ∃ m, m = f + 4503599627370496 := ⟨_, rfl⟩
  have hm0 : 4503599627370496 ≤ m := by omega
  have hm1 : m < 18446744073709551616 := by omega
  have KU := Lib.hid (setU_c p m false w ha (by omega) hm1)
  have KP := Lib.hid (And.intro hB hb)
  have KM := Lib.hid hm
  have e4 : (f : Int) + 4503599627370496 = (m : Int) := by omega
  have hso : (FloatKind.f64.format.order y 0 == some Ordering.lt) = s := by
    show (Ieee.double.order y 0 == some Ordering.lt) = s
    rw [ho]; cases s <;> rfl
  rw [← hm]
  clear ho
  clear hE0 hf0 hB ha hb hm
  go_enter Tryz.func126, Tryz.ntmps126
  go_wp2_with fail
  go_loopw [6, 8] (fun v6 v8 wr => v6 = .int .u64 m ∧ v8 = .int .i64 (1075 - (E : Int)) ∧ wr = w) (fun _ _ _ => 0)
  case atStart => exact ⟨rfl, rfl, rfl⟩
  case round =>
    obtain ⟨rfl, rfl, rfl⟩ := hrel
    have am : bits BinOp.and IntKind.u64 (m : Int) 1 = ((m % 2 : Nat) : Int) := and1 m hm1
    have KS1 := Lib.hid (fun (w1 : World) (h : C1 wr w1 p 0 false wr.heap.size m) => sf1_of s KP.out.1 KP.out.2 h)
    have hsh : (-(1075 - (E : Int))) = ((E - 1075 : Nat) : Int) := by omega
    have hsh2 : IntKind.u64.wrap (-(1075 - (E : Int))) = ((E - 1075 : Nat) : Int) := by rw [IntKind.wrap_u64]; omega
    have hsh3 : (E : Int) - 1075 = ((E - 1075 : Nat) : Int) := by omega
    have hsh4 : IntKind.u64.wrap ((E : Int) - 1075) = ((E - 1075 : Nat) : Int) := by rw [IntKind.wrap_u64]; omega
    have am2 : (m : Int) % 2 = ((m % 2 : Nat) : Int) := by omega
    rcases (by omega : m % 2 = 0 ∨ m % 2 = 1) with hp | hp
    all_goals
      rw [hp] at am am2
      go_wp2_with fail
      with_reducible refine KU.out.mono ?_
      rintro e w1 ⟨rfl, HC⟩
      obtain ⟨f0, g0, HS⟩ := KS1.out w1 HC.out
      go_upto_region 17 with fail
      have K17 := Lib.hid (sf2_one HS.out)
      go_cut [4] (fun s4 wx => s4 = .pointer none ∧ ∃ b1 n1 c1, Hid (Sf2 wr wx p s wr.heap.size m b1 n1 c1))
      case first =>
        go_region_held3 (fun w' => True) (first | exact trivial) (first | (go_at_call 129; refine K17.out.mono ?_; rintro e w3 ⟨q, rfl, K88⟩) | (go_at_call 88; refine K88.out.mono ?_; rintro e w4 ⟨b1, n1, c1, rfl, HH⟩))
        all_goals
          go_wp2_with fail
          go_meet
          case rel => exact ⟨rfl, b1, n1, c1, HH⟩
      case rest =>
        obtain ⟨rfl, b1, n1, c1, H2⟩ := hcut
        have KW : Hid (IntKind.u64.wrap (IntKind.i64.wrap ((E - 1075 : Nat) : Int)) = ((E - 1075 : Nat) : Int)) := Lib.hid (wrap_wrap (E - 1075) (Nat.le_trans (Nat.sub_le _ _) hE2))
        have K20 := Lib.hid (sf3 (sh := E - 1075) H2.out hm0 hm1 (by omega) (by omega) wc.drew ((Fr.refl wc No).drew))
        go_upto_region 20 with fail
        go_cut [4] (fun s4 wx => s4 = .pointer none ∧ ∃ b2 k2 c2, Hid (Ra1 wx p s (.slice (some ⟨b2, 0, none⟩) k2 c2) (m * 2 ^ (E - 1075)) b1 c1 ∧ Fr wr wx (fun k _ => k = p) ∧ n1 = 1))
        case first =>
          go_region_held3 (fun w' => True) (first | exact trivial) (first | (go_at_call 135; rw [KW.out]; with_reducible refine K20.out.mono ?_; rintro e w5 ⟨b2, k2, c2, rfl, HH⟩))
          all_goals
            go_wp2_with fail
            go_meet
            case rel => exact ⟨rfl, b2, k2, c2, HH⟩
        case rest =>
          rename_i wd
          obtain ⟨rfl, b2, k2, c2, H3⟩ := hcut
          have KN := Lib.hid (norm1_c p (m * 2 ^ (E - 1075)) s _ b1 c1 _ H3.out.1 (by
            have : 1 * 1 ≤ m * 2 ^ (E - 1075) := Nat.mul_le_mul (by omega) (Nat.pow_pos (by decide))
            have h2 : m * 1 ≤ m * 2 ^ (E - 1075) := Nat.mul_le_mul_left _ (Nat.pow_pos (by decide))
            omega))
          go_wp2_with fail
          with_reducible refine KN.out.mono ?_
          rintro e w6 ⟨rfl, HR, HF⟩
          have K6 := Lib.hid (And.intro HR (H3.out.2.1.trans HF (fun _ _ _ c => c)))
          clear HR HF
          go_wp2_with fail
          go_returns
          exact ⟨b2, k2, c2, b1, c1, rfl, K6⟩
end Go.Proofs.YtldejfallphhbaaGreatDoor
namespace Go.Proofs.YtldejfallphhbaaGreatDoor
set_option linter.unusedVariables false
open Go.RowKit
theorem rat_new (w : World) : let w1 := w.alloc (.cells #[.bool false, .slice none 0 0, .bool false, .slice none 0 0] 197)
    Blk w1 w.heap.size 4 ∧ Ci w1 w.heap.size 0 false (.slice none 0 0) ∧ Ci w1 w.heap.size 2 false (.slice none 0 0) ∧ Fr w w1 No := by
  intro w1
  have hB := Blk.new w #[.bool false, .slice none 0 0, .bool false, .slice none 0 0] 197 4 rfl
  exact ⟨hB, ⟨⟨4, hB, by decide⟩, cell_new w _ 197 0 _ rfl, cell_new w _ 197 1 _ rfl⟩, ⟨⟨4, hB, by decide⟩, cell_new w _ 197 2 _ rfl, cell_new w _ 197 3 _ rfl⟩, new40 w _ 197⟩
set_option maxRecDepth 100000 in
theorem rational_c (y N : Nat) (w : World) (hf : Fl.Fin y) (hU : Fl.U (Fl.rg y) = N * Fl.B) (hN : 9223372036854775808 ≤ N) :
    Calls Tryz.prog 116 #[.float .f64 y] w fun e w' => ∃ p b2 k2 c2 b1 c1, e = .returned (.pointer (some ⟨p, 0, none⟩)) ∧ Hid (Ra1 w' p (Fl.sg y) (.slice (some ⟨b2, 0, none⟩) k2 c2) N b1 c1 ∧ Fr w w' No) := by
  obtain ⟨h1, h2, h3⟩ := Fl.big_parts hf hU hN
  obtain ⟨g1, g2, g3, g4⟩ := rat_new w
  have K := Lib.hid (setFloat_c w.heap.size y _ _ (Fl.sg y) _ rfl rfl h1 h2 g1 g2 g3 (Fl.order_zero hf hU (by omega)))
  rw [← h3] at K
  have KF := Lib.hid g4
  clear h1 h2 h3 g1 g2 g3 g4 hf hU
  go_enter Tryz.func116, Tryz.ntmps116
  go_wp2_with fail
  with_reducible refine K.out.mono ?_
  rintro e w2 ⟨b2, k2, c2, b1, c1, rfl, H⟩
  have KN := Lib.hid (And.intro H.out.1 (KF.out.trans (H.out.2.weaken (S2 := fun k _ => k = w.heap.size) (fun k _ _ c => c)) (fun k j hk c => by have : k = w.heap.size := c; omega)))
  clear H
  go_wp2_with fail
  go_returns
  exact ⟨_, b2, k2, c2, b1, c1, rfl, KN⟩
theorem num_c (p : Nat) (w : World) : Calls Tryz.prog 118 #[.pointer (some ⟨p, 0, none⟩)] w fun e w' => e = .returned (.pointer (some ⟨p, 0, none⟩)) ∧ w' = w := by
  go_enter Tryz.func118, Tryz.ntmps118
  go_wp2_with fail
  go_returns
  exact ⟨rfl, rfl⟩
theorem denom_c (p b1 c1 : Nat) (w : World) (h : w.cell? ⟨p, 3, none⟩ = some (.slice (some ⟨b1, 0, none⟩) 1 c1)) : Calls Tryz.prog 119 #[.pointer (some ⟨p, 0, none⟩)] w fun e w' => e = .returned (.pointer (some ⟨p, 2, none⟩)) ∧ w' = w := by
  go_enter Tryz.func119, Tryz.ntmps119
  go_wp2_with fail
  go_returns
  exact ⟨rfl, rfl⟩
end Go.Proofs.YtldejfallphhbaaGreatDoor
namespace Go.Proofs.YtldejfallphhbaaGreatDoor
set_option linter.unusedVariables false
open Go.RowKit
theorem fin_div {w w2 : World} {p b2 k2 c2 b1 c1 N : Nat} {s : Bool} (hR : Ra1 w2 p s (.slice (some ⟨b2, 0, none⟩) k2 c2) N b1 c1) (hN : 2 ≤ N) (hF : Fr w w2 No) :
    (w2.alloc (.cells #[.bool false, .slice none 0 0] 103)).cell? ⟨p, 3, none⟩ = some (.slice (some ⟨b1, 0, none⟩) 1 c1) ∧
    Calls Tryz.prog 117 #[.pointer (some ⟨w2.heap.size, 0, none⟩), .pointer (some ⟨p, 0, none⟩), .pointer (some ⟨p, 2, none⟩)] (w2.alloc (.cells #[.bool false, .slice none 0 0] 103)) fun e w4 => e = .returned (.pointer (some ⟨w2.heap.size, 0, none⟩)) ∧ Hid (Calls Tryz.prog 70 #[.pointer (some ⟨w2.heap.size, 0, none⟩)] w4 fun e w5 => ∃ x y, e = .returned (.agg #[.int .i64 x, .pointer y]) ∧ Hid (IntV w5 (.agg #[.int .i64 x, .pointer y]) s N ∧ Fr w w5 No)) := by
  have f1 := new40 w2 #[.bool false, .slice none 0 0] 103
  have r1 := hR.no f1
  have hpl := hR.B.lt
  refine ⟨r1.b.c1, ?_⟩
  refine (div_c w2.heap.size p 0 p 2 N b1 c1 false s _ _ (ni_zeroC w2) r1.a r1.av (by omega) r1.b (abs_one r1.bv).2 ⟨by omega, by omega⟩).mono ?_
  rintro e w4 ⟨b, n, c, rfl, g1, g2, g3, g4⟩
  have hB2 : Blk w4 w2.heap.size 2 := (Blk.new w2 #[.bool false, .slice none 0 0] 103 2 rfl).fr g4
  have hw2 : w.heap.size ≤ w2.heap.size := hF.size
  have f4 : Fr w w4 No := (hF.trans f1 (fun _ _ _ c => c)).trans g4 (fun k j hk c => by have : k = w2.heap.size := c; omega)
  refine ⟨rfl, Lib.hid ?_⟩
  refine (MakeBig_c w2.heap.size N s _ w4 ⟨hB2, g1.c0, g1.c1⟩ g2).mono ?_
  rintro e w5 ⟨x, y, rfl, h5⟩
  exact ⟨x, y, rfl, Lib.hid ⟨h5.out.1, f4.trans h5.out.2 (fun _ _ _ c => c)⟩⟩
theorem int_store {w w3 w4 : World} {r : Nat} {x : Int} {y : Option Addr} {neg : Bool} {X : Nat} (hB : Blk w3 r 2) (h0 : w3.cell? ⟨r, 0, none⟩ = some (.int .i64 0)) (hI : IntV w3 (.agg #[.int .i64 x, .pointer y]) neg X) (hF : Fr w w3 No) (hr : w.heap.size ≤ r) (h : (w3.setCell ⟨r, 0, none⟩ (.int .i64 x)).setCell ⟨r, 1, none⟩ (.pointer y) = w4) :
    w4.cell? ⟨r, 0, none⟩ = some (.int .i64 x) ∧ w4.cell? ⟨r, 1, none⟩ = some (.pointer y) ∧ Hid (IntV w4 (.agg #[.int .i64 x, .pointer y]) neg X ∧ Fr w w4 No) := by
  obtain ⟨a, b, c, d⟩ := rd3 hB h hF hr
  exact ⟨a, b, Lib.hid ⟨hI.fr h0 d, c⟩⟩
set_option maxRecDepth 100000 in
set_option maxHeartbeats 1000000 in
theorem finBig_c (y N : Nat) (w : World) (hf : Fl.Fin y) (hU : Fl.U (Fl.rg y) = N * Fl.B) (hN : 9223372036854775808 ≤ N) (hno : ¬ (-9223372036854775808 ≤ Fl.iv (Fl.sg y) N ∧ Fl.iv (Fl.sg y) N < 9223372036854775808)) :
    Calls Tryz.prog 99 #[.float .f64 y] w fun e w' => ∃ x y', e = .returned (.agg #[.int .i64 x, .pointer y']) ∧ Hid (IntV w' (.agg #[.int .i64 x, .pointer y']) (Fl.sg y) N ∧ Fr w w' No) := by
  have q1 : (FloatKind.f64.format.order 14114281232179134464 y == some Ordering.lt || FloatKind.f64.format.order 14114281232179134464 y == some Ordering.eq) = decide (-9223372036854775808 ≤ Fl.iv (Fl.sg y) N) := Fl.le_63 hf hU
  have q2 : (FloatKind.f64.format.order y 4890909195324358656 == some Ordering.lt) = decide (Fl.iv (Fl.sg y) N < 9223372036854775808) := Fl.lt_63 hf hU
  have A0 := new40 w #[.int .i64 0, .pointer none] 74
  have KA := Lib.hid A0
  have KB := Lib.hid (And.intro (Blk.new w #[.int .i64 0, .pointer none] 74 2 rfl) (cell_new w #[.int .i64 0, .pointer none] 74 0 _ rfl))
  have K := Lib.hid (rational_c y N (w.alloc (.cells #[.int .i64 0, .pointer none] 74)) hf hU hN)
  have KN := Lib.hid hN
  generalize Fl.iv (Fl.sg y) N = v at *
  generalize Fl.sg y = s at *
  have hno2 : ¬ (-9223372036854775808 ≤ v) ∨ (-9223372036854775808 ≤ v ∧ ¬ v < 9223372036854775808) := by omega
  clear hf hU hN A0 hno
  rcases hno2 with n1 | ⟨n1, n2⟩
  · rw [decide_eq_false n1] at q1
    clear q2
    go_enter Tryz.func99, Tryz.ntmps99
    go_wp2_with fail
    with_reducible refine K.out.mono ?_
    rintro e w2 ⟨p, b2, k2, c2, b1, c1, rfl, HR⟩
    have KF2 := Lib.hid (KA.out.trans HR.out.2 (fun _ _ _ c => c))
    obtain ⟨d3, KD⟩ := fin_div HR.out.1 (Nat.le_trans (by decide) KN.out) HR.out.2
    have KD2 := Lib.hid KD
    have KM := Lib.hid num_c
    have KO := Lib.hid (denom_c p b1 c1 _ d3)
    have KB2 := Lib.hid (And.intro (KB.out.1.fr HR.out.2) (HR.out.2.keep KB.out.2 (fun c => c)))
    clear KD d3
    go_wp2_with fail
    with_reducible refine (KM.out p _).mono ?_
    rintro e w3 ⟨rfl, rfl⟩
    go_wp2_with fail
    with_reducible refine KO.out.mono ?_
    rintro e w3 ⟨rfl, rfl⟩
    go_wp2_with fail
    with_reducible refine KD2.out.mono ?_
    rintro e w4 ⟨rfl, K70⟩
    go_wp2_with fail
    with_reducible refine K70.out.mono ?_
    rintro e w5 ⟨x5, y5, rfl, H5⟩
    have hB5 := KB.out.1.fr H5.out.2
    have fz0 := hB5.fz 0
    have fz1 := hB5.fz 1
    obtain ⟨v0, hv0⟩ := hB5.here 0 (by decide)
    obtain ⟨v1, hv1⟩ := hB5.here 1 (by decide)
    have K5 := Lib.hid (And.intro hB5 (And.intro (H5.out.2.keep KB.out.2 (fun c => c)) (And.intro H5.out.1 (KA.out.trans H5.out.2 (fun _ _ _ c => c)))))
    clear hB5 H5
    go_wp2_with fail
    generalize hw : World.setCell _ _ _ = w6
    obtain ⟨r0, r1, KI⟩ := int_store K5.out.1 K5.out.2.1 K5.out.2.2.1 K5.out.2.2.2 (Nat.le_refl _) hw
    clear hw
    refine bodyPost_ret (by simp [results, Tryz.results99, go_sem, r0, r1]; try rfl) rfl ?_
    exact ⟨_, _, rfl, KI⟩
  · rw [decide_eq_true n1] at q1
    rw [decide_eq_false n2] at q2
    go_enter Tryz.func99, Tryz.ntmps99
    go_wp2_with fail
    with_reducible refine K.out.mono ?_
    rintro e w2 ⟨p, b2, k2, c2, b1, c1, rfl, HR⟩
    have KF2 := Lib.hid (KA.out.trans HR.out.2 (fun _ _ _ c => c))
    obtain ⟨d3, KD⟩ := fin_div HR.out.1 (Nat.le_trans (by decide) KN.out) HR.out.2
    have KD2 := Lib.hid KD
    have KM := Lib.hid num_c
    have KO := Lib.hid (denom_c p b1 c1 _ d3)
    have KB2 := Lib.hid (And.intro (KB.out.1.fr HR.out.2) (HR.out.2.keep KB.out.2 (fun c => c)))
    clear KD d3
    go_wp2_with fail
    with_reducible refine (KM.out p _).mono ?_
    rintro e w3 ⟨rfl, rfl⟩
    go_wp2_with fail
    with_reducible refine KO.out.mono ?_
    rintro e w3 ⟨rfl, rfl⟩
    go_wp2_with fail
    with_reducible refine KD2.out.mono ?_
    rintro e w4 ⟨rfl, K70⟩
    go_wp2_with fail
    with_reducible refine K70.out.mono ?_
    rintro e w5 ⟨x5, y5, rfl, H5⟩
    have hB5 := KB.out.1.fr H5.out.2
    have fz0 := hB5.fz 0
    have fz1 := hB5.fz 1
    obtain ⟨v0, hv0⟩ := hB5.here 0 (by decide)
    obtain ⟨v1, hv1⟩ := hB5.here 1 (by decide)
    have K5 := Lib.hid (And.intro hB5 (And.intro (H5.out.2.keep KB.out.2 (fun c => c)) (And.intro H5.out.1 (KA.out.trans H5.out.2 (fun _ _ _ c => c)))))
    clear hB5 H5
    go_wp2_with fail
    generalize hw : World.setCell _ _ _ = w6
    obtain ⟨r0, r1, KI⟩ := int_store K5.out.1 K5.out.2.1 K5.out.2.2.1 K5.out.2.2.2 (Nat.le_refl _) hw
    clear hw
    refine bodyPost_ret (by simp [results, Tryz.results99, go_sem, r0, r1]; try rfl) rfl ?_
    exact ⟨_, _, rfl, KI⟩
set_option maxRecDepth 100000 in
set_option maxHeartbeats 1000000 in
theorem finSmall_c (y N : Nat) (w : World) (hf : Fl.Fin y) (hU : Fl.U (Fl.rg y) = N * Fl.B) (h1 : -9223372036854775808 ≤ Fl.iv (Fl.sg y) N) (h2 : Fl.iv (Fl.sg y) N < 9223372036854775808) :
    Calls Tryz.prog 99 #[.float .f64 y] w fun e w' => ∃ x y', e = .returned (.agg #[.int .i64 x, .pointer y']) ∧ Hid (IntV w' (.agg #[.int .i64 x, .pointer y']) (Fl.sg y && decide (1 ≤ N)) N ∧ Fr w w' No) := by
  have q1 : (FloatKind.f64.format.order 14114281232179134464 y == some Ordering.lt || FloatKind.f64.format.order 14114281232179134464 y == some Ordering.eq) = decide (-9223372036854775808 ≤ Fl.iv (Fl.sg y) N) := Fl.le_63 hf hU
  have q2 : (FloatKind.f64.format.order y 4890909195324358656 == some Ordering.lt) = decide (Fl.iv (Fl.sg y) N < 9223372036854775808) := Fl.lt_63 hf hU
  have hv : floatToIntVal .f64 y .i64 = some (Fl.iv (Fl.sg y) N) := by
    have h := Fl.toInt_whole y N hf hU
    unfold floatToIntVal
    show (match (Ieee.double.read y).toInt .zero with | some n => _ | none => _) = _
    rw [h]
    exact if_pos ⟨h1, by show Fl.iv (Fl.sg y) N ≤ 9223372036854775807; omega⟩
  have hconv : ∀ w : World, (convert 76 2 (.float .f64 y)).run Tryz.prog w = .ok (.int .i64 (Fl.iv (Fl.sg y) N)) w := fun w => run_convert_float_int w 76 2 .f64 .i64 y _ (by kernel_rfl) Tryz.underlying2 hv
  obtain ⟨ng, hng⟩ : ∃ ng, ng = (Fl.sg y && decide (1 ≤ N)) := ⟨_, rfl⟩
  have hiv : Fl.iv (Fl.sg y) N = (if ng then -(N : Int) else (N : Int)) := by
    rw [hng]; unfold Fl.iv
    cases Fl.sg y
    · rfl
    · rcases Nat.eq_zero_or_pos N with rfl | hp
      · rfl
      · rw [decide_eq_true (show 1 ≤ N from hp)]; rfl
  have hb : N ≤ 9223372036854775808 ∧ (ng = true → 1 ≤ N) ∧ (ng = false → N < 9223372036854775808) := by
    rw [hiv] at h1 h2
    cases ng
    · simp only [Bool.false_eq_true, if_false] at h1 h2
      exact ⟨by omega, (fun h => by cases h), (fun _ => by omega)⟩
    · simp only [if_true] at h1 h2
      have : 1 ≤ N := by simp at hng; exact hng.2
      exact ⟨by omega, (fun _ => this), (fun h => by cases h)⟩
  rw [← hng]
  rw [decide_eq_true h1] at q1
  rw [decide_eq_true h2] at q2
  have KA := Lib.hid (new40 w #[.int .i64 0, .pointer none] 74)
  have KB := Lib.hid (And.intro (Blk.new w #[.int .i64 0, .pointer none] 74 2 rfl) (cell_new w #[.int .i64 0, .pointer none] 74 0 _ rfl))
  have KM := Lib.hid (makeInt64_c N ng hb.1 hb.2.1 hb.2.2 (w.alloc (.cells #[.int .i64 0, .pointer none] 74)))
  rw [← hiv] at KM
  generalize Fl.iv (Fl.sg y) N = v at *
  clear hb hiv hng h1 h2 hv hU hf
  go_enter Tryz.func99, Tryz.ntmps99
  go_wp2_with fail
  with_reducible refine KM.out.mono ?_
  rintro e w5 ⟨x5, y5, rfl, H5⟩
  have hB5 := KB.out.1.fr H5.out.2
  have fz0 := hB5.fz 0
  have fz1 := hB5.fz 1
  obtain ⟨v0, hv0⟩ := hB5.here 0 (by decide)
  obtain ⟨v1, hv1⟩ := hB5.here 1 (by decide)
  have K5 := Lib.hid (And.intro hB5 (And.intro (H5.out.2.keep KB.out.2 (fun c => c)) (And.intro H5.out.1 (KA.out.trans H5.out.2 (fun _ _ _ c => c)))))
  clear hB5 H5
  go_wp2_with fail
  generalize hw : World.setCell _ _ _ = w6
  obtain ⟨r0, r1, KI⟩ := int_store K5.out.1 K5.out.2.1 K5.out.2.2.1 K5.out.2.2.2 (Nat.le_refl _) hw
  clear hw
  refine bodyPost_ret (by simp [results, Tryz.results99, go_sem, r0, r1]; try rfl) rfl ?_
  exact ⟨_, _, rfl, KI⟩
theorem finToInt_c (y N : Nat) (w : World) (hf : Fl.Fin y) (hU : Fl.U (Fl.rg y) = N * Fl.B) :
    Calls Tryz.prog 99 #[.float .f64 y] w fun e w' => ∃ x y', e = .returned (.agg #[.int .i64 x, .pointer y']) ∧ Hid (IntV w' (.agg #[.int .i64 x, .pointer y']) (Fl.sg y && decide (1 ≤ N)) N ∧ Fr w w' No) := by
  by_cases h1 : -9223372036854775808 ≤ Fl.iv (Fl.sg y) N ∧ Fl.iv (Fl.sg y) N < 9223372036854775808
  · exact finSmall_c y N w hf hU h1.1 h1.2
  · have hN : 9223372036854775808 ≤ N := by
      unfold Fl.iv at h1
      split at h1 <;> omega
    have := finBig_c y N w hf hU hN h1
    rwa [decide_eq_true (show 1 ≤ N by omega), Bool.and_true]
end Go.Proofs.YtldejfallphhbaaGreatDoor
namespace Go.Proofs.YtldejfallphhbaaGreatDoor
set_option linter.unusedVariables false
open Go.RowKit
theorem inf_no (y : Nat) (hf : Fl.Fin y) (w : World) : Calls Tryz.prog 17 #[.float .f64 y, .int .i64 0] w fun e w' => e = .returned (.bool false) ∧ w = w' := by
  refine inf_c0 y false ?_ w
  have hf' : y % 9223372036854775808 < 9218868437227405312 := hf
  rcases order_max (y % 9223372036854775808) (by omega) with h | h <;> rw [h] <;> rfl
theorem nan_no (y : Nat) (hf : Fl.Fin y) (w : World) : Calls Tryz.prog 16 #[.float .f64 y] w fun e w' => e = .returned (.bool false) ∧ w = w' := by
  refine isnan_c y false ?_ w
  rw [order_self y hf]; rfl
set_option maxRecDepth 100000 in
set_option maxHeartbeats 1000000 in
theorem numToInt_c (y N : Nat) (w : World) (hf : Fl.Fin y) (hU : Fl.U (Fl.rg y) = N * Fl.B) :
    Calls Tryz.prog 74 #[.iface 76 (.float .f64 y)] w fun e w' => ∃ x y', e = .returned (.tuple #[.agg #[.int .i64 x, .pointer y'], .nilIface]) ∧ Hid (IntV w' (.agg #[.int .i64 x, .pointer y']) (Fl.sg y && decide (1 ≤ N)) N ∧ Fr w w' No) := by
  have a1 := as_76_74
  have a2 := as_76
  have KI := Lib.hid (inf_no y hf)
  have KNn := Lib.hid (nan_no y hf)
  have KA := Lib.hid (new40 w #[.int .i64 0, .pointer none] 74)
  have KB := Lib.hid (And.intro (Blk.new w #[.int .i64 0, .pointer none] 74 2 rfl) (cell_new w #[.int .i64 0, .pointer none] 74 0 _ rfl))
  have K := Lib.hid (finToInt_c y N (w.alloc (.cells #[.int .i64 0, .pointer none] 74)) hf hU)
  clear hf hU
  go_enter Tryz.func74, Tryz.ntmps74
  go_wp2_with fail
  refine (KI.out _).mono ?_
  rintro e w' ⟨rfl, rfl⟩
  go_wp2_with fail
  refine (KNn.out _).mono ?_
  rintro e w' ⟨rfl, rfl⟩
  go_wp2_with fail
  with_reducible refine K.out.mono ?_
  rintro e w5 ⟨x5, y5, rfl, H5⟩
  have hB5 := KB.out.1.fr H5.out.2
  have fz0 := hB5.fz 0
  have fz1 := hB5.fz 1
  obtain ⟨v0, hv0⟩ := hB5.here 0 (by decide)
  obtain ⟨v1, hv1⟩ := hB5.here 1 (by decide)
  have K5 := Lib.hid (And.intro hB5 (And.intro (H5.out.2.keep KB.out.2 (fun c => c)) (And.intro H5.out.1 (KA.out.trans H5.out.2 (fun _ _ _ c => c)))))
  clear hB5 H5
  go_wp2_with fail
  generalize hw : World.setCell _ _ _ = w6
  obtain ⟨r0, r1, KR⟩ := int_store K5.out.1 K5.out.2.1 K5.out.2.2.1 K5.out.2.2.2 (Nat.le_refl _) hw
  clear hw
  refine bodyPost_ret (by simp [results, Tryz.results74, go_sem, r0, r1]; try rfl) rfl ?_
  exact ⟨_, _, rfl, KR⟩
end Go.Proofs.YtldejfallphhbaaGreatDoor
namespace Go.Proofs.YtldejfallphhbaaGreatDoor
set_option linter.unusedVariables false
open Go.RowKit
theorem upos_h (s : ByteArray) (t : TypeId) (v : Value) (g : Nat) (w : World) (hg : w.cell? ⟨g, 0, none⟩ = some (.iface t v)) :
    Calls Tryz.prog 73 #[.string s, .slice (some ⟨g, 0, none⟩) 1 1, .slice none 0 0, .int .i64 1, .slice (some ⟨w.heap.size + 1, 0, none⟩) 1 1] ((w.alloc (.cells #[.nilIface] 45)).alloc (.cells #[.iface 112 (.pointer (some ⟨w.heap.size, 0, none⟩))] 20)) fun e w' => e = .returned .nilIface ∧ w'.cell? ⟨w.heap.size, 0, none⟩ = some (.iface t v) ∧ Hid (Fr w w' No) := by
  have f1 := new40 w #[.nilIface] 45
  have f2 := new40 (w.alloc (.cells #[.nilIface] 45)) #[.iface 112 (.pointer (some ⟨w.heap.size, 0, none⟩))] 20
  have s1 : (w.alloc (.cells #[.nilIface] 45)).heap.size = w.heap.size + 1 := size_new _ _
  have b1 := (Blk.new w #[.nilIface] 45 1 rfl).fr f2
  have c2 := cell_new (w.alloc (.cells #[.nilIface] 45)) #[.iface 112 (.pointer (some ⟨w.heap.size, 0, none⟩))] 20 0 _ rfl
  rw [s1] at c2
  have f12 := f1.trans f2 (fun _ _ _ c => c)
  refine (upos_c s t v g (w.heap.size + 1) w.heap.size _ b1 (f12.keep hg (fun c => c)) c2).mono ?_
  rintro e w' ⟨rfl, rfl⟩
  have hF : Fr ((w.alloc (.cells #[.nilIface] 45)).alloc (.cells #[.iface 112 (.pointer (some ⟨w.heap.size, 0, none⟩))] 20)) (World.setCell ((w.alloc (.cells #[.nilIface] 45)).alloc (.cells #[.iface 112 (.pointer (some ⟨w.heap.size, 0, none⟩))] 20)) ⟨w.heap.size, 0, none⟩ (.iface t v)) (Al w.heap.size) := (Fr.refl _ _).set _ _ _ (fun _ => rfl)
  exact ⟨rfl, b1.get 0 (by decide) _, Lib.hid (f12.trans hF (fun k j hk c => by have : k = w.heap.size := c; omega))⟩
set_option maxRecDepth 100000 in
set_option maxHeartbeats 1000000 in
theorem ceil_f (x g : Nat) (w : World) (hf : Fl.Fin x) (hg : w.cell? ⟨g, 0, none⟩ = some (.iface 76 (.float .f64 x))) :
    Calls Tryz.prog 45 #[.pointer none, .pointer none, .slice (some ⟨g, 0, none⟩) 1 1, .slice none 0 0] w fun e w' => ∃ x' y', e = .returned (.tuple #[.iface 74 (.agg #[.int .i64 x', .pointer y']), .nilIface]) ∧ Hid (IntV w' (.agg #[.int .i64 x', .pointer y']) (Fl.sg x && decide (1 ≤ Fl.wholeN .up x)) (Fl.wholeN .up x) ∧ Fr w w' No) := by
  have a1 := as_76_74
  have a2 := as_76
  have KU := Lib.hid (fun s => upos_h s 76 (.float .f64 x) g w hg)
  have KC := Lib.hid (ceil_c x hf)
  obtain ⟨r, hr, hU, hw⟩ := Fl.encode_integral .up (by decide) x hf
  have KN := Lib.hid (numToInt_c (Fl.wordOf (Fl.sg x) r) (Fl.wholeN .up x))
  have KH := Lib.hid (And.intro (Fl.fin_word (Fl.sg x) r hr) (by rw [Fl.rg_word _ _ hr]; exact hU : Fl.U (Fl.rg (Fl.wordOf (Fl.sg x) r)) = Fl.wholeN .up x * Fl.B))
  rw [Fl.sg_word _ _ hr] at KN
  rw [hw] at KC
  generalize Fl.wordOf (Fl.sg x) r = y at *
  generalize Fl.sg x = sx at *
  generalize Fl.wholeN .up x = N at *
  clear hf hg hr hU hw
  go_enter Tryz.func45, Tryz.ntmps45
  go_wp2_with fail
  with_reducible refine (KU.out _).mono ?_
  rintro e w3 ⟨rfl, c3, HF⟩
  go_wp2_with fail
  refine (KC.out _).mono ?_
  rintro e w4 ⟨rfl, rfl⟩
  go_wp2_with fail
  with_reducible refine (KN.out _ KH.out.1 KH.out.2).mono ?_
  rintro e w5 ⟨x5, y5, rfl, H5⟩
  have K5 := Lib.hid (And.intro H5.out.1 (HF.out.trans H5.out.2 (fun _ _ _ c => c)))
  clear H5 HF
  go_wp2_with fail
  go_returns
  exact ⟨_, _, rfl, K5⟩
set_option maxRecDepth 100000 in
set_option maxHeartbeats 1000000 in
theorem ceil_i (x : Int) (y : Option Addr) (ng : Bool) (X g : Nat) (w : World) (hI : IntV w (.agg #[.int .i64 x, .pointer y]) ng X) (hg : w.cell? ⟨g, 0, none⟩ = some (.iface 74 (.agg #[.int .i64 x, .pointer y]))) :
    Calls Tryz.prog 45 #[.pointer none, .pointer none, .slice (some ⟨g, 0, none⟩) 1 1, .slice none 0 0] w fun e w' => e = .returned (.tuple #[.iface 74 (.agg #[.int .i64 x, .pointer y]), .nilIface]) ∧ Hid (IntV w' (.agg #[.int .i64 x, .pointer y]) ng X ∧ Fr w w' No) := by
  have a1 := as_74
  have KU := Lib.hid (fun s => upos_h s 74 (.agg #[.int .i64 x, .pointer y]) g w hg)
  have KI := Lib.hid hI
  clear hg hI
  go_enter Tryz.func45, Tryz.ntmps45
  go_wp2_with fail
  with_reducible refine (KU.out _).mono ?_
  rintro e w3 ⟨rfl, c3, HF⟩
  have KF := Lib.hid (HF.out.trans (new40 w3 #[.int .i64 x, .pointer y] 74) (fun _ _ _ c => c))
  have K5 := Lib.hid (And.intro (KI.out.no KF.out) KF.out)
  go_wp2_with fail
  go_returns
  exact ⟨rfl, K5⟩
theorem zzceil_f (x : Nat) (w : World) (hf : Fl.Fin x) :
    Calls Tryz.prog 20 #[.iface 76 (.float .f64 x)] w fun e w' => ∃ x' y', e = .returned (.tuple #[.iface 74 (.agg #[.int .i64 x', .pointer y']), .nilIface]) ∧ Hid (IntV w' (.agg #[.int .i64 x', .pointer y']) (Fl.sg x && decide (1 ≤ Fl.wholeN .up x)) (Fl.wholeN .up x) ∧ Fr w w' No) := by
  have hc := cell_new w #[.iface 76 (.float .f64 x)] 45 0 _ rfl
  have K := Lib.hid (ceil_f x w.heap.size _ hf hc)
  have KF := Lib.hid (new40 w #[.iface 76 (.float .f64 x)] 45)
  clear hf hc
  go_enter Tryz.func20, Tryz.ntmps20
  go_wp2_with fail
  with_reducible refine K.out.mono ?_
  rintro e w3 ⟨x5, y5, rfl, H5⟩
  have K5 := Lib.hid (And.intro H5.out.1 (KF.out.trans H5.out.2 (fun _ _ _ c => c)))
  clear H5
  go_wp2_with fail
  go_returns
  exact ⟨_, _, rfl, K5⟩
theorem zzceil_i (x : Int) (y : Option Addr) (ng : Bool) (X : Nat) (w : World) (hI : IntV w (.agg #[.int .i64 x, .pointer y]) ng X) :
    Calls Tryz.prog 20 #[.iface 74 (.agg #[.int .i64 x, .pointer y])] w fun e w' => e = .returned (.tuple #[.iface 74 (.agg #[.int .i64 x, .pointer y]), .nilIface]) ∧ Hid (IntV w' (.agg #[.int .i64 x, .pointer y]) ng X ∧ Fr w w' No) := by
  have hc := cell_new w #[.iface 74 (.agg #[.int .i64 x, .pointer y])] 45 0 _ rfl
  have KF := Lib.hid (new40 w #[.iface 74 (.agg #[.int .i64 x, .pointer y])] 45)
  have K := Lib.hid (ceil_i x y ng X w.heap.size _ (hI.no KF.out) hc)
  clear hI hc
  go_enter Tryz.func20, Tryz.ntmps20
  go_wp2_with fail
  with_reducible refine K.out.mono ?_
  rintro e w3 ⟨rfl, H5⟩
  have K5 := Lib.hid (And.intro H5.out.1 (KF.out.trans H5.out.2 (fun _ _ _ c => c)))
  clear H5
  go_wp2_with fail
  go_returns
  exact ⟨rfl, K5⟩
set_option maxRecDepth 100000 in
set_option maxHeartbeats 1000000 in
theorem floor_f (x g : Nat) (w : World) (hf : Fl.Fin x) (hg : w.cell? ⟨g, 0, none⟩ = some (.iface 76 (.float .f64 x))) :
    Calls Tryz.prog 46 #[.pointer none, .pointer none, .slice (some ⟨g, 0, none⟩) 1 1, .slice none 0 0] w fun e w' => ∃ x' y', e = .returned (.tuple #[.iface 74 (.agg #[.int .i64 x', .pointer y']), .nilIface]) ∧ Hid (IntV w' (.agg #[.int .i64 x', .pointer y']) (Fl.sg x && decide (1 ≤ Fl.wholeN .down x)) (Fl.wholeN .down x) ∧ Fr w w' No) := by
  have a1 := as_76_74
  have a2 := as_76
  have KU := Lib.hid (fun s => upos_h s 76 (.float .f64 x) g w hg)
  have KC := Lib.hid (floor_c x hf)
  obtain ⟨r, hr, hU, hw⟩ := Fl.encode_integral .down (by decide) x hf
  have KN := Lib.hid (numToInt_c (Fl.wordOf (Fl.sg x) r) (Fl.wholeN .down x))
  have KH := Lib.hid (And.intro (Fl.fin_word (Fl.sg x) r hr) (by rw [Fl.rg_word _ _ hr]; exact hU : Fl.U (Fl.rg (Fl.wordOf (Fl.sg x) r)) = Fl.wholeN .down x * Fl.B))
  rw [Fl.sg_word _ _ hr] at KN
  rw [hw] at KC
  generalize Fl.wordOf (Fl.sg x) r = y at *
  generalize Fl.sg x = sx at *
  generalize Fl.wholeN .down x = N at *
  clear hf hg hr hU hw
  go_enter Tryz.func46, Tryz.ntmps46
  go_wp2_with fail
  with_reducible refine (KU.out _).mono ?_
  rintro e w3 ⟨rfl, c3, HF⟩
  go_wp2_with fail
  refine (KC.out _).mono ?_
  rintro e w4 ⟨rfl, rfl⟩
  go_wp2_with fail
  with_reducible refine (KN.out _ KH.out.1 KH.out.2).mono ?_
  rintro e w5 ⟨x5, y5, rfl, H5⟩
  have K5 := Lib.hid (And.intro H5.out.1 (HF.out.trans H5.out.2 (fun _ _ _ c => c)))
  clear H5 HF
  go_wp2_with fail
  go_returns
  exact ⟨_, _, rfl, K5⟩
set_option maxRecDepth 100000 in
set_option maxHeartbeats 1000000 in
theorem floor_i (x : Int) (y : Option Addr) (ng : Bool) (X g : Nat) (w : World) (hI : IntV w (.agg #[.int .i64 x, .pointer y]) ng X) (hg : w.cell? ⟨g, 0, none⟩ = some (.iface 74 (.agg #[.int .i64 x, .pointer y]))) :
    Calls Tryz.prog 46 #[.pointer none, .pointer none, .slice (some ⟨g, 0, none⟩) 1 1, .slice none 0 0] w fun e w' => e = .returned (.tuple #[.iface 74 (.agg #[.int .i64 x, .pointer y]), .nilIface]) ∧ Hid (IntV w' (.agg #[.int .i64 x, .pointer y]) ng X ∧ Fr w w' No) := by
  have a1 := as_74
  have KU := Lib.hid (fun s => upos_h s 74 (.agg #[.int .i64 x, .pointer y]) g w hg)
  have KI := Lib.hid hI
  clear hg hI
  go_enter Tryz.func46, Tryz.ntmps46
  go_wp2_with fail
  with_reducible refine (KU.out _).mono ?_
  rintro e w3 ⟨rfl, c3, HF⟩
  have KF := Lib.hid (HF.out.trans (new40 w3 #[.int .i64 x, .pointer y] 74) (fun _ _ _ c => c))
  have K5 := Lib.hid (And.intro (KI.out.no KF.out) KF.out)
  go_wp2_with fail
  go_returns
  exact ⟨rfl, K5⟩
theorem zzfloor_f (x : Nat) (w : World) (hf : Fl.Fin x) :
    Calls Tryz.prog 21 #[.iface 76 (.float .f64 x)] w fun e w' => ∃ x' y', e = .returned (.tuple #[.iface 74 (.agg #[.int .i64 x', .pointer y']), .nilIface]) ∧ Hid (IntV w' (.agg #[.int .i64 x', .pointer y']) (Fl.sg x && decide (1 ≤ Fl.wholeN .down x)) (Fl.wholeN .down x) ∧ Fr w w' No) := by
  have hc := cell_new w #[.iface 76 (.float .f64 x)] 45 0 _ rfl
  have K := Lib.hid (floor_f x w.heap.size _ hf hc)
  have KF := Lib.hid (new40 w #[.iface 76 (.float .f64 x)] 45)
  clear hf hc
  go_enter Tryz.func21, Tryz.ntmps21
  go_wp2_with fail
  with_reducible refine K.out.mono ?_
  rintro e w3 ⟨x5, y5, rfl, H5⟩
  have K5 := Lib.hid (And.intro H5.out.1 (KF.out.trans H5.out.2 (fun _ _ _ c => c)))
  clear H5
  go_wp2_with fail
  go_returns
  exact ⟨_, _, rfl, K5⟩
theorem zzfloor_i (x : Int) (y : Option Addr) (ng : Bool) (X : Nat) (w : World) (hI : IntV w (.agg #[.int .i64 x, .pointer y]) ng X) :
    Calls Tryz.prog 21 #[.iface 74 (.agg #[.int .i64 x, .pointer y])] w fun e w' => e = .returned (.tuple #[.iface 74 (.agg #[.int .i64 x, .pointer y]), .nilIface]) ∧ Hid (IntV w' (.agg #[.int .i64 x, .pointer y]) ng X ∧ Fr w w' No) := by
  have hc := cell_new w #[.iface 74 (.agg #[.int .i64 x, .pointer y])] 45 0 _ rfl
  have KF := Lib.hid (new40 w #[.iface 74 (.agg #[.int .i64 x, .pointer y])] 45)
  have K := Lib.hid (floor_i x y ng X w.heap.size _ (hI.no KF.out) hc)
  clear hI hc
  go_enter Tryz.func21, Tryz.ntmps21
  go_wp2_with fail
  with_reducible refine K.out.mono ?_
  rintro e w3 ⟨rfl, H5⟩
  have K5 := Lib.hid (And.intro H5.out.1 (KF.out.trans H5.out.2 (fun _ _ _ c => c)))
  clear H5
  go_wp2_with fail
  go_returns
  exact ⟨rfl, K5⟩
end Go.Proofs.YtldejfallphhbaaGreatDoor
