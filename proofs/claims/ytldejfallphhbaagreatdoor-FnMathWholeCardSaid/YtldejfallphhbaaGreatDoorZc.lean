/-
  A part of the proof of FnMathWhole (packed out of smaller texts by a program of this session; what the proof does not reach is left out).
-/
import Derived.Test.YtldejfallphhbaaGreatDoorZ9
namespace Go.Proofs.YtldejfallphhbaaGreatDoor
set_option linter.unusedVariables false
open Go.RowKit
structure Ci (w : World) (p o : Nat) (neg : Bool) (v : Value) : Prop where
  B : ∃ n, Blk w p n ∧ o + 2 ≤ n
  c0 : w.cell? ⟨p, o, none⟩ = some (.bool neg)
  c1 : w.cell? ⟨p, o + 1, none⟩ = some v
def Two (p o : Nat) : Nat → Nat → Prop := fun k j => k = p ∧ (j = o ∨ j = o + 1)
theorem Bi.ci {w : World} {p : Nat} {neg : Bool} {v : Value} (h : Bi w p neg v) : Ci w p 0 neg v := ⟨⟨2, h.B, by decide⟩, h.c0, h.c1⟩
theorem Ci.fr {w w' : World} {S : Nat → Nat → Prop} {p o : Nat} {neg : Bool} {v : Value} (h : Ci w p o neg v) (hf : Fr w w' S) (h0 : ¬ S p o) (h1 : ¬ S p (o + 1)) : Ci w' p o neg v :=
  ⟨by obtain ⟨n, hB, hn⟩ := h.B; exact ⟨n, hB.fr hf, hn⟩, hf.keep h.c0 h0, hf.keep h.c1 h1⟩
theorem Ci.lt {w : World} {p o : Nat} {neg : Bool} {v : Value} (h : Ci w p o neg v) : p < w.heap.size := by
  obtain ⟨n, hB, hn⟩ := h.B; exact hB.lt
theorem Ci.fz {w : World} {p o : Nat} {neg : Bool} {v : Value} (h : Ci w p o neg v) (i : Nat) : w.frozen? ⟨p, i, none⟩ = false := by
  obtain ⟨n, hB, hn⟩ := h.B; exact hB.fz i
theorem Ci.put {w : World} {p o : Nat} {neg : Bool} {v : Value} (h : Ci w p o neg v) (n2 : Bool) : Ci (w.setCell ⟨p, o, none⟩ (.bool n2)) p o n2 v ∧ Fr w (w.setCell ⟨p, o, none⟩ (.bool n2)) (fun k j => k = p ∧ j = o) := by
  obtain ⟨n, hB, hn⟩ := h.B
  have hF : Fr w (w.setCell ⟨p, o, none⟩ (.bool n2)) (fun k j => k = p ∧ j = o) := (Fr.refl _ _).set _ _ _ (fun _ => ⟨rfl, rfl⟩)
  exact ⟨⟨⟨n, hB.fr hF, hn⟩, hB.get o (by omega) _, by rw [cell_set_ne _ _ _ _ _ _ (by omega)]; exact h.c1⟩, hF⟩
theorem Ci.put1 {w : World} {p o : Nat} {neg : Bool} {v : Value} (h : Ci w p o neg v) (v2 : Value) : Ci (w.setCell ⟨p, o + 1, none⟩ v2) p o neg v2 ∧ Fr w (w.setCell ⟨p, o + 1, none⟩ v2) (fun k j => k = p ∧ j = o + 1) := by
  obtain ⟨n, hB, hn⟩ := h.B
  have hF : Fr w (w.setCell ⟨p, o + 1, none⟩ v2) (fun k j => k = p ∧ j = o + 1) := (Fr.refl _ _).set _ _ _ (fun _ => ⟨rfl, rfl⟩)
  exact ⟨⟨⟨n, hB.fr hF, hn⟩, by rw [cell_set_ne _ _ _ _ _ _ (by omega)]; exact h.c0, hB.get (o + 1) (by omega) _⟩, hF⟩
theorem neq_blocks {p oz q ox : Nat} {n1 n2 : Nat} (w : World) (hne : p ≠ q) (hp : Blk w p n1) (hq : Blk w q n2) :
    (binOp .neq 70 (.pointer (some ⟨p, oz, none⟩)) (.pointer (some ⟨q, ox, none⟩))).run Tryz.prog w = .ok (.bool true) w := by
  obtain ⟨ax, tx, hx1, _⟩ := hp
  obtain ⟨ay, ty, hy1, _⟩ := hq
  obtain ⟨j, hte⟩ : ∃ j, Tryz.prog.info? 103 = some j := by
    cases h : Tryz.prog.info? 103 with
    | none => have := info103; rw [h] at this; cases this
    | some j => exact ⟨j, rfl⟩
  have hsz : j.size ≠ 0 := by
    have := info103
    rw [hte] at this
    simp only [Option.map_some, Option.some.injEq, Prod.mk.injEq] at this
    omega
  have h : ∀ d : Nat, (Op.equalIn (d + 1) 70 (.pointer (some ⟨p, oz, none⟩)) (.pointer (some ⟨q, ox, none⟩))).run Tryz.prog w = .ok false w := fun d => by
    simp [Op.equalIn, run_underlying Tryz.underlying70, sizeOf, typeInfo, hte, hsz, run_sameAddr_other w (a := ⟨p, oz, none⟩) (b := ⟨q, ox, none⟩) (by simp [hne]) hx1 hy1]
  simp only [binOp]
  simp [Op.equal, Op.maxDepth, h 9999]
structure SetO (w w2 : World) (p oz q ox : Nat) (neg nz : Bool) (v v2 v0 : Value) (X b : Nat) : Prop where
  F : Fr w w2 No
  P : Ci w2 p oz nz v0
  Q : Ci w2 q ox neg v
  A : ∀ w3, Fr w2 w3 (Two p oz) → Abs w3 v2 X
  N : w.heap.size ≤ b
theorem seto_nat {p oz q ox X : Nat} {neg nz : Bool} {v v0 : Value} {w : World} (hp : Ci w p oz nz v0) (hq : Ci w q ox neg v) (hv : Abs w v X) (hX : 1 ≤ X) :
    Calls Tryz.prog 108 #[.slice none 0 0, v] w.drew fun e w2 => ∃ b n c, e = .returned (.slice (some ⟨b, 0, none⟩) n c) ∧ SetO w w2 p oz q ox neg nz v (.slice (some ⟨b, 0, none⟩) n c) v0 X b := by
  rcases hv with ⟨rfl, rfl⟩ | ⟨b, k, cc, rfl, h1, h2, h3, h4, h5, h6, h7, h8⟩
  · exact absurd hX (by decide)
  · have hW : Ws w.drew b 0 k X := h7
    refine (set_c (.slice none 0 0) 0 b 0 k cc X h1 (by omega) w.drew (Or.inl rfl) hW (fun h => absurd rfl h)).mono ?_
    rintro e w2 ⟨b2, c2, rfl, g1, g2, g3, g4, g5, g6⟩
    have hF : Fr w w2 No := ((Fr.refl w No).drew).trans (g6.weaken (S2 := No) (fun _ _ _ c => c.2 rfl)) (fun _ _ _ c => c)
    have hb2 : w.heap.size ≤ b2 := by
      rcases g3 with ⟨_, h⟩ | ⟨h, _⟩
      · exact absurd rfl h
      · exact h
    have hpw : p < w.heap.size := hp.lt
    exact ⟨b2, k, c2, rfl, hF, hp.fr hF (fun c => c) (fun c => c), hq.fr hF (fun c => c) (fun c => c), fun w3 h3 => Or.inr ⟨b2, k, c2, rfl, h1, h2, g1, by omega, g2, h6, g5.fr h3 (fun i _ (c : b2 = p ∧ _) => by omega), g4.fr h3⟩, hb2⟩
theorem SetO.done {w w2 w3 : World} {p oz q ox X b : Nat} {neg nz : Bool} {v v2 v0 : Value} (h : SetO w w2 p oz q ox neg nz v v2 v0 X b) (h3 : Ci w3 p oz nz v2) (hf : Fr w2 w3 (Two p oz)) :
    Ci (w3.setCell ⟨p, oz, none⟩ (.bool neg)) p oz neg v2 ∧ Abs (w3.setCell ⟨p, oz, none⟩ (.bool neg)) v2 X ∧ w.heap.size ≤ b ∧ Fr w (w3.setCell ⟨p, oz, none⟩ (.bool neg)) (Two p oz) := by
  obtain ⟨g1, g2⟩ := h3.put neg
  have g3 := hf.trans g2 (fun k j _ c => ⟨c.1, Or.inl c.2⟩)
  exact ⟨g1, h.A _ g3, h.N, h.F.no.trans g3 (fun _ _ _ c => c)⟩
set_option maxRecDepth 100000 in
set_option maxHeartbeats 1000000 in
theorem set_o (p oz q ox X : Nat) (neg nz : Bool) (v : Value) (w : World) (hp : Ci w p oz nz (.slice none 0 0)) (hq : Ci w q ox neg v) (hv : Abs w v X) (hX : 1 ≤ X) (hne : p ≠ q) :
    Calls Tryz.prog 88 #[.pointer (some ⟨p, oz, none⟩), .pointer (some ⟨q, ox, none⟩)] w fun e w' => ∃ b n c, e = .returned (.pointer (some ⟨p, oz, none⟩)) ∧ Ci w' p oz neg (.slice (some ⟨b, 0, none⟩) n c) ∧ Abs w' (.slice (some ⟨b, 0, none⟩) n c) X ∧ w.heap.size ≤ b ∧ Fr w w' (Two p oz) := by
  have hc : (binOp .neq 70 (.pointer (some ⟨p, oz, none⟩)) (.pointer (some ⟨q, ox, none⟩))).run Tryz.prog w = .ok (.bool true) w := by
    obtain ⟨n1, h1, _⟩ := hp.B
    obtain ⟨n2, h2, _⟩ := hq.B
    exact neq_blocks w hne h1 h2
  have K := Lib.hid (seto_nat hp hq hv hX)
  have c1 := hp.c1
  have d1 := hq.c1
  have KE := Lib.hid hne
  clear hp hq hv
  go_enter Tryz.func88, Tryz.ntmps88
  go_wp2_with fail
  go_region_with (go_at_call 108; with_reducible refine K.out.mono ?_; rintro e w2 ⟨b, n, c, rfl, HH⟩; have fz := HH.P.fz (oz + 1); have hv0 := HH.P.c1; have KS := Lib.hid HH; clear HH)
  all_goals
    generalize hw : World.setCell _ _ _ = w3
    have h34 : Ci w3 p oz nz (.slice (some ⟨b, 0, none⟩) n c) ∧ Fr w2 w3 (Two p oz) := by
      rw [← hw]
      first
        | exact ⟨(KS.out.P.put1 _).1, (KS.out.P.put1 _).2.weaken (fun k j _ c => ⟨c.1, Or.inr c.2⟩)⟩
        | exact ⟨((KS.out.P.fr ((Fr.refl w2 No).drew) (fun c => c) (fun c => c)).put1 _).1, ((Fr.refl w2 (Two p oz)).drew).trans ((KS.out.P.fr ((Fr.refl w2 No).drew) (fun c => c) (fun c => c)).put1 _).2 (fun k j _ c => ⟨c.1, Or.inr c.2⟩)⟩
        | exact ⟨((KS.out.P.fr (((Fr.refl w2 No).drew).drew) (fun c => c) (fun c => c)).put1 _).1, (((Fr.refl w2 (Two p oz)).drew).drew).trans ((KS.out.P.fr (((Fr.refl w2 No).drew).drew) (fun c => c) (fun c => c)).put1 _).2 (fun k j _ c => ⟨c.1, Or.inr c.2⟩)⟩
    have d0 : w3.cell? ⟨q, ox, none⟩ = some (.bool neg) := h34.2.keep KS.out.Q.c0 (fun e => KE.out e.1.symm)
    have fz0 : w3.frozen? ⟨p, oz, none⟩ = false := h34.1.fz oz
    have hv1 := h34.1.c0
    have KN := Lib.hid (KS.out.done h34.1 h34.2)
    clear hw h34 fz hv0 c1 d1 hc
    go_wp2_with fail
    go_returns
    exact ⟨b, n, c, rfl, KN.out⟩
end Go.Proofs.YtldejfallphhbaaGreatDoor
namespace Go.Proofs.YtldejfallphhbaaGreatDoor
set_option linter.unusedVariables false
open Go.RowKit
set_option maxRecDepth 100000 in
theorem abs_o (p oz q ox X : Nat) (neg nz : Bool) (v : Value) (w : World) (hp : Ci w p oz nz (.slice none 0 0)) (hq : Ci w q ox neg v) (hv : Abs w v X) (hX : 1 ≤ X) (hne : p ≠ q) :
    Calls Tryz.prog 166 #[.pointer (some ⟨p, oz, none⟩), .pointer (some ⟨q, ox, none⟩)] w fun e w' => ∃ b n c, e = .returned (.pointer (some ⟨p, oz, none⟩)) ∧ Ci w' p oz false (.slice (some ⟨b, 0, none⟩) n c) ∧ Abs w' (.slice (some ⟨b, 0, none⟩) n c) X ∧ w.heap.size ≤ b ∧ Fr w w' (Two p oz) := by
  have K := Lib.hid (set_o p oz q ox X neg nz v w hp hq hv hX hne)
  have hpl := hp.lt
  clear hp hq hv
  go_enter Tryz.func166, Tryz.ntmps166
  go_wp2_with fail
  with_reducible refine K.out.mono ?_
  rintro e w2 ⟨b, n, c, rfl, h1, h2, h3, h4⟩
  have fz := h1.fz oz
  have c0 := h1.c0
  obtain ⟨g1, g2⟩ := h1.put false
  have h2' : Abs (w2.setCell ⟨p, oz, none⟩ (.bool false)) (.slice (some ⟨b, 0, none⟩) n c) X := by
    rcases h2 with ⟨h, _⟩ | ⟨b1, k1, c1, e, a1, a2, a3, a4, a5, a6, a7, a8⟩
    · cases h
    · have eb : b1 = b := by injection e with e; injection e with e; injection e with e; exact e.symm
      exact Or.inr ⟨b1, k1, c1, e, a1, a2, a3, a4, a5, a6, a7.fr g2 (fun i _ (hc : b1 = p ∧ _) => by omega), a8.fr g2⟩
  have KN := Lib.hid (And.intro g1 (And.intro h2' (And.intro h3 (h4.trans g2 (fun k j _ c => ⟨c.1, Or.inl c.2⟩)))))
  clear h1 h2 h3 h4 g1 g2 h2'
  go_wp2_with fail
  go_returns
  exact ⟨b, n, c, rfl, KN.out⟩
theorem natOne_c (w : World) : Calls Tryz.prog 141 #[] w fun e w' => e = .returned (.slice (some ⟨w.heap.size, 0, none⟩) 1 1) ∧ w' = w.alloc (.cells #[.int .u64 1] 143) := by
  go_enter Tryz.func141, Tryz.ntmps141
  go_wp2_with fail
  go_returns
  exact ⟨rfl, rfl⟩
theorem intOne_w (w : World) : Calls Tryz.prog 129 #[] w fun e w' => e = .returned (.pointer (some ⟨w.heap.size + 1, 0, none⟩)) ∧ w' = (w.alloc (.cells #[.int .u64 1] 143)).alloc (.cells #[.bool false, .slice (some ⟨w.heap.size, 0, none⟩) 1 1] 103) := by
  have K := Lib.hid (natOne_c w)
  go_enter Tryz.func129, Tryz.ntmps129
  go_wp2_with fail
  with_reducible refine K.out.mono ?_
  rintro e w2 ⟨rfl, rfl⟩
  go_wp2_with fail
  go_returns
  exact ⟨by simp [World.alloc], rfl⟩
theorem one_nrm : Nrm 1 1 := ⟨by decide, fun _ => by decide⟩
theorem ws_one {w : World} {b x : Nat} (hx : x < 18446744073709551616) (h : w.cell? ⟨b, 0, none⟩ = some (.int .u64 (x : Int))) : Ws w b 0 1 x := fun i hi => by
  obtain rfl : i = 0 := by omega
  rw [Nat.zero_add, h]
  unfold wd
  rw [Nat.pow_zero, Nat.div_one, Nat.mod_eq_of_lt hx]
theorem intOne_c (w : World) : Calls Tryz.prog 129 #[] w fun e w' => ∃ q v, e = .returned (.pointer (some ⟨q, 0, none⟩)) ∧ Ci w' q 0 false v ∧ Abs w' v 1 ∧ w.heap.size ≤ q ∧ Fr w w' No ∧ ∃ b c, v = .slice (some ⟨b, 0, none⟩) 1 c ∧ w.heap.size ≤ b := by
  refine (intOne_w w).mono ?_
  rintro e w' ⟨rfl, rfl⟩
  have f1 := new40 w #[.int .u64 1] 143
  have f2 := new40 (w.alloc (.cells #[.int .u64 1] 143)) #[.bool false, .slice (some ⟨w.heap.size, 0, none⟩) 1 1] 103
  have s1 : (w.alloc (.cells #[.int .u64 1] 143)).heap.size = w.heap.size + 1 := size_new _ _
  have b1 := Blk.new w #[.int .u64 1] 143 1 rfl
  have b2 := Blk.new (w.alloc (.cells #[.int .u64 1] 143)) #[.bool false, .slice (some ⟨w.heap.size, 0, none⟩) 1 1] 103 2 rfl
  have c0 := cell_new (w.alloc (.cells #[.int .u64 1] 143)) #[.bool false, .slice (some ⟨w.heap.size, 0, none⟩) 1 1] 103 0 _ rfl
  have c1 := cell_new (w.alloc (.cells #[.int .u64 1] 143)) #[.bool false, .slice (some ⟨w.heap.size, 0, none⟩) 1 1] 103 1 _ rfl
  rw [s1] at c0 c1 b2
  refine ⟨_, _, rfl, ⟨⟨2, b2, by decide⟩, c0, c1⟩, Or.inr ⟨w.heap.size, 1, 1, rfl, by decide, by decide, by decide, by decide, by decide, one_nrm, ?_, b1.fr f2⟩, by omega, f1.trans f2 (fun _ _ _ c => c), w.heap.size, 1, rfl, Nat.le_refl _⟩
  exact ws_one (by decide) (f2.keep (cell_new w #[.int .u64 1] 143 0 _ rfl) (fun c => c))
theorem stack_c (w : World) : Calls Tryz.prog 149 #[] w fun e w' => e = .returned (.pointer (some ⟨w.heap.size, 0, none⟩)) ∧ w' = w.alloc (.cells #[.pointer none] 239) := by
  go_enter Tryz.func149, Tryz.ntmps149
  go_wp2_with fail
  go_returns
  exact ⟨rfl, rfl⟩
theorem free_c (p : Nat) (u : FrameMode) (w : World) (h : w.cell? ⟨p, 0, none⟩ = some (.pointer none)) :
    CallsD Tryz.prog 150 #[.pointer (some ⟨p, 0, none⟩)] u w fun e u' w' => u' = u ∧ (e = .returned (.tuple #[]) ∧ w' = w) := by
  go_enter_d Tryz.func150, Tryz.ntmps150
  go_wp2_with fail
  go_returns
  exact ⟨rfl, rfl⟩
end Go.Proofs.YtldejfallphhbaaGreatDoor
namespace Go.Proofs.YtldejfallphhbaaGreatDoor
set_option linter.unusedVariables false
open Go.RowKit
theorem ni_row (w : World) (X : Nat) (neg : Bool) (h1 : 1 ≤ X) (hX : X < 18446744073709551616) :
    let w2 := (w.alloc (.cells #[.int .u64 (X : Int)] 143)).alloc (.cells #[.bool neg, .slice (some ⟨w.heap.size, 0, none⟩) 1 1] 103)
    Bi w2 (w.heap.size + 1) neg (.slice (some ⟨w.heap.size, 0, none⟩) 1 1) ∧ Abs w2 (.slice (some ⟨w.heap.size, 0, none⟩) 1 1) X ∧ Fr w w2 No ∧ ∀ b k c, Value.slice (some ⟨w.heap.size, 0, none⟩) 1 1 = .slice (some ⟨b, 0, none⟩) k c → w.heap.size ≤ b := by
  intro w2
  have f1 := new40 w #[.int .u64 (X : Int)] 143
  have f2 := new40 (w.alloc (.cells #[.int .u64 (X : Int)] 143)) #[.bool neg, .slice (some ⟨w.heap.size, 0, none⟩) 1 1] 103
  have s1 : (w.alloc (.cells #[.int .u64 (X : Int)] 143)).heap.size = w.heap.size + 1 := size_new _ _
  have b1 := Blk.new w #[.int .u64 (X : Int)] 143 1 rfl
  have b2 := Blk.new (w.alloc (.cells #[.int .u64 (X : Int)] 143)) #[.bool neg, .slice (some ⟨w.heap.size, 0, none⟩) 1 1] 103 2 rfl
  have c0 := cell_new (w.alloc (.cells #[.int .u64 (X : Int)] 143)) #[.bool neg, .slice (some ⟨w.heap.size, 0, none⟩) 1 1] 103 0 _ rfl
  have c1 := cell_new (w.alloc (.cells #[.int .u64 (X : Int)] 143)) #[.bool neg, .slice (some ⟨w.heap.size, 0, none⟩) 1 1] 103 1 _ rfl
  rw [s1] at c0 c1 b2
  have hN : Nrm X 1 := ⟨by rw [Nat.pow_one]; exact hX, fun _ => by simpa using h1⟩
  exact ⟨⟨b2, c0, c1⟩, Or.inr ⟨w.heap.size, 1, 1, rfl, by decide, by decide, by decide, by decide, by decide, hN, ws_one hX (f2.keep (cell_new w #[.int .u64 (X : Int)] 143 0 _ rfl) (fun c => c)), b1.fr f2⟩, f1.trans f2 (fun _ _ _ c => c), fun b k c hb => by injection hb with hb; injection hb with hb; injection hb with hb; omega⟩
theorem ni_zero (w : World) (neg : Bool) : let w2 := w.alloc (.cells #[.bool neg, .slice none 0 0] 103)
    Bi w2 w.heap.size neg (.slice none 0 0) ∧ Abs w2 (.slice none 0 0) 0 ∧ Fr w w2 No ∧ ∀ b k c, Value.slice none 0 0 = .slice (some ⟨b, 0, none⟩) k c → w.heap.size ≤ b :=
  ⟨⟨Blk.new w _ 103 2 rfl, cell_new w _ 103 0 _ rfl, cell_new w _ 103 1 _ rfl⟩, Or.inl ⟨rfl, rfl⟩, new40 w _ 103, fun b k c hb => by cases hb⟩
set_option maxRecDepth 100000 in
theorem newInt_c (X : Nat) (neg : Bool) (hX : X ≤ 9223372036854775808) (h0 : neg = true → 1 ≤ X) (h1 : neg = false → X < 9223372036854775808) (w : World) :
    Calls Tryz.prog 112 #[.int .i64 (if neg then -(X : Int) else (X : Int))] w fun e w' => ∃ q v, e = .returned (.pointer (some ⟨q, 0, none⟩)) ∧ w.heap.size ≤ q ∧ Hid (Bi w' q neg v ∧ Abs w' v X ∧ Fr w w' No ∧ ∀ b k c, v = .slice (some ⟨b, 0, none⟩) k c → w.heap.size ≤ b) := by
  rcases Nat.eq_zero_or_pos X with rfl | hp
  · obtain rfl : neg = false := by
      cases neg
      · rfl
      · exact absurd (h0 rfl) (by decide)
    have K := Lib.hid (ni_zero w false)
    go_enter Tryz.func112, Tryz.ntmps112
    go_wp2_with fail
    go_returns
    exact ⟨_, rfl, Nat.le_refl _, _, K⟩
  · have K := Lib.hid (ni_row w X neg hp (by omega))
    have hpI : (0 : Int) < (X : Int) := by omega
    cases neg
    · have hX2 := h1 rfl
      have e1 : ¬ ((X : Int) < 0) := by omega
      have e2 : IntKind.u64.wrap (X : Int) = (X : Int) := by rw [IntKind.wrap_u64]; omega
      have e3 : ¬ ((X : Int) = 0) := by omega
      have e4 : ((X : Int) == 0) = false := by simp; omega
      have e5 : decide ((X : Int) < 0) = false := by simp
      simp only [Bool.false_eq_true, if_false]
      clear h0 h1
      go_enter Tryz.func112, Tryz.ntmps112
      go_wp2_with fail
      go_returns
      exact ⟨_, rfl, Nat.le_succ _, _, K⟩
    · have e1 : (-(X : Int) < 0) := by omega
      have e2 : IntKind.u64.wrap (-(X : Int)) = ((18446744073709551616 - X : Nat) : Int) := by rw [IntKind.wrap_u64]; omega
      have e3 : IntKind.u64.wrap (0 - ((18446744073709551616 - X : Nat) : Int)) = (X : Int) := by rw [IntKind.wrap_u64]; omega
      have e3' : IntKind.u64.wrap (-((18446744073709551616 - X : Nat) : Int)) = (X : Int) := by rw [IntKind.wrap_u64]; omega
      have e4 : (-(X : Int) == 0) = false := by simp; omega
      have e5 : decide (-(X : Int) < 0) = true := by simp; omega
      simp only [if_true]
      clear h0 h1
      go_enter Tryz.func112, Tryz.ntmps112
      go_wp2_with fail
      go_returns
      exact ⟨_, rfl, Nat.le_succ _, _, K⟩
set_option maxRecDepth 100000 in
set_option maxHeartbeats 1000000 in
theorem makeInt64_c (X : Nat) (neg : Bool) (hX : X ≤ 9223372036854775808) (h0 : neg = true → 1 ≤ X) (h1 : neg = false → X < 9223372036854775808) (w : World) :
    Calls Tryz.prog 115 #[.int .i64 (if neg then -(X : Int) else (X : Int))] w fun e w' => ∃ x y, e = .returned (.agg #[.int .i64 x, .pointer y]) ∧ Hid (IntV w' (.agg #[.int .i64 x, .pointer y]) neg X ∧ Fr w w' No) := by
  have KM := Lib.hid (newInt_c X neg hX h0 h1 (w.alloc (.cells #[.int .i64 0, .pointer none] 74)))
  obtain ⟨y, hy⟩ : ∃ y : Int, y = (if neg then -(X : Int) else (X : Int)) := ⟨_, rfl⟩
  have KF := Lib.hid (new40 w #[.int .i64 0, .pointer none] 74)
  have KB := Lib.hid (Blk.new w #[.int .i64 0, .pointer none] 74 2 rfl)
  by_cases hs : sml neg X = true
  · have K1 := Lib.hid (small_c y)
    have b12 : (-2147483648 : Int) ≤ y ∧ y ≤ (2147483647 : Int) := by
      rw [hy]
      unfold sml at hs
      simp only [Bool.or_eq_true, Bool.and_eq_true, decide_eq_true_eq] at hs
      cases neg
      · simp only [Bool.false_eq_true, if_false, and_false, or_false] at hs ⊢; omega
      · have := h0 rfl; simp only [if_true, and_true] at hs ⊢; omega
    have b1 := b12.1
    have b2 := b12.2
    have KS : Hid (smallV y = smallV (if neg then -(X : Int) else (X : Int)) ∧ sml neg X = true) := Lib.hid ⟨by rw [hy], hs⟩
    rw [← hy]
    clear hy hs h0 h1 KM b12
    go_enter Tryz.func115, Tryz.ntmps115
    go_wp2_with fail
    with_reducible refine (K1.out _).mono ?_
    rintro e w3 ⟨rfl, hF⟩
    have fz := (KB.out.fr hF).fz 0
    obtain ⟨u0, hu0⟩ := (KB.out.fr hF).here 0 (by decide)
    have fz1 := (KB.out.fr hF).fz 1
    obtain ⟨u1, hu1⟩ := (KB.out.fr hF).here 1 (by decide)
    have KF3 := Lib.hid (KF.out.trans hF (fun _ _ _ c => c))
    have KB3 := Lib.hid (KB.out.fr hF)
    clear hF
    unfold smallV
    go_wp2_with fail
    generalize hw : World.setCell _ _ _ = w4
    obtain ⟨r0, r1, r2, r3⟩ := rd2 KB3.out hw KF3.out rfl
    clear hw
    refine bodyPost_ret (by simp [results, Tryz.results115, go_sem, r0, r1]; try rfl) rfl ?_
    exact ⟨_, _, rfl, Lib.hid ⟨Or.inl ⟨KS.out.2, KS.out.1⟩, r2⟩⟩
  · have hs' : sml neg X = false := by simpa using hs
    have b12 : ¬ ((-2147483648 : Int) ≤ y) ∨ ((-2147483648 : Int) ≤ y ∧ ¬ (y ≤ (2147483647 : Int))) := by
      rw [hy]
      unfold sml at hs'
      simp only [Bool.or_eq_false_iff, Bool.and_eq_false_iff, decide_eq_false_iff_not] at hs'
      cases neg
      · simp only [Bool.false_eq_true, if_false] at hs' ⊢; omega
      · simp only [if_true, Bool.true_eq_false, or_false] at hs' ⊢; omega
    rw [← hy] at KM ⊢
    have KS := Lib.hid hs'
    clear hy hs hs' h0 h1
    rcases b12 with b1 | ⟨b1, b2⟩
    all_goals
      go_enter Tryz.func115, Tryz.ntmps115
      go_wp2_with fail
      with_reducible refine KM.out.mono ?_
      rintro e w2 ⟨q, v, rfl, hq, HH⟩
      go_wp2_with fail
      refine (big_c _ _).mono ?_
      rintro e w3 ⟨rfl, hF⟩
      unfold bigV
      have hF3 := HH.out.2.2.1.trans hF (fun _ _ _ c => c)
      have fz0 := (KB.out.fr hF3).fz 0
      have fz1 := (KB.out.fr hF3).fz 1
      obtain ⟨v0, hv0⟩ := (KB.out.fr hF3).here 0 (by decide)
      obtain ⟨v1, hv1⟩ := (KB.out.fr hF3).here 1 (by decide)
      have KF3 := Lib.hid (KF.out.trans hF3 (fun _ _ _ c => c))
      have KB3 := Lib.hid (KB.out.fr hF3)
      have KQ := Lib.hid (And.intro (HH.out.1.fr hF (fun _ c => c)) (And.intro (HH.out.2.1.no hF) HH.out.2.2.2))
      have hq' : w.heap.size < q := by simp at hq; omega
      clear hF hF3 hq
      go_wp2_with fail
      generalize hw : World.setCell _ _ _ = w4
      obtain ⟨r0, r1, r2, r3⟩ := rd2 KB3.out hw KF3.out rfl
      clear hw
      refine bodyPost_ret (by simp [results, Tryz.results115, go_sem, r0, r1]; try rfl) rfl ?_
      have hF4 : Fr w3 w4 (fun k _ => k = w.heap.size) := r3
      exact ⟨_, _, rfl, Lib.hid ⟨Or.inr ⟨KS.out, q, v, rfl, KQ.out.1.fr hF4 (fun j (c : q = w.heap.size) => by omega), KQ.out.2.1.fr hF4 (fun b k c hb e => by have := KQ.out.2.2 b k c hb; simp at this; omega)⟩, r2⟩⟩
end Go.Proofs.YtldejfallphhbaaGreatDoor
