/-
  A part of the proof of FnMathWhole (packed out of smaller texts by a program of this session; what the proof does not reach is left out).
-/
import Derived.Test.YtldejfallphhbaaGreatDoorZ8
import Derived.Deep.DeepCutAuto
import Derived.Defers
import Derived.Outline
import Derived.Deep.RegionWith
import Derived.StillTailTactics
namespace Go.Proofs.YtldejfallphhbaaGreatDoor
set_option linter.unusedVariables false
open Go.RowKit
structure SetOut (w w2 : World) (p q : Nat) (neg : Bool) (v v2 : Value) (X : Nat) : Prop where
  F : Fr w w2 No
  B : Blk w2 p 2
  Q : Bi w2 q neg v
  A : ∀ w3, Fr w2 w3 (fun k _ => k = p) → Abs w3 v2 X
  N : ∀ b k c, v2 = .slice (some ⟨b, 0, none⟩) k c → w.heap.size ≤ b
theorem set_nat {p q X : Nat} {neg : Bool} {v : Value} {w : World} (hp : Bi w p false (.slice none 0 0)) (hq : Bi w q neg v) (hv : Abs w v X) (hX : 1 ≤ X) :
    Calls Tryz.prog 108 #[.slice none 0 0, v] w.drew fun e w2 => ∃ b n c, e = .returned (.slice (some ⟨b, 0, none⟩) n c) ∧ SetOut w w2 p q neg v (.slice (some ⟨b, 0, none⟩) n c) X := by
  rcases hv with ⟨rfl, rfl⟩ | ⟨b, k, cc, rfl, h1, h2, h3, h4, h5, h6, h7, h8⟩
  · exact absurd hX (by decide)
  · have hW : Ws w.drew b 0 k X := h7
    refine (set_c (.slice none 0 0) 0 b 0 k cc X h1 (by omega) w.drew (Or.inl rfl) hW (fun h => absurd rfl h)).mono ?_
    rintro e w2 ⟨b2, c2, rfl, g1, g2, g3, g4, g5, g6⟩
    have hF : Fr w w2 No := ((Fr.refl w No).drew).trans (g6.weaken (S2 := No) (fun _ _ _ c => c.2 rfl)) (fun _ _ _ c => c)
    have hb2 : w.heap.size ≤ b2 := by
      rcases g3 with ⟨_, h⟩ | ⟨h, _⟩
      · exact absurd rfl h
      · exact h
    have hpw : p < w.heap.size := hp.B.lt
    refine ⟨b2, k, c2, rfl, hF, hp.B.fr hF, hq.fr hF (fun _ c => c), fun w3 h3 => Or.inr ⟨b2, k, c2, rfl, h1, h2, g1, by omega, g2, h6, g5.fr h3 (fun i _ (c : b2 = p) => by omega), g4.fr h3⟩, fun b k c hb => by injection hb with hb; injection hb with hb; injection hb with hb; omega⟩
theorem SetOut.done {w w2 w3 : World} {p q X : Nat} {neg : Bool} {v v2 : Value} (h : SetOut w w2 p q neg v v2 X) (h3 : Fr w2 w3 (fun k _ => k = p)) (h0 : w3.cell? ⟨p, 0, none⟩ = some (.bool neg)) (h1 : w3.cell? ⟨p, 1, none⟩ = some v2) :
    Bi w3 p neg v2 ∧ Abs w3 v2 X ∧ (∀ b k c, v2 = .slice (some ⟨b, 0, none⟩) k c → w.heap.size ≤ b) ∧ Fr w w3 (fun k _ => k = p) :=
  ⟨⟨h.B.fr h3, h0, h1⟩, h.A w3 h3, h.N, h.F.no.trans h3 (fun _ _ _ c => c)⟩
set_option maxRecDepth 100000 in
set_option maxHeartbeats 1000000 in
theorem set_other (p q X : Nat) (neg : Bool) (v : Value) (w : World) (hp : Bi w p false (.slice none 0 0)) (hq : Bi w q neg v) (hv : Abs w v X) (hX : 1 ≤ X) (hne : p ≠ q) :
    Calls Tryz.prog 88 #[.pointer (some ⟨p, 0, none⟩), .pointer (some ⟨q, 0, none⟩)] w fun e w' => ∃ v2, e = .returned (.pointer (some ⟨p, 0, none⟩)) ∧ Bi w' p neg v2 ∧ Abs w' v2 X ∧ (∀ b k c, v2 = .slice (some ⟨b, 0, none⟩) k c → w.heap.size ≤ b) ∧ Fr w w' (fun k _ => k = p) := by
  have hc := neq_other w hne hp.B hq.B
  have K := Lib.hid (set_nat hp hq hv hX)
  have c1 := hp.c1
  have d1 := hq.c1
  have KE := Lib.hid hne
  clear hp hq hv
  go_enter Tryz.func88, Tryz.ntmps88
  go_wp2_with fail
  go_region_with (go_at_call 108; with_reducible refine K.out.mono ?_; rintro e w2 ⟨b, n, c, rfl, HH⟩; have fz := HH.B.fz 1; obtain ⟨v0, hv0⟩ := HH.B.here 1 (by decide); have KS := Lib.hid HH; clear HH)
  all_goals
    generalize hw : World.setCell _ _ _ = w3
    have h3 : Fr w2 w3 (fun k _ => k = p) := by
      rw [← hw]
      first
        | exact (Fr.refl _ _).set _ _ _ (fun _ => rfl)
        | exact ((Fr.refl _ _).drew).set _ _ _ (fun _ => rfl)
        | exact (((Fr.refl _ _).drew).drew).set _ _ _ (fun _ => rfl)
    have h4 : w3.cell? ⟨p, 1, none⟩ = some (.slice (some ⟨b, 0, none⟩) n c) := by
      rw [← hw]
      first
        | exact KS.out.B.get 1 (by decide) _
        | exact (KS.out.B.fr ((Fr.refl w2 No).drew)).get 1 (by decide) _
        | exact (KS.out.B.fr (((Fr.refl w2 No).drew).drew)).get 1 (by decide) _
    have d0 : w3.cell? ⟨q, 0, none⟩ = some (.bool neg) := h3.keep KS.out.Q.c0 (fun e => KE.out e.symm)
    have fz0 : w3.frozen? ⟨p, 0, none⟩ = false := (KS.out.B.fr h3).fz 0
    obtain ⟨v1, hv1⟩ := (KS.out.B.fr h3).here 0 (by decide)
    have KN : Hid (Bi (w3.setCell ⟨p, 0, none⟩ (.bool neg)) p neg (.slice (some ⟨b, 0, none⟩) n c) ∧ Abs (w3.setCell ⟨p, 0, none⟩ (.bool neg)) (.slice (some ⟨b, 0, none⟩) n c) X ∧ (∀ b1 k1 c1, Value.slice (some ⟨b, 0, none⟩) n c = .slice (some ⟨b1, 0, none⟩) k1 c1 → w.heap.size ≤ b1) ∧ Fr w (w3.setCell ⟨p, 0, none⟩ (.bool neg)) (fun k _ => k = p)) := Lib.hid (KS.out.done (h3.set _ _ _ (fun _ => rfl)) ((KS.out.B.fr h3).get 0 (by decide) _) (by rw [cell_set_ne _ _ _ _ _ _ (by simp)]; exact h4))
    clear hw h3 h4 fz hv0 c1 d1 hc
    go_wp2_with fail
    go_returns
    exact ⟨_, rfl, KN.out⟩
end Go.Proofs.YtldejfallphhbaaGreatDoor
namespace Go.Proofs.YtldejfallphhbaaGreatDoor
set_option linter.unusedVariables false
open Go.RowKit
theorem Abs.no {w w' : World} {v : Value} {X : Nat} (h : Abs w v X) (hf : Fr w w' No) : Abs w' v X := by
  rcases h with h | ⟨b, k, cc, rfl, h1, h2, h3, h4, h5, h6, h7, h8⟩
  · exact Or.inl h
  · exact Or.inr ⟨b, k, cc, rfl, h1, h2, h3, h4, h5, h6, h7.fr hf (fun i _ c => c), h8.fr hf⟩
theorem sml_le {neg : Bool} {X : Nat} (h : sml neg X = true) : X ≤ 2147483648 := by
  unfold sml at h
  simp only [Bool.or_eq_true, Bool.and_eq_true, decide_eq_true_eq] at h
  omega
theorem sml_ge {neg : Bool} {X : Nat} (h : sml neg X = false) : 1 ≤ X := by
  unfold sml at h
  simp only [Bool.or_eq_false_iff, decide_eq_false_iff_not] at h
  omega
def IntV (w : World) (iv : Value) (neg : Bool) (X : Nat) : Prop :=
  (sml neg X = true ∧ iv = smallV (if neg then -(X : Int) else (X : Int))) ∨ (sml neg X = false ∧ ∃ p v, iv = bigV p ∧ Bi w p neg v ∧ Abs w v X)
theorem IntV.no {w w' : World} {iv : Value} {neg : Bool} {X : Nat} (h : IntV w iv neg X) (hf : Fr w w' No) : IntV w' iv neg X := by
  rcases h with h | ⟨h1, p, v, h2, h3, h4⟩
  · exact Or.inl h
  · exact Or.inr ⟨h1, p, v, h2, h3.fr hf (fun _ c => c), h4.no hf⟩
theorem new40 (w : World) (arr : Array Value) (T : TypeId) : Fr w (w.alloc (.cells arr T)) No := (Fr.refl _ _).alloc _
theorem bg_set (w : World) (q X : Nat) (neg : Bool) (v : Value) (hq : Bi w q neg v) (hv : Abs w v X) (hX : 1 ≤ X) (P : Nat) (hPw : P = w.heap.size) :
    Calls Tryz.prog 88 #[.pointer (some ⟨P, 0, none⟩), .pointer (some ⟨q, 0, none⟩)] (w.alloc (.cells #[.bool false, .slice none 0 0] 103)) fun e w' => ∃ v2, e = .returned (.pointer (some ⟨P, 0, none⟩)) ∧ Bi w' P neg v2 ∧ Abs w' v2 X ∧ (∀ b k c, v2 = .slice (some ⟨b, 0, none⟩) k c → P ≤ b) ∧ Fr w w' No := by
  subst hPw
  have hF := new40 w #[.bool false, .slice none 0 0] 103
  have hB := Blk.new w #[.bool false, .slice none 0 0] 103 2 rfl
  have hql : q < w.heap.size := hq.B.lt
  have hh := heap_alloc_new w (.cells #[.bool false, .slice none 0 0] 103)
  have hP : Bi (w.alloc (.cells #[.bool false, .slice none 0 0] 103)) w.heap.size false (.slice none 0 0) := ⟨hB, by simp only [World.cell?, hh]; rfl, by simp only [World.cell?, hh]; rfl⟩
  refine (set_other w.heap.size q X neg v _ hP (hq.fr hF (fun _ c => c)) (hv.no hF) hX (by omega)).mono ?_
  rintro e w' ⟨v2, rfl, h1, h2, h4, h3⟩
  exact ⟨v2, rfl, h1, h2, fun b k c hb => Nat.le_trans (by simp) (h4 b k c hb), hF.trans h3 (fun k j hk (c : k = w.heap.size) => by omega)⟩
theorem rd2 {w w3 w4 : World} {r : Nat} {a b : Value} (hB : Blk w3 r 2) (h : (w3.setCell ⟨r, 0, none⟩ a).setCell ⟨r, 1, none⟩ b = w4) (hF : Fr w w3 No) (hr : r = w.heap.size) : w4.cell? ⟨r, 0, none⟩ = some a ∧ w4.cell? ⟨r, 1, none⟩ = some b ∧ Fr w w4 No ∧ Fr w3 w4 (fun k _ => k = r) := by
  have h1 : Fr w3 (w3.setCell ⟨r, 0, none⟩ a) (fun k _ => k = r) := (Fr.refl _ _).set _ _ _ (fun _ => rfl)
  have h2 := h1.set r 1 b (fun _ => rfl)
  rw [h] at h2
  refine ⟨?_, ?_, ?_, h2⟩
  · rw [← h, cell_set_ne _ _ _ _ _ _ (by simp)]
    exact hB.get 0 (by decide) _
  · rw [← h]
    exact (hB.fr h1).get 1 (by decide) _
  · exact hF.trans h2 (fun k j hk (c : k = r) => by omega)
set_option maxRecDepth 100000 in
set_option maxHeartbeats 1000000 in
theorem makeBig_small (q X : Nat) (neg : Bool) (v : Value) (w : World) (hq : Bi w q neg v) (hv : Abs w v X) (hs : sml neg X = true) :
    Calls Tryz.prog 70 #[.pointer (some ⟨q, 0, none⟩)] w fun e w' => e = .returned (smallV (if neg then -(X : Int) else (X : Int))) ∧ Fr w w' No := by
  have hX := sml_le hs
  have KF := Lib.hid (new40 w #[.int .i64 0, .pointer none] 74)
  have KB := Lib.hid (And.intro (hq.fr KF.out (fun _ c => c)) (hv.no KF.out))
  have K1 := Lib.hid (isSmall_c q X neg v _ KB.out.1 KB.out.2)
  rw [hs] at K1
  have K2 := Lib.hid (Int64_c q X neg v _ KB.out.1 KB.out.2 (by omega))
  have K3 := Lib.hid (Blk.new w #[.int .i64 0, .pointer none] 74 2 rfl)
  generalize (if neg then -(X : Int) else (X : Int)) = y at *
  clear hq hv hs hX
  go_enter Tryz.func70, Tryz.ntmps70
  go_wp2_with fail
  with_reducible refine K1.out.mono ?_
  rintro e w1 ⟨rfl, rfl⟩
  go_wp2_with fail
  with_reducible refine K2.out.mono ?_
  rintro e w2 ⟨rfl, rfl⟩
  go_wp2_with fail
  refine (small_c y _).mono ?_
  rintro e w3 ⟨rfl, hF⟩
  unfold smallV
  have fz0 := (K3.out.fr hF).fz 0
  have fz1 := (K3.out.fr hF).fz 1
  obtain ⟨v0, hv0⟩ := (K3.out.fr hF).here 0 (by decide)
  obtain ⟨v1, hv1⟩ := (K3.out.fr hF).here 1 (by decide)
  have KF3 := Lib.hid (KF.out.trans hF (fun _ _ _ c => c))
  have KB3 := Lib.hid (K3.out.fr hF)
  clear hF
  go_wp2_with fail
  generalize hw : World.setCell _ _ _ = w4
  obtain ⟨r0, r1, r2, r3⟩ := rd2 KB3.out hw KF3.out rfl
  clear hw
  refine bodyPost_ret (by simp [results, Tryz.results70, go_sem, r0, r1]; try rfl) rfl ?_
  exact ⟨rfl, r2⟩
set_option maxRecDepth 100000 in
set_option maxHeartbeats 1000000 in
theorem makeBig_big (q X : Nat) (neg : Bool) (v : Value) (w : World) (hq : Bi w q neg v) (hv : Abs w v X) (hs : sml neg X = false) :
    Calls Tryz.prog 70 #[.pointer (some ⟨q, 0, none⟩)] w fun e w' => ∃ p v2, e = .returned (bigV p) ∧ Bi w' p neg v2 ∧ Abs w' v2 X ∧ Fr w w' No := by
  have hX := sml_ge hs
  have KF := Lib.hid (new40 w #[.int .i64 0, .pointer none] 74)
  have KB := Lib.hid (And.intro (hq.fr KF.out (fun _ c => c)) (hv.no KF.out))
  have K1 := Lib.hid (isSmall_c q X neg v _ KB.out.1 KB.out.2)
  rw [hs] at K1
  have K3 := Lib.hid (Blk.new w #[.int .i64 0, .pointer none] 74 2 rfl)
  have KS := Lib.hid (bg_set (w.alloc (.cells #[.int .i64 0, .pointer none] 74)) q X neg v KB.out.1 KB.out.2 hX (w.heap.size + 1) (by simp))
  clear hq hv hs hX
  go_enter Tryz.func70, Tryz.ntmps70
  go_wp2_with fail
  with_reducible refine K1.out.mono ?_
  rintro e w1 ⟨rfl, rfl⟩
  go_wp2_with fail
  with_reducible refine KS.out.mono ?_
  rintro e w2 ⟨v2, rfl, h1, h2, h4, h3⟩
  have K4 := Lib.hid h4
  have K2 := Lib.hid (And.intro h1 (And.intro h2 h3))
  clear h1 h2 h3 h4
  go_wp2_with fail
  refine (big_c _ _).mono ?_
  rintro e w3 ⟨rfl, hF⟩
  unfold bigV
  have hF3 := K2.out.2.2.trans hF (fun _ _ _ c => c)
  have fz0 := (K3.out.fr hF3).fz 0
  have fz1 := (K3.out.fr hF3).fz 1
  obtain ⟨v0, hv0⟩ := (K3.out.fr hF3).here 0 (by decide)
  obtain ⟨v1, hv1⟩ := (K3.out.fr hF3).here 1 (by decide)
  have KF3 := Lib.hid (KF.out.trans hF3 (fun _ _ _ c => c))
  have KB3 := Lib.hid (K3.out.fr hF3)
  have KQ := Lib.hid (And.intro (K2.out.1.fr hF (fun _ c => c)) (K2.out.2.1.no hF))
  clear hF hF3
  go_wp2_with fail
  generalize hw : World.setCell _ _ _ = w4
  obtain ⟨r0, r1, r2, r3⟩ := rd2 KB3.out hw KF3.out rfl
  clear hw
  refine bodyPost_ret (by simp [results, Tryz.results70, go_sem, r0, r1]; try rfl) rfl ?_
  have hF4 : Fr w3 w4 (fun k _ => k = w.heap.size) := r3
  exact ⟨_, v2, rfl, KQ.out.1.fr hF4 (fun j (c : w.heap.size + 1 = w.heap.size) => by omega), KQ.out.2.fr hF4 (fun b k c hb e => by have := K4.out b k c hb; omega), r2⟩
end Go.Proofs.YtldejfallphhbaaGreatDoor
namespace Go.Proofs.YtldejfallphhbaaGreatDoor
set_option linter.unusedVariables false
open Go.RowKit
def Dl (w : World) (v : Value) (l : List Int) : Prop := (l = [] ∧ ∃ A c, v = .slice A 0 c) ∨ ∃ g o c, v = .slice (some ⟨g, o, none⟩) l.length c ∧ l.length ≤ c ∧ Bs w g o l ∧ 1 ≤ l.length
theorem Dl.fr {w w' : World} {v : Value} {l : List Int} {p : Nat} (h : Dl w v l) (hf : Fr w w' (fun k _ => k = p)) (hp : ∀ g o n c, v = .slice (some ⟨g, o, none⟩) n c → 1 ≤ l.length → g ≠ p) : Dl w' v l := by
  rcases h with h | ⟨g, o, c, rfl, h1, h2, h3⟩
  · exact Or.inl h
  · exact Or.inr ⟨g, o, c, rfl, h1, h2.fr hf (fun i => hp _ _ _ _ rfl h3), h3⟩
theorem Dl.no {w w' : World} {v : Value} {l : List Int} (h : Dl w v l) (hf : Fr w w' No) : Dl w' v l := by
  rcases h with h | ⟨g, o, c, rfl, h1, h2, h3⟩
  · exact Or.inl h
  · exact Or.inr ⟨g, o, c, rfl, h1, h2.fr hf (fun _ c => c), h3⟩
set_option maxRecDepth 100000 in
theorem norm_nil (w : World) :
    Calls Tryz.prog 107 #[.slice none 0 0] w fun e w' => e = .returned (.slice none 0 0) ∧ w' = w := by
  go_enter Tryz.func107, Tryz.ntmps107
  go_wp2_with fail
  go_loopw [3] (fun v3 wr => v3 = .int .i64 0 ∧ wr = w) (fun v3 _ => (intOf v3).toNat)
  case atStart => exact ⟨rfl, rfl⟩
  case round =>
    obtain ⟨rfl, rfl⟩ := hrel
    go_wp2_with fail
    go_returns
    exact ⟨rfl, rfl⟩
set_option maxRecDepth 100000 in
theorem setBytes_nil (A : Option Addr) (c : Nat) (w : World) :
    Calls Tryz.prog 87 #[.slice none 0 0, .slice A 0 c] w fun e w' => e = .returned (.slice none 0 0) ∧ w' = w := by
  have KN := Lib.hid (norm_nil w)
  go_enter Tryz.func87, Tryz.ntmps87
  go_wp2_with (first | (go_at_call 105; go_in))
  go_loopw [5, 6] (fun v5 v6 wr => v5 = .int .i64 0 ∧ v6 = .int .i64 0 ∧ wr = w) (fun v5 _ _ => (intOf v5).toNat)
  case atStart => exact ⟨rfl, rfl, rfl⟩
  case round =>
    obtain ⟨rfl, rfl, rfl⟩ := hrel
    go_wp2_with fail
    with_reducible refine KN.out.mono ?_
    rintro e w' ⟨rfl, rfl⟩
    go_wp2_with fail
    go_returns
    exact ⟨rfl, rfl⟩
theorem setBytes_v (v : Value) (l : List Int) (w : World) (hl : l.length ≤ 300) (hv : Dl w v l) (V : Nat) (hc : Ref.Can l V) (p : Nat) (hp : Bi w p false (.slice none 0 0)) :
    Calls Tryz.prog 87 #[.slice none 0 0, v] w fun e w' => ∃ A n c, e = .returned (.slice A n c) ∧ Hid (Blk w' p 2 ∧ w'.cell? ⟨p, 0, none⟩ = some (.bool false) ∧ Fr w w' No ∧ ∀ w3, Fr w' w3 (fun k _ => k = p) → Abs w3 (.slice A n c) V) := by
  rcases hv with ⟨rfl, A, c, rfl⟩ | ⟨g, o, c, rfl, h1, h2, h3⟩
  · refine (setBytes_nil A c w).mono ?_
    rintro e w' ⟨rfl, rfl⟩
    exact ⟨_, _, _, rfl, Lib.hid ⟨hp.B, hp.c0, Fr.refl _ _, fun w3 _ => Or.inl ⟨rfl, (hc.zero_iff.1 rfl)⟩⟩⟩
  · refine (setBytes_c g o l.length c l w h2 hc.byt rfl h3 hl h1).mono ?_
    rintro e w' ⟨b, k, cc, rfl, g1, g2, g3, g4, g5, g6, g7, g8, g9⟩
    rw [hc.val] at g5 g6
    have hk : 1 ≤ k := by
      rcases Nat.eq_zero_or_pos k with e | e
      · subst e
        have h0 : V ≠ 0 := fun e => by have := hc.zero_iff.2 e; omega
        have := g5.1
        simp at this
        omega
      · exact e
    have hpl := hp.B.lt
    exact ⟨_, _, _, rfl, Lib.hid ⟨hp.B.fr g9, g9.keep hp.c0 (fun c => c), g9, fun w3 h3 => Or.inr ⟨b, k, cc, rfl, hk, g1, g2, g3, g4, g5, g6.fr h3 (fun i _ (c : b = p) => by omega), g7.fr h3⟩⟩⟩
theorem sb_done {w w1 w4 : World} {p V : Nat} {v : Value} (hB : Blk w1 p 2) (hF : Fr w w1 No) (h : (w1.setCell ⟨p, 1, none⟩ v).setCell ⟨p, 0, none⟩ (.bool false) = w4) (hA : ∀ w3, Fr w1 w3 (fun k _ => k = p) → Abs w3 v V) :
    Bi w4 p false v ∧ Abs w4 v V ∧ Fr w w4 (fun k _ => k = p) := by
  have h1 : Fr w1 (w1.setCell ⟨p, 1, none⟩ v) (fun k _ => k = p) := (Fr.refl _ _).set _ _ _ (fun _ => rfl)
  have h2 := h1.set p 0 (.bool false) (fun _ => rfl)
  have hb1 := hB.get 1 (by decide) v
  have hb0 := (hB.fr h1).get 0 (by decide) (.bool false)
  have hb2 : ((w1.setCell ⟨p, 1, none⟩ v).setCell ⟨p, 0, none⟩ (.bool false)).cell? ⟨p, 1, none⟩ = some v := by
    rw [cell_set_ne _ _ _ _ _ _ (by simp)]; exact hb1
  rw [h] at h2 hb0 hb2
  exact ⟨⟨hB.fr h2, hb0, hb2⟩, hA _ h2, hF.no.trans h2 (fun _ _ _ c => c)⟩
set_option maxRecDepth 100000 in
theorem SetBytes_c (v : Value) (l : List Int) (w : World) (hl : l.length ≤ 300) (hv : Dl w v l) (V : Nat) (hc : Ref.Can l V) (p : Nat) (hp : Bi w p false (.slice none 0 0)) :
    Calls Tryz.prog 68 #[.pointer (some ⟨p, 0, none⟩), v] w fun e w' => ∃ v2, e = .returned (.pointer (some ⟨p, 0, none⟩)) ∧ Hid (Bi w' p false v2 ∧ Abs w' v2 V ∧ Fr w w' (fun k _ => k = p)) := by
  have K := Lib.hid (setBytes_v v l w hl hv V hc p hp)
  have c1 := hp.c1
  clear hp hc hv hl
  go_enter Tryz.func68, Tryz.ntmps68
  go_wp2_with fail
  with_reducible refine K.out.mono ?_
  rintro e w1 ⟨A, n, c, rfl, HH⟩
  have fz1 := HH.out.1.fz 1
  obtain ⟨v0, hv0⟩ := HH.out.1.here 1 (by decide)
  have fz0 := HH.out.1.fz 0
  have c0 := HH.out.2.1
  go_wp2_with fail
  go_returns
  generalize hw : World.setCell _ _ _ = w4
  exact ⟨_, rfl, Lib.hid (sb_done HH.out.1 HH.out.2.2.1 hw HH.out.2.2.2)⟩
end Go.Proofs.YtldejfallphhbaaGreatDoor
namespace Go.Proofs.YtldejfallphhbaaGreatDoor
set_option linter.unusedVariables false
open Go.RowKit
theorem abs_ne {w : World} {v x : Value} {X p : Nat} (h : Abs w v X) (hx : w.cell? ⟨p, 0, none⟩ = some x) (hn : ∀ z, x ≠ .int .u64 z) : ∀ b k c, v = .slice (some ⟨b, 0, none⟩) k c → b ≠ p := by
  intro b k c e he
  subst he
  rcases h with ⟨h, _⟩ | ⟨b2, k2, c2, h, h1, h2, h3, h4, h5, h6, h7, h8⟩
  · rw [h] at e; cases e
  · rw [h] at e
    injection e with e1
    injection e1 with e1
    injection e1 with e1
    subst e1
    have := h7 0 h1
    rw [Nat.add_zero, hx] at this
    exact hn _ (Option.some.inj this)
theorem IntV.fr {w w' : World} {iv : Value} {neg : Bool} {X r : Nat} (h : IntV w iv neg X) (hr : w.cell? ⟨r, 0, none⟩ = some (.int .i64 0)) (hf : Fr w w' (fun k _ => k = r)) : IntV w' iv neg X := by
  rcases h with h | ⟨h1, p, v, h2, h3, h4⟩
  · exact Or.inl h
  · refine Or.inr ⟨h1, p, v, h2, h3.fr hf (fun j (c : p = r) => ?_), h4.fr hf (abs_ne h4 hr (fun z e => by cases e))⟩
    subst c
    have := h3.c0
    rw [hr] at this
    cases this
theorem MakeBig_c (q X : Nat) (neg : Bool) (v : Value) (w : World) (hq : Bi w q neg v) (hv : Abs w v X) :
    Calls Tryz.prog 70 #[.pointer (some ⟨q, 0, none⟩)] w fun e w' => ∃ x y, e = .returned (.agg #[.int .i64 x, .pointer y]) ∧ Hid (IntV w' (.agg #[.int .i64 x, .pointer y]) neg X ∧ Fr w w' No) := by
  cases hs : sml neg X
  · refine (makeBig_big q X neg v w hq hv hs).mono ?_
    rintro e w' ⟨p, v2, rfl, h1, h2, h3⟩
    exact ⟨_, _, rfl, Lib.hid ⟨Or.inr ⟨hs, p, v2, rfl, h1, h2⟩, h3⟩⟩
  · refine (makeBig_small q X neg v w hq hv hs).mono ?_
    rintro e w' ⟨rfl, h3⟩
    exact ⟨_, _, rfl, Lib.hid ⟨Or.inl ⟨hs, rfl⟩, h3⟩⟩
structure WhA (w w1 : World) (P V : Nat) (ng neg : Bool) (v2 : Value) : Prop where
  b : Bi w1 P ng v2
  a : Abs w1 v2 V
  f : Fr w w1 No
  x : w1.cell? ⟨w.heap.size, 1, none⟩ = some (.bool neg)
  r0 : w1.cell? ⟨w.heap.size + 1, 0, none⟩ = some (.int .i64 0)
  r : Blk w1 (w.heap.size + 1) 2
def W9 (w : World) (neg : Bool) (v u : Value) : World := ((w.alloc (.cells #[.int .i64 2, .bool neg, v, .int .u64 0, .string ⟨#[]⟩, u] 28)).alloc (.cells #[.int .i64 0, .pointer none] 74)).alloc (.cells #[.bool false, .slice none 0 0] 103)
theorem cell_new (w : World) (arr : Array Value) (T : TypeId) (i : Nat) (v : Value) (h : arr[i]? = some v) : (w.alloc (.cells arr T)).cell? ⟨w.heap.size, i, none⟩ = some v := by
  have hh := heap_alloc_new w (.cells arr T)
  simp only [World.cell?, hh]
  exact h
theorem size_new (w : World) (o : Obj) : (w.alloc o).heap.size = w.heap.size + 1 := by
  show (w.heap.push o).size = _
  simp
theorem wh_bytes (neg : Bool) (v u : Value) (l : List Int) (w : World) (hl : l.length ≤ 300) (hv : Dl w v l) (V : Nat) (hc : Ref.Can l V) (P : Nat) (hP : P = w.heap.size + 2) :
    Calls Tryz.prog 68 #[.pointer (some ⟨P, 0, none⟩), v] (W9 w neg v u) fun e w' => ∃ v2, e = .returned (.pointer (some ⟨P, 0, none⟩)) ∧ Hid (WhA w w' P V false neg v2) := by
  subst hP
  have f1 := new40 w #[.int .i64 2, .bool neg, v, .int .u64 0, .string ⟨#[]⟩, u] 28
  have f2 := new40 (w.alloc (.cells #[.int .i64 2, .bool neg, v, .int .u64 0, .string ⟨#[]⟩, u] 28)) #[.int .i64 0, .pointer none] 74
  have f3 := new40 ((w.alloc (.cells #[.int .i64 2, .bool neg, v, .int .u64 0, .string ⟨#[]⟩, u] 28)).alloc (.cells #[.int .i64 0, .pointer none] 74)) #[.bool false, .slice none 0 0] 103
  have s1 : (w.alloc (.cells #[.int .i64 2, .bool neg, v, .int .u64 0, .string ⟨#[]⟩, u] 28)).heap.size = w.heap.size + 1 := size_new _ _
  have s2 : ((w.alloc (.cells #[.int .i64 2, .bool neg, v, .int .u64 0, .string ⟨#[]⟩, u] 28)).alloc (.cells #[.int .i64 0, .pointer none] 74)).heap.size = w.heap.size + 2 := by rw [size_new, s1]
  have c0 := cell_new ((w.alloc (.cells #[.int .i64 2, .bool neg, v, .int .u64 0, .string ⟨#[]⟩, u] 28)).alloc (.cells #[.int .i64 0, .pointer none] 74)) #[.bool false, .slice none 0 0] 103 0 _ rfl
  have c1 := cell_new ((w.alloc (.cells #[.int .i64 2, .bool neg, v, .int .u64 0, .string ⟨#[]⟩, u] 28)).alloc (.cells #[.int .i64 0, .pointer none] 74)) #[.bool false, .slice none 0 0] 103 1 _ rfl
  have cb := Blk.new ((w.alloc (.cells #[.int .i64 2, .bool neg, v, .int .u64 0, .string ⟨#[]⟩, u] 28)).alloc (.cells #[.int .i64 0, .pointer none] 74)) #[.bool false, .slice none 0 0] 103 2 rfl
  rw [s2] at c0 c1 cb
  have x1 := f3.keep (f2.keep (cell_new w #[.int .i64 2, .bool neg, v, .int .u64 0, .string ⟨#[]⟩, u] 28 1 _ rfl) (fun c => c)) (fun c => c)
  have r0 := f3.keep (cell_new (w.alloc (.cells #[.int .i64 2, .bool neg, v, .int .u64 0, .string ⟨#[]⟩, u] 28)) #[.int .i64 0, .pointer none] 74 0 _ rfl) (fun c => c)
  have rb := (Blk.new (w.alloc (.cells #[.int .i64 2, .bool neg, v, .int .u64 0, .string ⟨#[]⟩, u] 28)) #[.int .i64 0, .pointer none] 74 2 rfl).fr f3
  rw [s1] at r0 rb
  refine (SetBytes_c v l (W9 w neg v u) hl (((hv.no f1).no f2).no f3) V hc (w.heap.size + 2) ⟨cb, c0, c1⟩).mono ?_
  rintro e w' ⟨v2, rfl, HH⟩
  obtain ⟨h1, h2, h3⟩ := HH.out
  exact ⟨v2, rfl, Lib.hid ⟨h1, h2, ((f1.trans f2 (fun _ _ _ c => c)).trans f3 (fun _ _ _ c => c)).trans h3 (fun k j hk (c : k = w.heap.size + 2) => by omega), h3.keep x1 (fun c => by omega), h3.keep r0 (fun c => by omega), rb.fr h3⟩⟩
theorem WhA.neg {w w1 : World} {P V : Nat} {v2 : Value} (h : WhA w w1 P V false true v2) (hP : P = w.heap.size + 2) :
    Calls Tryz.prog 69 #[.pointer (some ⟨P, 0, none⟩), .pointer (some ⟨P, 0, none⟩)] w1 fun e w' => e = .returned (.pointer (some ⟨P, 0, none⟩)) ∧ Hid (WhA w w' P V (decide (1 ≤ V)) true v2) := by
  refine (neg_c P V v2 w1 h.b h.a).mono ?_
  rintro e w' ⟨ng, rfl, rfl, h1, h2⟩
  exact ⟨rfl, Lib.hid ⟨h1, h.a.fr h2 (abs_ne h.a h.b.c0 (fun z e => by cases e)), h.f.trans h2 (fun k j hk (c : k = P) => by omega), h2.keep h.x (fun c => by omega), h2.keep h.r0 (fun c => by omega), h.r.fr h2⟩⟩
theorem WhA.make {w w1 : World} {P V : Nat} {ng neg : Bool} {v2 : Value} (h : WhA w w1 P V ng neg v2) :
    Calls Tryz.prog 70 #[.pointer (some ⟨P, 0, none⟩)] w1 fun e w' => ∃ x y, e = .returned (.agg #[.int .i64 x, .pointer y]) ∧ Blk w' (w.heap.size + 1) 2 ∧ Hid (IntV w' (.agg #[.int .i64 x, .pointer y]) ng V ∧ Fr w w' No ∧ w'.cell? ⟨w.heap.size + 1, 0, none⟩ = some (.int .i64 0)) := by
  refine (MakeBig_c P V ng v2 w1 h.b h.a).mono ?_
  rintro e w' ⟨x, y, rfl, HH⟩
  exact ⟨x, y, rfl, h.r.fr HH.out.2, Lib.hid ⟨HH.out.1, h.f.trans HH.out.2 (fun _ _ _ c => c), HH.out.2.keep h.r0 (fun c => c)⟩⟩
theorem rd3 {w w3 w4 : World} {r : Nat} {a b : Value} (hB : Blk w3 r 2) (h : (w3.setCell ⟨r, 0, none⟩ a).setCell ⟨r, 1, none⟩ b = w4) (hF : Fr w w3 No) (hr : w.heap.size ≤ r) : w4.cell? ⟨r, 0, none⟩ = some a ∧ w4.cell? ⟨r, 1, none⟩ = some b ∧ Fr w w4 No ∧ Fr w3 w4 (fun k _ => k = r) := by
  have h1 : Fr w3 (w3.setCell ⟨r, 0, none⟩ a) (fun k _ => k = r) := (Fr.refl _ _).set _ _ _ (fun _ => rfl)
  have h2 := h1.set r 1 b (fun _ => rfl)
  rw [h] at h2
  refine ⟨?_, ?_, ?_, h2⟩
  · rw [← h, cell_set_ne _ _ _ _ _ _ (by simp)]
    exact hB.get 0 (by decide) _
  · rw [← h]
    exact (hB.fr h1).get 1 (by decide) _
  · exact hF.trans h2 (fun k j hk (c : k = r) => by omega)
set_option maxRecDepth 100000 in
set_option maxHeartbeats 1000000 in
theorem whole9_c (neg : Bool) (v u : Value) (l : List Int) (w : World) (hl : l.length ≤ 300) (hv : Dl w v l) (V : Nat) (hc : Ref.Can l V) :
    Calls Tryz.prog 42 #[.agg #[.int .i64 2, .bool neg, v, .int .u64 0, .string ⟨#[]⟩, u]] w fun e w' => ∃ x y, e = .returned (.agg #[.int .i64 x, .pointer y]) ∧ IntV w' (.agg #[.int .i64 x, .pointer y]) (neg && decide (1 ≤ V)) V ∧ Fr w w' No := by
  have KB := Lib.hid (wh_bytes neg v u l w hl hv V hc (w.heap.size + 1 + 1) rfl)
  unfold W9 at KB
  clear hl hv hc
  cases neg
  · go_enter Tryz.func42, Tryz.ntmps42
    go_wp2_with fail
    with_reducible refine KB.out.mono ?_
    rintro e w1 ⟨v2, rfl, H1⟩
    have cx := H1.out.x
    have KM := Lib.hid H1.out.make
    go_wp2_with fail
    with_reducible refine KM.out.mono ?_
    rintro e w2 ⟨x, y, rfl, hB, H2⟩
    have fz0 := hB.fz 0
    have fz1 := hB.fz 1
    obtain ⟨u0, hu0⟩ := hB.here 0 (by decide)
    obtain ⟨u1, hu1⟩ := hB.here 1 (by decide)
    have KBk := Lib.hid hB
    clear hB KM KB cx
    go_wp2_with fail
    generalize hw : World.setCell _ _ _ = w4
    obtain ⟨r0, r1, r2, r3⟩ := rd3 (w := w) KBk.out hw H2.out.2.1 (by omega)
    clear hw
    refine bodyPost_ret (by simp [results, Tryz.results42, go_sem, r0, r1]; try rfl) rfl ?_
    exact ⟨x, y, rfl, by rw [Bool.false_and]; exact H2.out.1.fr H2.out.2.2 r3, r2⟩
  · go_enter Tryz.func42, Tryz.ntmps42
    go_wp2_with fail
    with_reducible refine KB.out.mono ?_
    rintro e w1 ⟨v2, rfl, H1⟩
    have cx := H1.out.x
    have KG := Lib.hid (H1.out.neg rfl)
    go_wp2_with fail
    with_reducible refine KG.out.mono ?_
    rintro e w1b ⟨rfl, H1b⟩
    have KM := Lib.hid H1b.out.make
    go_wp2_with fail
    with_reducible refine KM.out.mono ?_
    rintro e w2 ⟨x, y, rfl, hB, H2⟩
    have fz0 := hB.fz 0
    have fz1 := hB.fz 1
    obtain ⟨u0, hu0⟩ := hB.here 0 (by decide)
    obtain ⟨u1, hu1⟩ := hB.here 1 (by decide)
    have KBk := Lib.hid hB
    clear hB KM KB cx
    go_wp2_with fail
    generalize hw : World.setCell _ _ _ = w4
    obtain ⟨r0, r1, r2, r3⟩ := rd3 (w := w) KBk.out hw H2.out.2.1 (by omega)
    clear hw
    refine bodyPost_ret (by simp [results, Tryz.results42, go_sem, r0, r1]; try rfl) rfl ?_
    exact ⟨x, y, rfl, by rw [Bool.true_and]; exact H2.out.1.fr H2.out.2.2 r3, r2⟩
end Go.Proofs.YtldejfallphhbaaGreatDoor
