/-
  A part of the proof of FnIntText: Set, MakeBigInt.
-/
import Derived.Test.YtdidglfaogmnfaaGreatDoorFe
namespace Go.Proofs.YtdidglfaogmnfaaGreatDoor
set_option linter.unusedVariables false
open Go.RowKit

/-- behind nat.set -/
structure SetOut (w w2 : World) (p q : Nat) (neg : Bool) (v v2 : Value) (X : Nat) : Prop where
  F : Fr w w2 No
  B : Blk w2 p 2
  Q : Bi w2 q neg v
  A : ∀ w3, Fr w2 w3 (fun k _ => k = p) → Abs w3 v2 X
  N : ∀ b k c, v2 = .slice (some ⟨b, 0, none⟩) k c → w.heap.size ≤ b
theorem set_nat {p q X : Nat} {neg : Bool} {v : Value} {w : World} (hp : Bi w p false (.slice none 0 0)) (hq : Bi w q neg v) (hv : Abs w v X) (hX : 1 ≤ X) :
    Calls Tryz.prog 31 #[.slice none 0 0, v] w.drew fun e w2 => ∃ b n c, e = .returned (.slice (some ⟨b, 0, none⟩) n c) ∧ SetOut w w2 p q neg v (.slice (some ⟨b, 0, none⟩) n c) X := by
  rcases hv with ⟨rfl, rfl⟩ | ⟨b, k, cc, rfl, h1, h2, h3, h4, h5, h6, h7, h8⟩
  · exact absurd hX (by decide)
  · have hW : Ws w.drew b 0 k X := h7
    refine (set_c (.slice none 0 0) 0 b 0 k cc X h1 (by omega) w.drew (Or.inl rfl) hW (fun h => absurd rfl h)).mono ?_
    rintro e w2 ⟨b2, c2, rfl, g1, g2, g3, g4, g5, g6⟩
    have hF : Fr w w2 No := ((Fr.refl w No).drew).trans (g6.weaken (S2 := No) (fun _ _ _ c => c.2 rfl)) (fun _ _ _ c => c)
    have hb2 : w.heap.size ≤ b2 := by
      rcases g3 with ⟨_, h⟩ | ⟨h, _⟩
      · exact absurd rfl h
      · exact h
    have hpw : p < w.heap.size := hp.B.lt
    refine ⟨b2, k, c2, rfl, hF, hp.B.fr hF, hq.fr hF (fun _ c => c), fun w3 h3 => Or.inr ⟨b2, k, c2, rfl, h1, h2, g1, by omega, g2, h6, g5.fr h3 (fun i _ (c : b2 = p) => by omega), g4.fr h3⟩, fun b k c hb => by injection hb with hb; injection hb with hb; injection hb with hb; omega⟩
theorem SetOut.done {w w2 w3 : World} {p q X : Nat} {neg : Bool} {v v2 : Value} (h : SetOut w w2 p q neg v v2 X) (h3 : Fr w2 w3 (fun k _ => k = p)) (h0 : w3.cell? ⟨p, 0, none⟩ = some (.bool neg)) (h1 : w3.cell? ⟨p, 1, none⟩ = some v2) :
    Bi w3 p neg v2 ∧ Abs w3 v2 X ∧ (∀ b k c, v2 = .slice (some ⟨b, 0, none⟩) k c → w.heap.size ≤ b) ∧ Fr w w3 (fun k _ => k = p) :=
  ⟨⟨h.B.fr h3, h0, h1⟩, h.A w3 h3, h.N, h.F.no.trans h3 (fun _ _ _ c => c)⟩
set_option maxRecDepth 100000 in
set_option maxHeartbeats 1000000 in
theorem set_other (p q X : Nat) (neg : Bool) (v : Value) (w : World) (hp : Bi w p false (.slice none 0 0)) (hq : Bi w q neg v) (hv : Abs w v X) (hX : 1 ≤ X) (hne : p ≠ q) :
    Calls Tryz.prog 21 #[.pointer (some ⟨p, 0, none⟩), .pointer (some ⟨q, 0, none⟩)] w fun e w' => ∃ v2, e = .returned (.pointer (some ⟨p, 0, none⟩)) ∧ Bi w' p neg v2 ∧ Abs w' v2 X ∧ (∀ b k c, v2 = .slice (some ⟨b, 0, none⟩) k c → w.heap.size ≤ b) ∧ Fr w w' (fun k _ => k = p) := by
  have hc := neq_other w hne hp.B hq.B
  have K := Lib.hid (set_nat hp hq hv hX)
  have c1 := hp.c1
  have d1 := hq.c1
  have KE := Lib.hid hne
  clear hp hq hv
  go_enter Tryz.func21, Tryz.ntmps21
  go_wp2_with fail
  go_region_with (go_at_call 31; with_reducible refine K.out.mono ?_; rintro e w2 ⟨b, n, c, rfl, HH⟩; have fz := HH.B.fz 1; obtain ⟨v0, hv0⟩ := HH.B.here 1 (by decide); have KS := Lib.hid HH; clear HH)
  all_goals
    generalize hw : World.setCell _ _ _ = w3
    have h3 : Fr w2 w3 (fun k _ => k = p) := by
      rw [← hw]
      first
        | exact (Fr.refl _ _).set _ _ _ (fun _ => rfl)
        | exact ((Fr.refl _ _).drew).set _ _ _ (fun _ => rfl)
        | exact (((Fr.refl _ _).drew).drew).set _ _ _ (fun _ => rfl)
    have h4 : w3.cell? ⟨p, 1, none⟩ = some (.slice (some ⟨b, 0, none⟩) n c) := by
      rw [← hw]
      first
        | exact KS.out.B.get 1 (by decide) _
        | exact (KS.out.B.fr ((Fr.refl w2 No).drew)).get 1 (by decide) _
        | exact (KS.out.B.fr (((Fr.refl w2 No).drew).drew)).get 1 (by decide) _
    have d0 : w3.cell? ⟨q, 0, none⟩ = some (.bool neg) := h3.keep KS.out.Q.c0 (fun e => KE.out e.symm)
    have fz0 : w3.frozen? ⟨p, 0, none⟩ = false := (KS.out.B.fr h3).fz 0
    obtain ⟨v1, hv1⟩ := (KS.out.B.fr h3).here 0 (by decide)
    have KN : Hid (Bi (w3.setCell ⟨p, 0, none⟩ (.bool neg)) p neg (.slice (some ⟨b, 0, none⟩) n c) ∧ Abs (w3.setCell ⟨p, 0, none⟩ (.bool neg)) (.slice (some ⟨b, 0, none⟩) n c) X ∧ (∀ b1 k1 c1, Value.slice (some ⟨b, 0, none⟩) n c = .slice (some ⟨b1, 0, none⟩) k1 c1 → w.heap.size ≤ b1) ∧ Fr w (w3.setCell ⟨p, 0, none⟩ (.bool neg)) (fun k _ => k = p)) := Lib.hid (KS.out.done (h3.set _ _ _ (fun _ => rfl)) ((KS.out.B.fr h3).get 0 (by decide) _) (by rw [cell_set_ne _ _ _ _ _ _ (by simp)]; exact h4))
    clear hw h3 h4 fz hv0 c1 d1 hc
    go_wp2_with fail
    go_returns
    exact ⟨_, rfl, KN.out⟩
end Go.Proofs.YtdidglfaogmnfaaGreatDoor
