/-
  A part of the proof of FnIntText: big.Int's small functions.
-/
import Derived.Test.YtdidglfaogmnfaaGreatDoorFb
import Derived.Test.YtdidglfaogmnfaaGreatDoorI
import Derived.Test.YtdidglfaogmnfaaGreatDoorP
namespace Go.Proofs.YtdidglfaogmnfaaGreatDoor
set_option linter.unusedVariables false
open Go.RowKit

/-- a row of words is X -/
def Abs (w : World) (v : Value) (X : Nat) : Prop := (v = .slice none 0 0 ∧ X = 0) ∨ ∃ b k cc, v = .slice (some ⟨b, 0, none⟩) k cc ∧ 1 ≤ k ∧ k ≤ 19 ∧ k ≤ cc ∧ 1 ≤ cc ∧ cc ≤ 4000 ∧ Nrm X k ∧ Ws w b 0 k X ∧ Blk w b cc
theorem Abs.fr {w w' : World} {v : Value} {X p : Nat} (h : Abs w v X) (hf : Fr w w' (fun k _ => k = p)) (hp : ∀ b k c, v = .slice (some ⟨b, 0, none⟩) k c → b ≠ p) : Abs w' v X := by
  rcases h with h | ⟨b, k, cc, rfl, h1, h2, h3, h4, h5, h6, h7, h8⟩
  · exact Or.inl h
  · exact Or.inr ⟨b, k, cc, rfl, h1, h2, h3, h4, h5, h6, h7.fr hf (fun i _ => hp _ _ _ rfl), h8.fr hf⟩
/-- a big.Int -/
structure Bi (w : World) (p : Nat) (neg : Bool) (v : Value) : Prop where
  B : Blk w p 2
  c0 : w.cell? ⟨p, 0, none⟩ = some (.bool neg)
  c1 : w.cell? ⟨p, 1, none⟩ = some v
theorem Bi.fr {w w' : World} {S : Nat → Nat → Prop} {p : Nat} {neg : Bool} {v : Value} (h : Bi w p neg v) (hf : Fr w w' S) (hS : ∀ j, ¬ S p j) : Bi w' p neg v := ⟨h.B.fr hf, hf.keep h.c0 (hS 0), hf.keep h.c1 (hS 1)⟩
theorem Nrm.pos {X k : Nat} (h : Nrm X k) (hk : 1 ≤ k) : 1 ≤ X := Nat.le_trans (bp_pos _) (h.2 hk)
set_option maxRecDepth 100000 in
theorem BitLen_c (p X : Nat) (neg : Bool) (v : Value) (w : World) (h : Bi w p neg v) (hv : Abs w v X) :
    Calls Tryz.prog 32 #[.pointer (some ⟨p, 0, none⟩)] w fun e w' => ∃ L : Nat, e = .returned (.int .i64 L) ∧ (X = 0 → L = 0) ∧ (1 ≤ X → 2 ^ (L - 1) ≤ X ∧ 1 ≤ L) ∧ X < 2 ^ L ∧ L ≤ 1216 ∧ w' = w := by
  have c1 := h.c1
  clear h
  rcases hv with ⟨rfl, rfl⟩ | ⟨b, k, cc, rfl, h1, h2, h3, h4, h5, h6, h7, h8⟩
  · go_enter Tryz.func32, Tryz.ntmps32
    go_wp2_with (first | (go_at_call 34; go_in))
    go_returns
    exact ⟨0, rfl, fun _ => rfl, fun h => absurd h (by omega), by decide, by omega, rfl⟩
  · have K := Lib.hid (bitLen_c b k cc X w h7 h1 (by omega) h6)
    have KX := Lib.hid (Nrm.pos h6 h1)
    clear h1 h3 h4 h5 h6 h7 h8
    go_enter Tryz.func32, Tryz.ntmps32
    go_wp2_with fail
    with_reducible refine K.out.mono ?_
    rintro e w' ⟨L, rfl, g1, g2, g3, g4, rfl⟩
    have KG := Lib.hid (And.intro g1 (And.intro g2 (And.intro g3 g4)))
    clear g1 g2 g3 g4
    go_wp2_with fail
    go_returns
    exact ⟨L, rfl, fun h => absurd KX.out (by omega), fun _ => ⟨KG.out.2.1, KG.out.1⟩, KG.out.2.2.1, by have := KG.out.2.2.2; omega, rfl⟩
set_option maxRecDepth 100000 in
theorem low64_c (X : Nat) (v : Value) (w : World) (hv : Abs w v X) :
    Calls Tryz.prog 33 #[v] w fun e w' => e = .returned (.int .u64 ((wd X 0 : Nat) : Int)) ∧ w' = w := by
  rcases hv with ⟨rfl, rfl⟩ | ⟨b, k, cc, rfl, h1, h2, h3, h4, h5, h6, h7, h8⟩
  · rw [wd_zero]
    go_enter Tryz.func33, Tryz.ntmps33
    go_wp2_with fail
    go_returns
    exact ⟨rfl, rfl⟩
  · have ct := h7 0 h1
    rw [Nat.add_zero] at ct
    have h0 : ¬ k = 0 := by omega
    have h0' : 0 < k := by omega
    clear h2 h3 h4 h5 h6 h7 h8 h1
    generalize wd X 0 = x at *
    go_enter Tryz.func33, Tryz.ntmps33
    go_wp2_with fail
    go_returns
    exact ⟨rfl, rfl⟩
set_option maxRecDepth 100000 in
theorem Int64_c (p X : Nat) (neg : Bool) (v : Value) (w : World) (h : Bi w p neg v) (hv : Abs w v X) (hX : X < 4294967296) :
    Calls Tryz.prog 24 #[.pointer (some ⟨p, 0, none⟩)] w fun e w' => e = .returned (.int .i64 (if neg then -(X : Int) else (X : Int))) ∧ w' = w := by
  have c1 := h.c1
  have c0 := h.c0
  have K := Lib.hid (low64_c X v w hv)
  have e : wd X 0 = X := by unfold wd; rw [Nat.pow_zero, Nat.div_one]; omega
  rw [e] at K
  clear h hv e
  cases neg
  · go_enter Tryz.func24, Tryz.ntmps24
    go_wp2_with fail
    with_reducible refine K.out.mono ?_
    rintro e w' ⟨rfl, rfl⟩
    go_wp2_with fail
    go_returns
    exact ⟨rfl, rfl⟩
  · go_enter Tryz.func24, Tryz.ntmps24
    go_wp2_with fail
    with_reducible refine K.out.mono ?_
    rintro e w' ⟨rfl, rfl⟩
    go_wp2_with fail
    go_returns
    exact ⟨rfl, rfl⟩
end Go.Proofs.YtdidglfaogmnfaaGreatDoor
