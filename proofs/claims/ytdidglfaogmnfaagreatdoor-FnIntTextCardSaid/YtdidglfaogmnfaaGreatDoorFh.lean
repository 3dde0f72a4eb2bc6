/-
  A part of the proof of FnIntText: SetBytes.
-/
import Derived.Test.YtdidglfaogmnfaaGreatDoorFg
namespace Go.Proofs.YtdidglfaogmnfaaGreatDoor
set_option linter.unusedVariables false
open Go.RowKit

/-- a value is the row of bytes l -/
def Dl (w : World) (v : Value) (l : List Int) : Prop := (l = [] ∧ ∃ A c, v = .slice A 0 c) ∨ ∃ g o c, v = .slice (some ⟨g, o, none⟩) l.length c ∧ l.length ≤ c ∧ Bs w g o l ∧ 1 ≤ l.length
theorem Dl.fr {w w' : World} {v : Value} {l : List Int} {p : Nat} (h : Dl w v l) (hf : Fr w w' (fun k _ => k = p)) (hp : ∀ g o n c, v = .slice (some ⟨g, o, none⟩) n c → 1 ≤ l.length → g ≠ p) : Dl w' v l := by
  rcases h with h | ⟨g, o, c, rfl, h1, h2, h3⟩
  · exact Or.inl h
  · exact Or.inr ⟨g, o, c, rfl, h1, h2.fr hf (fun i => hp _ _ _ _ rfl h3), h3⟩
theorem Dl.no {w w' : World} {v : Value} {l : List Int} (h : Dl w v l) (hf : Fr w w' No) : Dl w' v l := by
  rcases h with h | ⟨g, o, c, rfl, h1, h2, h3⟩
  · exact Or.inl h
  · exact Or.inr ⟨g, o, c, rfl, h1, h2.fr hf (fun _ c => c), h3⟩
set_option maxRecDepth 100000 in
theorem norm_nil (w : World) :
    Calls Tryz.prog 30 #[.slice none 0 0] w fun e w' => e = .returned (.slice none 0 0) ∧ w' = w := by
  go_enter Tryz.func30, Tryz.ntmps30
  go_wp2_with fail
  go_loopw [3] (fun v3 wr => v3 = .int .i64 0 ∧ wr = w) (fun v3 _ => (intOf v3).toNat)
  case atStart => exact ⟨rfl, rfl⟩
  case round =>
    obtain ⟨rfl, rfl⟩ := hrel
    go_wp2_with fail
    go_returns
    exact ⟨rfl, rfl⟩
set_option maxRecDepth 100000 in
theorem setBytes_nil (A : Option Addr) (c : Nat) (w : World) :
    Calls Tryz.prog 20 #[.slice none 0 0, .slice A 0 c] w fun e w' => e = .returned (.slice none 0 0) ∧ w' = w := by
  have KN := Lib.hid (norm_nil w)
  go_enter Tryz.func20, Tryz.ntmps20
  go_wp2_with (first | (go_at_call 28; go_in))
  go_loopw [5, 6] (fun v5 v6 wr => v5 = .int .i64 0 ∧ v6 = .int .i64 0 ∧ wr = w) (fun v5 _ _ => (intOf v5).toNat)
  case atStart => exact ⟨rfl, rfl, rfl⟩
  case round =>
    obtain ⟨rfl, rfl, rfl⟩ := hrel
    go_wp2_with fail
    with_reducible refine KN.out.mono ?_
    rintro e w' ⟨rfl, rfl⟩
    go_wp2_with fail
    go_returns
    exact ⟨rfl, rfl⟩
theorem setBytes_v (v : Value) (l : List Int) (w : World) (hl : l.length ≤ 150) (hv : Dl w v l) (V : Nat) (hc : Ref.Can l V) (p : Nat) (hp : Bi w p false (.slice none 0 0)) :
    Calls Tryz.prog 20 #[.slice none 0 0, v] w fun e w' => ∃ A n c, e = .returned (.slice A n c) ∧ Hid (Blk w' p 2 ∧ w'.cell? ⟨p, 0, none⟩ = some (.bool false) ∧ Fr w w' No ∧ ∀ w3, Fr w' w3 (fun k _ => k = p) → Abs w3 (.slice A n c) V) := by
  rcases hv with ⟨rfl, A, c, rfl⟩ | ⟨g, o, c, rfl, h1, h2, h3⟩
  · refine (setBytes_nil A c w).mono ?_
    rintro e w' ⟨rfl, rfl⟩
    exact ⟨_, _, _, rfl, Lib.hid ⟨hp.B, hp.c0, Fr.refl _ _, fun w3 _ => Or.inl ⟨rfl, (hc.zero_iff.1 rfl)⟩⟩⟩
  · refine (setBytes_c g o l.length c l w h2 hc.byt rfl h3 hl h1).mono ?_
    rintro e w' ⟨b, k, cc, rfl, g1, g2, g3, g4, g5, g6, g7, g8, g9⟩
    rw [hc.val] at g5 g6
    have hk : 1 ≤ k := by
      rcases Nat.eq_zero_or_pos k with e | e
      · subst e
        have h0 : V ≠ 0 := fun e => by have := hc.zero_iff.2 e; omega
        have := g5.1
        simp at this
        omega
      · exact e
    have hpl := hp.B.lt
    exact ⟨_, _, _, rfl, Lib.hid ⟨hp.B.fr g9, g9.keep hp.c0 (fun c => c), g9, fun w3 h3 => Or.inr ⟨b, k, cc, rfl, hk, g1, g2, g3, g4, g5, g6.fr h3 (fun i _ (c : b = p) => by omega), g7.fr h3⟩⟩⟩
theorem sb_done {w w1 w4 : World} {p V : Nat} {v : Value} (hB : Blk w1 p 2) (hF : Fr w w1 No) (h : (w1.setCell ⟨p, 1, none⟩ v).setCell ⟨p, 0, none⟩ (.bool false) = w4) (hA : ∀ w3, Fr w1 w3 (fun k _ => k = p) → Abs w3 v V) :
    Bi w4 p false v ∧ Abs w4 v V ∧ Fr w w4 (fun k _ => k = p) := by
  have h1 : Fr w1 (w1.setCell ⟨p, 1, none⟩ v) (fun k _ => k = p) := (Fr.refl _ _).set _ _ _ (fun _ => rfl)
  have h2 := h1.set p 0 (.bool false) (fun _ => rfl)
  have hb1 := hB.get 1 (by decide) v
  have hb0 := (hB.fr h1).get 0 (by decide) (.bool false)
  have hb2 : ((w1.setCell ⟨p, 1, none⟩ v).setCell ⟨p, 0, none⟩ (.bool false)).cell? ⟨p, 1, none⟩ = some v := by
    rw [cell_set_ne _ _ _ _ _ _ (by simp)]; exact hb1
  rw [h] at h2 hb0 hb2
  exact ⟨⟨hB.fr h2, hb0, hb2⟩, hA _ h2, hF.no.trans h2 (fun _ _ _ c => c)⟩
set_option maxRecDepth 100000 in
theorem SetBytes_c (v : Value) (l : List Int) (w : World) (hl : l.length ≤ 150) (hv : Dl w v l) (V : Nat) (hc : Ref.Can l V) (p : Nat) (hp : Bi w p false (.slice none 0 0)) :
    Calls Tryz.prog 13 #[.pointer (some ⟨p, 0, none⟩), v] w fun e w' => ∃ v2, e = .returned (.pointer (some ⟨p, 0, none⟩)) ∧ Hid (Bi w' p false v2 ∧ Abs w' v2 V ∧ Fr w w' (fun k _ => k = p)) := by
  have K := Lib.hid (setBytes_v v l w hl hv V hc p hp)
  have c1 := hp.c1
  clear hp hc hv hl
  go_enter Tryz.func13, Tryz.ntmps13
  go_wp2_with fail
  with_reducible refine K.out.mono ?_
  rintro e w1 ⟨A, n, c, rfl, HH⟩
  have fz1 := HH.out.1.fz 1
  obtain ⟨v0, hv0⟩ := HH.out.1.here 1 (by decide)
  have fz0 := HH.out.1.fz 0
  have c0 := HH.out.2.1
  go_wp2_with fail
  go_returns
  generalize hw : World.setCell _ _ _ = w4
  exact ⟨_, rfl, Lib.hid (sb_done HH.out.1 HH.out.2.2.1 hw HH.out.2.2.2)⟩
end Go.Proofs.YtdidglfaogmnfaaGreatDoor
