/-
  A part of the proof of FnIntText: MakeBigInt.
-/
import Derived.Test.YtdidglfaogmnfaaGreatDoorFf
namespace Go.Proofs.YtdidglfaogmnfaaGreatDoor
set_option linter.unusedVariables false
open Go.RowKit

theorem Abs.no {w w' : World} {v : Value} {X : Nat} (h : Abs w v X) (hf : Fr w w' No) : Abs w' v X := by
  rcases h with h | ⟨b, k, cc, rfl, h1, h2, h3, h4, h5, h6, h7, h8⟩
  · exact Or.inl h
  · exact Or.inr ⟨b, k, cc, rfl, h1, h2, h3, h4, h5, h6, h7.fr hf (fun i _ c => c), h8.fr hf⟩
theorem sml_le {neg : Bool} {X : Nat} (h : sml neg X = true) : X ≤ 2147483648 := by
  unfold sml at h
  simp only [Bool.or_eq_true, Bool.and_eq_true, decide_eq_true_eq] at h
  omega
theorem sml_ge {neg : Bool} {X : Nat} (h : sml neg X = false) : 1 ≤ X := by
  unfold sml at h
  simp only [Bool.or_eq_false_iff, decide_eq_false_iff_not] at h
  omega
/-- a starlark.Int is X with its sign -/
def IntV (w : World) (iv : Value) (neg : Bool) (X : Nat) : Prop :=
  (sml neg X = true ∧ iv = smallV (if neg then -(X : Int) else (X : Int))) ∨ (sml neg X = false ∧ ∃ p v, iv = bigV p ∧ Bi w p neg v ∧ Abs w v X)
theorem IntV.no {w w' : World} {iv : Value} {neg : Bool} {X : Nat} (h : IntV w iv neg X) (hf : Fr w w' No) : IntV w' iv neg X := by
  rcases h with h | ⟨h1, p, v, h2, h3, h4⟩
  · exact Or.inl h
  · exact Or.inr ⟨h1, p, v, h2, h3.fr hf (fun _ c => c), h4.no hf⟩
theorem new40 (w : World) (arr : Array Value) (T : TypeId) : Fr w (w.alloc (.cells arr T)) No := (Fr.refl _ _).alloc _
theorem bg_set (w : World) (q X : Nat) (neg : Bool) (v : Value) (hq : Bi w q neg v) (hv : Abs w v X) (hX : 1 ≤ X) (P : Nat) (hPw : P = w.heap.size) :
    Calls Tryz.prog 21 #[.pointer (some ⟨P, 0, none⟩), .pointer (some ⟨q, 0, none⟩)] (w.alloc (.cells #[.bool false, .slice none 0 0] 47)) fun e w' => ∃ v2, e = .returned (.pointer (some ⟨P, 0, none⟩)) ∧ Bi w' P neg v2 ∧ Abs w' v2 X ∧ (∀ b k c, v2 = .slice (some ⟨b, 0, none⟩) k c → P ≤ b) ∧ Fr w w' No := by
  subst hPw
  have hF := new40 w #[.bool false, .slice none 0 0] 47
  have hB := Blk.new w #[.bool false, .slice none 0 0] 47 2 rfl
  have hql : q < w.heap.size := hq.B.lt
  have hh := heap_alloc_new w (.cells #[.bool false, .slice none 0 0] 47)
  have hP : Bi (w.alloc (.cells #[.bool false, .slice none 0 0] 47)) w.heap.size false (.slice none 0 0) := ⟨hB, by simp only [World.cell?, hh]; rfl, by simp only [World.cell?, hh]; rfl⟩
  refine (set_other w.heap.size q X neg v _ hP (hq.fr hF (fun _ c => c)) (hv.no hF) hX (by omega)).mono ?_
  rintro e w' ⟨v2, rfl, h1, h2, h4, h3⟩
  exact ⟨v2, rfl, h1, h2, fun b k c hb => Nat.le_trans (by simp) (h4 b k c hb), hF.trans h3 (fun k j hk (c : k = w.heap.size) => by omega)⟩
theorem rd2 {w w3 w4 : World} {r : Nat} {a b : Value} (hB : Blk w3 r 2) (h : (w3.setCell ⟨r, 0, none⟩ a).setCell ⟨r, 1, none⟩ b = w4) (hF : Fr w w3 No) (hr : r = w.heap.size) : w4.cell? ⟨r, 0, none⟩ = some a ∧ w4.cell? ⟨r, 1, none⟩ = some b ∧ Fr w w4 No ∧ Fr w3 w4 (fun k _ => k = r) := by
  have h1 : Fr w3 (w3.setCell ⟨r, 0, none⟩ a) (fun k _ => k = r) := (Fr.refl _ _).set _ _ _ (fun _ => rfl)
  have h2 := h1.set r 1 b (fun _ => rfl)
  rw [h] at h2
  refine ⟨?_, ?_, ?_, h2⟩
  · rw [← h, cell_set_ne _ _ _ _ _ _ (by simp)]
    exact hB.get 0 (by decide) _
  · rw [← h]
    exact (hB.fr h1).get 1 (by decide) _
  · exact hF.trans h2 (fun k j hk (c : k = r) => by omega)
set_option maxRecDepth 100000 in
set_option maxHeartbeats 1000000 in
theorem makeBig_small (q X : Nat) (neg : Bool) (v : Value) (w : World) (hq : Bi w q neg v) (hv : Abs w v X) (hs : sml neg X = true) :
    Calls Tryz.prog 15 #[.pointer (some ⟨q, 0, none⟩)] w fun e w' => e = .returned (smallV (if neg then -(X : Int) else (X : Int))) ∧ Fr w w' No := by
  have hX := sml_le hs
  have KF := Lib.hid (new40 w #[.int .i64 0, .pointer none] 40)
  have KB := Lib.hid (And.intro (hq.fr KF.out (fun _ c => c)) (hv.no KF.out))
  have K1 := Lib.hid (isSmall_c q X neg v _ KB.out.1 KB.out.2)
  rw [hs] at K1
  have K2 := Lib.hid (Int64_c q X neg v _ KB.out.1 KB.out.2 (by omega))
  have K3 := Lib.hid (Blk.new w #[.int .i64 0, .pointer none] 40 2 rfl)
  generalize (if neg then -(X : Int) else (X : Int)) = y at *
  clear hq hv hs hX
  go_enter Tryz.func15, Tryz.ntmps15
  go_wp2_with fail
  with_reducible refine K1.out.mono ?_
  rintro e w1 ⟨rfl, rfl⟩
  go_wp2_with fail
  with_reducible refine K2.out.mono ?_
  rintro e w2 ⟨rfl, rfl⟩
  go_wp2_with fail
  refine (small_c y _).mono ?_
  rintro e w3 ⟨rfl, hF⟩
  unfold smallV
  have fz0 := (K3.out.fr hF).fz 0
  have fz1 := (K3.out.fr hF).fz 1
  obtain ⟨v0, hv0⟩ := (K3.out.fr hF).here 0 (by decide)
  obtain ⟨v1, hv1⟩ := (K3.out.fr hF).here 1 (by decide)
  have KF3 := Lib.hid (KF.out.trans hF (fun _ _ _ c => c))
  have KB3 := Lib.hid (K3.out.fr hF)
  clear hF
  go_wp2_with fail
  generalize hw : World.setCell _ _ _ = w4
  obtain ⟨r0, r1, r2, r3⟩ := rd2 KB3.out hw KF3.out rfl
  clear hw
  refine bodyPost_ret (by simp [results, Tryz.results15, go_sem, r0, r1]; try rfl) rfl ?_
  exact ⟨rfl, r2⟩
set_option maxRecDepth 100000 in
set_option maxHeartbeats 1000000 in
theorem makeBig_big (q X : Nat) (neg : Bool) (v : Value) (w : World) (hq : Bi w q neg v) (hv : Abs w v X) (hs : sml neg X = false) :
    Calls Tryz.prog 15 #[.pointer (some ⟨q, 0, none⟩)] w fun e w' => ∃ p v2, e = .returned (bigV p) ∧ Bi w' p neg v2 ∧ Abs w' v2 X ∧ Fr w w' No := by
  have hX := sml_ge hs
  have KF := Lib.hid (new40 w #[.int .i64 0, .pointer none] 40)
  have KB := Lib.hid (And.intro (hq.fr KF.out (fun _ c => c)) (hv.no KF.out))
  have K1 := Lib.hid (isSmall_c q X neg v _ KB.out.1 KB.out.2)
  rw [hs] at K1
  have K3 := Lib.hid (Blk.new w #[.int .i64 0, .pointer none] 40 2 rfl)
  have KS := Lib.hid (bg_set (w.alloc (.cells #[.int .i64 0, .pointer none] 40)) q X neg v KB.out.1 KB.out.2 hX (w.heap.size + 1) (by simp))
  clear hq hv hs hX
  go_enter Tryz.func15, Tryz.ntmps15
  go_wp2_with fail
  with_reducible refine K1.out.mono ?_
  rintro e w1 ⟨rfl, rfl⟩
  go_wp2_with fail
  with_reducible refine KS.out.mono ?_
  rintro e w2 ⟨v2, rfl, h1, h2, h4, h3⟩
  have K4 := Lib.hid h4
  have K2 := Lib.hid (And.intro h1 (And.intro h2 h3))
  clear h1 h2 h3 h4
  go_wp2_with fail
  refine (big_c _ _).mono ?_
  rintro e w3 ⟨rfl, hF⟩
  unfold bigV
  have hF3 := K2.out.2.2.trans hF (fun _ _ _ c => c)
  have fz0 := (K3.out.fr hF3).fz 0
  have fz1 := (K3.out.fr hF3).fz 1
  obtain ⟨v0, hv0⟩ := (K3.out.fr hF3).here 0 (by decide)
  obtain ⟨v1, hv1⟩ := (K3.out.fr hF3).here 1 (by decide)
  have KF3 := Lib.hid (KF.out.trans hF3 (fun _ _ _ c => c))
  have KB3 := Lib.hid (K3.out.fr hF3)
  have KQ := Lib.hid (And.intro (K2.out.1.fr hF (fun _ c => c)) (K2.out.2.1.no hF))
  clear hF hF3
  go_wp2_with fail
  generalize hw : World.setCell _ _ _ = w4
  obtain ⟨r0, r1, r2, r3⟩ := rd2 KB3.out hw KF3.out rfl
  clear hw
  refine bodyPost_ret (by simp [results, Tryz.results15, go_sem, r0, r1]; try rfl) rfl ?_
  have hF4 : Fr w3 w4 (fun k _ => k = w.heap.size) := r3
  exact ⟨_, v2, rfl, KQ.out.1.fr hF4 (fun j (c : w.heap.size + 1 = w.heap.size) => by omega), KQ.out.2.fr hF4 (fun b k c hb e => by have := K4.out b k c hb; omega), r2⟩
end Go.Proofs.YtdidglfaogmnfaaGreatDoor
