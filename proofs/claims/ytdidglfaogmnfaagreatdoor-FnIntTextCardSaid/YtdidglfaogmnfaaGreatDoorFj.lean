/-
  A part of the proof of FnIntText: the text of a big number.
-/
import Derived.Test.YtdidglfaogmnfaaGreatDoorFi
import Derived.Test.YtdidglfaogmnfaaGreatDoorIt
import Derived.Test.YtdidglfaogmnfaaGreatDoorRb
namespace Go.Proofs.YtdidglfaogmnfaaGreatDoor
set_option linter.unusedVariables false
open Go.RowKit Go.Proofs.YtdidglfaogmnfaaGreatDoorW.PrintWords

/-- the text of X with its sign -/
def ITX (neg : Bool) (X : Nat) : ByteArray := strOfNums (Ref.sg neg ++ (Ref.dle X).reverse)
theorem txt_bs {w : World} {b o nd X : Nat} {neg : Bool} (h : Txt w b o neg nd X) (h1 : 10 ^ (nd - 1) ≤ X) (h2 : X < 10 ^ nd) : Bs w b o (Ref.sg neg ++ (Ref.dle X).reverse) ∧ (Ref.sg neg ++ (Ref.dle X).reverse).length = nd + sg neg := by
  have hl := Ref.len_of X nd h1 h2
  have hs : (Ref.sg neg).length = sg neg := by cases neg <;> rfl
  have hL : (Ref.sg neg ++ (Ref.dle X).reverse).length = nd + sg neg := by
    rw [List.length_append, List.length_reverse, hl, hs]; omega
  refine ⟨fun i hi => ?_, hL⟩
  rw [hL] at hi
  by_cases hi0 : i < sg neg
  · cases neg
    · exact absurd hi0 (by simp [sg])
    · have : i = 0 := by simp [sg] at hi0; omega
      subst this
      rw [Nat.add_zero, h.1 rfl]
      rfl
  · have e := h.2 (nd - 1 - (i - sg neg)) (by omega)
    rw [show o + sg neg + (nd - 1 - (nd - 1 - (i - sg neg))) = o + i from by omega] at e
    rw [e]
    have e2 : (Ref.sg neg ++ (Ref.dle X).reverse).getD i 0 = ((48 + X / 10 ^ (nd - 1 - (i - sg neg)) % 10 : Nat) : Int) := by
      rw [(Ref.dle_law X).1, hl, List.getD, List.getElem?_append_right (by omega), hs]
      have := Ref.dgl_at X nd (i - sg neg) (by omega)
      rw [List.getD] at this
      exact this
    rw [e2]
    rfl
set_option maxRecDepth 100000 in
set_option maxHeartbeats 1000000 in
theorem Text_c (p X : Nat) (neg : Bool) (v : Value) (w : World) (h : Bi w p neg v) (hv : Abs w v X) (hX : 1 ≤ X) (hG : Gl w) :
    Calls Tryz.prog 17 #[.pointer (some ⟨p, 0, none⟩), .int .i64 10] w fun e w' => e = .returned (.string (ITX neg X)) ∧ Fr w w' No := by
  rcases hv with ⟨rfl, rfl⟩ | ⟨b, k, cc, rfl, h1, h2, h3, h4, h5, h6, h7, h8⟩
  · exact absurd hX (by decide)
  · have c0 := h.c0
    have c1 := h.c1
    have K : Hid (∀ wd, Fr w wd No → Calls Tryz.prog 26 #[.slice (some ⟨b, 0, none⟩) k cc, .bool neg, .int .i64 10] wd fun e w' => ∃ g o n c, e = .returned (.slice (some ⟨g, o, none⟩) n c) ∧ (∀ w3, Fr w' w3 No → (convert 22 9 (.slice (some ⟨g, o, none⟩) n c)).run Tryz.prog w3 = .ok (.string (ITX neg X)) w3) ∧ Hid (Fr w w' No)) := Lib.hid (fun wd hd => by
      refine (itoa_c b k cc X neg wd (h7.fr hd (fun _ _ c => c)) h6 h1 h2 (hG.fr hd (fun _ _ c => c))).mono ?_
      rintro e w' ⟨g, o, nd, c, rfl, g1, g2, g3, g4, g5, g6⟩
      obtain ⟨t1, t2⟩ := txt_bs g5 g3 g4
      exact ⟨g, o, nd + sg neg, c, rfl, fun w3 h3 => run_convert_bytes_arg (P := Tryz.prog) w3 22 5 Tryz.underlying22 Tryz.underlying5 g o (nd + sg neg) c (Ref.sg neg ++ (Ref.dle X).reverse) t2 (fun i hi => (t1.fr h3 (fun _ c => c)) i (by omega)) 9 Tryz.underlying9, Lib.hid (hd.trans g6 (fun _ _ _ c => c))⟩)
    clear h h1 h2 h3 h4 h5 h6 h7 h8 hG
    generalize ITX neg X = T at *
    go_enter Tryz.func17, Tryz.ntmps17
    go_wp2_with fail
    go_region_with (go_at_call 26; with_reducible refine (K.out w.drew ((Fr.refl _ _).drew)).mono ?_; rintro e w2 ⟨g, o, n, c, rfl, hcv, HF⟩; have hc0 := hcv w2 (Fr.refl _ _); have hc1 := hcv w2.drew ((Fr.refl _ _).drew); have hc2 := hcv w2.drew.drew ((Fr.refl _ _).drew.drew))
    all_goals
      clear hc0 hc1 hc2 hcv
      go_wp2_with fail
      go_returns
      exact ⟨rfl, by first | exact HF.out | exact HF.out.drew | exact HF.out.drew.drew⟩
end Go.Proofs.YtdidglfaogmnfaaGreatDoor
