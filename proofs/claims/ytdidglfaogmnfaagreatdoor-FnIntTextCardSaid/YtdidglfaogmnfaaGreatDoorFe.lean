/-
  A part of the proof of FnIntText: Set, Neg, MakeBigInt.
-/
import Derived.Test.YtdidglfaogmnfaaGreatDoorFd
namespace Go.Proofs.YtdidglfaogmnfaaGreatDoor
set_option linter.unusedVariables false
open Go.RowKit

theorem info47 : (Tryz.prog.info? 47).map (fun i => (i.zero, i.size, i.bytes)) = some (some (.agg #[.bool false, .slice none 0 0]), 2, 32) := by kernel_rfl
theorem neq_other {p q : Nat} {n1 n2 : Nat} (w : World) (hne : p ≠ q) (hp : Blk w p n1) (hq : Blk w q n2) :
    (binOp .neq 36 (.pointer (some ⟨p, 0, none⟩)) (.pointer (some ⟨q, 0, none⟩))).run Tryz.prog w = .ok (.bool true) w := by
  obtain ⟨ax, tx, hx1, _⟩ := hp
  obtain ⟨ay, ty, hy1, _⟩ := hq
  obtain ⟨j, hte⟩ : ∃ j, Tryz.prog.info? 47 = some j := by
    cases h : Tryz.prog.info? 47 with
    | none => have := info47; rw [h] at this; cases this
    | some j => exact ⟨j, rfl⟩
  have hsz : j.size ≠ 0 := by
    have := info47
    rw [hte] at this
    simp only [Option.map_some, Option.some.injEq, Prod.mk.injEq] at this
    omega
  have h : ∀ d : Nat, (Op.equalIn (d + 1) 36 (.pointer (some ⟨p, 0, none⟩)) (.pointer (some ⟨q, 0, none⟩))).run Tryz.prog w = .ok false w := fun d => by
    simp [Op.equalIn, run_underlying Tryz.underlying36, sizeOf, typeInfo, hte, hsz, run_sameAddr_other w (a := ⟨p, 0, none⟩) (b := ⟨q, 0, none⟩) (by simp [hne]) hx1 hy1]
  simp only [binOp]
  simp [Op.equal, Op.maxDepth, h 9999]
theorem neq_same (p : Nat) (w : World) : (binOp .neq 36 (.pointer (some ⟨p, 0, none⟩)) (.pointer (some ⟨p, 0, none⟩))).run Tryz.prog w = .ok (.bool false) w := by
  obtain ⟨j, hte⟩ : ∃ j, Tryz.prog.info? 47 = some j := by
    cases h : Tryz.prog.info? 47 with
    | none => have := info47; rw [h] at this; cases this
    | some j => exact ⟨j, rfl⟩
  have h : ∀ d : Nat, (Op.equalIn (d + 1) 36 (.pointer (some ⟨p, 0, none⟩)) (.pointer (some ⟨p, 0, none⟩))).run Tryz.prog w = .ok true w := fun d => by
    simp [Op.equalIn, run_underlying Tryz.underlying36, sizeOf, typeInfo, hte, run_sameAddr_same]
  simp only [binOp]
  simp [Op.equal, Op.maxDepth, h 9999]
set_option maxRecDepth 100000 in
theorem set_same (p : Nat) (neg : Bool) (v : Value) (w : World) (h : Bi w p neg v) :
    Calls Tryz.prog 21 #[.pointer (some ⟨p, 0, none⟩), .pointer (some ⟨p, 0, none⟩)] w fun e w' => e = .returned (.pointer (some ⟨p, 0, none⟩)) ∧ w' = w := by
  have hc := neq_same p w
  go_enter Tryz.func21, Tryz.ntmps21
  go_wp2_with fail
  go_returns
  exact ⟨rfl, rfl⟩
set_option maxRecDepth 100000 in
theorem neg_c (p X : Nat) (v : Value) (w : World) (h : Bi w p false v) (hv : Abs w v X) :
    Calls Tryz.prog 14 #[.pointer (some ⟨p, 0, none⟩), .pointer (some ⟨p, 0, none⟩)] w fun e w' => ∃ ng, e = .returned (.pointer (some ⟨p, 0, none⟩)) ∧ ng = decide (1 ≤ X) ∧ Bi w' p ng v ∧ Fr w w' (fun k _ => k = p) := by
  have K := Lib.hid (set_same p false v w h)
  have c0 := h.c0
  have c1 := h.c1
  have fz := h.B.fz 0
  have KN : Hid (∀ ng, Bi (w.setCell ⟨p, 0, none⟩ (.bool ng)) p ng v ∧ Fr w (w.setCell ⟨p, 0, none⟩ (.bool ng)) (fun k _ => k = p)) := Lib.hid (fun ng => by
    have hF : Fr w (w.setCell ⟨p, 0, none⟩ (.bool ng)) (fun k _ => k = p) := (Fr.refl _ _).set _ _ _ (fun _ => rfl)
    exact ⟨⟨h.B.fr hF, h.B.get 0 (by decide) _, by rw [cell_set_ne _ _ _ _ _ _ (by simp)]; exact h.c1⟩, hF⟩)
  clear h
  rcases hv with ⟨rfl, rfl⟩ | ⟨b, k, cc, rfl, h1, h2, h3, h4, h5, h6, h7, h8⟩
  · go_enter Tryz.func14, Tryz.ntmps14
    go_wp2_with fail
    with_reducible refine K.out.mono ?_
    rintro e w' ⟨rfl, rfl⟩
    go_wp2_with fail
    go_returns
    exact ⟨false, rfl, rfl, (KN.out false).1, (KN.out false).2⟩
  · have KX := Lib.hid (Nrm.pos h6 h1)
    clear h2 h3 h4 h5 h6 h7 h8
    have h1' : 0 < k := h1
    go_enter Tryz.func14, Tryz.ntmps14
    go_wp2_with fail
    with_reducible refine K.out.mono ?_
    rintro e w' ⟨rfl, rfl⟩
    go_wp2_with fail
    go_returns
    exact ⟨true, rfl, (decide_eq_true KX.out).symm, (KN.out true).1, (KN.out true).2⟩
end Go.Proofs.YtdidglfaogmnfaaGreatDoor
