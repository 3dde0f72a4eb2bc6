/-
  A part of the proof of FnIntText: the law returns true.
-/
import Derived.Test.YtdidglfaogmnfaaGreatDoorFm
namespace Go.Proofs.YtdidglfaogmnfaaGreatDoor
set_option linter.unusedVariables false
open Go.RowKit Go.Proofs.YtdidglfaogmnfaaGreatDoorW.PrintWords Go.Proofs.YtdidglfaogmnfaaGreatDoorW.PrintLast Go.Proofs.YtdidglfaogmnfaaGreatDoorW.PrintMore

/-- what the two new variables hold -/
structure LawCells (wd : World) (s s1 : Nat) (ng : Bool) (A1 : Option Addr) (n c1 : Nat) (A4 : Option Addr) (n4 c4 : Nat) (A7 : Option Addr) (c7 : Nat) : Prop where
  a0 : wd.cell? ⟨s, 0, none⟩ = some (.bool ng)
  a1 : wd.cell? ⟨s, 1, none⟩ = some (.slice A1 n c1)
  b0 : wd.cell? ⟨s1, 0, none⟩ = some (.int .i64 2)
  b1 : wd.cell? ⟨s1, 1, none⟩ = some (.bool ng)
  b2 : wd.cell? ⟨s1, 2, none⟩ = some (.slice A4 n4 c4)
  b3 : wd.cell? ⟨s1, 3, none⟩ = some (.int .u64 0)
  b4 : wd.cell? ⟨s1, 4, none⟩ = some (.string ⟨#[]⟩)
  b5 : wd.cell? ⟨s1, 5, none⟩ = some (.slice A7 0 c7)
theorem LawCells.fr {wd w2 : World} {s s1 : Nat} {ng : Bool} {A1 : Option Addr} {n c1 : Nat} {A4 : Option Addr} {n4 c4 : Nat} {A7 : Option Addr} {c7 : Nat} (h : LawCells wd s s1 ng A1 n c1 A4 n4 c4 A7 c7) (hf : Fr wd w2 No) : LawCells w2 s s1 ng A1 n c1 A4 n4 c4 A7 c7 :=
  ⟨hf.keep h.a0 (fun c => c), hf.keep h.a1 (fun c => c), hf.keep h.b0 (fun c => c), hf.keep h.b1 (fun c => c), hf.keep h.b2 (fun c => c), hf.keep h.b3 (fun c => c), hf.keep h.b4 (fun c => c), hf.keep h.b5 (fun c => c)⟩
theorem law_w0 {w1 W0 : World} {ng : Bool} {A1 : Option Addr} {n c1 : Nat} {A4 : Option Addr} {n4 c4 : Nat} {A7 : Option Addr} {c7 : Nat}
    (h : (w1.alloc (.cells #[.bool ng, .slice A1 n c1] 24)).alloc (.cells #[.int .i64 2, .bool ng, .slice A4 n4 c4, .int .u64 0, .string ⟨#[]⟩, .slice A7 0 c7] 28) = W0) :
    Fr w1 W0 No ∧ LawCells W0 w1.heap.size (w1.heap.size + 1) ng A1 n c1 A4 n4 c4 A7 c7 := by
  have f1 := new40 w1 #[.bool ng, .slice A1 n c1] 24
  have f2 := new40 (w1.alloc (.cells #[.bool ng, .slice A1 n c1] 24)) #[.int .i64 2, .bool ng, .slice A4 n4 c4, .int .u64 0, .string ⟨#[]⟩, .slice A7 0 c7] 28
  have a := fun i v h => f2.keep (cell_new w1 #[.bool ng, .slice A1 n c1] 24 i v h) (fun c => c)
  have b := cell_new (w1.alloc (.cells #[.bool ng, .slice A1 n c1] 24)) #[.int .i64 2, .bool ng, .slice A4 n4 c4, .int .u64 0, .string ⟨#[]⟩, .slice A7 0 c7] 28
  rw [size_new] at b
  rw [← h]
  exact ⟨f1.trans f2 (fun _ _ _ c => c), a 0 _ rfl, a 1 _ rfl, b 0 _ rfl, b 1 _ rfl, b 2 _ rfl, b 3 _ rfl, b 4 _ rfl, b 5 _ rfl⟩
set_option maxRecDepth 100000 in
set_option maxHeartbeats 2000000 in
theorem law_c (an : Bool) (A : Option Addr) (c : Nat) (l : List Int) (w : World) (hA : Kd.C (Kd.int .u8) w A l.length l) (hc : l.length ≤ c) (hb : Ref.Byt l) (hT : Tb w) :
    Calls Tryz.prog 3 #[.bool an, .slice A l.length c] w fun e w' => e = .returned (.bool true) ∧ Fr w w' No := by
  by_cases hl : l.length ≤ 2147483647
  · have KL := Lib.hid (law_in an A c l w hA hc hb hl hT)
    have hl' : (l.length : Int) ≤ 2147483647 := by omega
    clear hA hc hb hT
    generalize l.length = n0 at *
    go_enter Tryz.func3, Tryz.ntmps3
    go_wp2_with fail
    with_reducible refine KL.out.mono ?_
    rintro e w1 ⟨ng, T, A1, n, c1, A4, n4, c4, A7, c7, rfl, HH⟩
    go_upto_region 4 with fail
    generalize hW : World.alloc (World.alloc _ _) _ = W0
    obtain ⟨F0, C0⟩ := law_w0 hW
    clear hW
    generalize w1.heap.size = s at *
    generalize s + 1 = s1 at *
    have KC := Lib.hid C0
    have hTT : Hid ((T.toList == T.toList) = true) := Lib.hid (by simp)
    have KA : Hid (∀ wd, Fr W0 wd No → Calls Tryz.prog 5 #[.agg #[.int .i64 2, .bool ng, .slice A4 n4 c4, .int .u64 0, .string ⟨#[]⟩, .slice A7 0 c7]] wd fun e w' => e = .returned (.string T) ∧ Hid (Fr W0 w' No)) := Lib.hid (fun wd hd => (HH.out.1.a wd (F0.trans hd (fun _ _ _ c => c))).mono (by rintro e w' ⟨rfl, h⟩; exact ⟨rfl, Lib.hid (hd.trans h (fun _ _ _ c => c))⟩))
    have KB : Hid (∀ wd, Fr W0 wd No → Calls Tryz.prog 6 #[.agg #[.bool ng, .slice A1 n c1]] wd fun e w' => e = .returned (.string T) ∧ Hid (Fr W0 w' No)) := Lib.hid (fun wd hd => (HH.out.1.b wd (F0.trans hd (fun _ _ _ c => c))).mono (by rintro e w' ⟨rfl, h⟩; exact ⟨rfl, Lib.hid (hd.trans h (fun _ _ _ c => c))⟩))
    have KF : Hid (Fr w W0 No) := Lib.hid (HH.out.2.trans F0 (fun _ _ _ c => c))
    obtain ⟨a0, a1, b0, b1, b2, b3, b4, b5⟩ := C0
    clear HH F0 KL
    go_region_with (first
      | (go_at_call 5; with_reducible refine (KA.out _ (by first | exact Fr.refl _ _ | exact (Fr.refl _ _).drew | exact (Fr.refl _ _).drew.drew | exact (Fr.refl _ _).drew.drew.drew)).mono ?_; rintro e w2 ⟨rfl, H2⟩; obtain ⟨g0, g1, m0, m1, m2, m3, m4, m5⟩ := KC.out.fr H2.out)
      | (go_at_call 6; with_reducible refine (KB.out _ (by first | exact H2.out | exact H2.out.drew | exact H2.out.drew.drew)).mono ?_; rintro e w3 ⟨rfl, H3⟩))
    all_goals
      go_wp2_with fail
      go_returns
      exact ⟨by first | rfl | exact congrArg (fun b => Ending.returned (Value.bool b)) hTT.out | (show Ending.returned (Value.bool _) = _; simp), by first | exact KF.out.trans H3.out (fun _ _ _ c => c) | exact KF.out.trans H3.out.drew (fun _ _ _ c => c) | exact KF.out.trans H3.out.drew.drew (fun _ _ _ c => c)⟩
  · have hl' : (2147483647 : Int) < (l.length : Int) := by omega
    clear hA hc hb hT
    generalize l.length = n0 at *
    go_enter Tryz.func3, Tryz.ntmps3
    go_wp2_with fail
    go_returns
    exact ⟨rfl, Fr.refl _ _⟩
end Go.Proofs.YtdidglfaogmnfaaGreatDoor
