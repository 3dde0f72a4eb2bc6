/-
  A part of the proof of FnMathWhole (packed out of smaller texts by a program of this session; what the proof does not reach is left out).
-/
import Derived.Test.YtldejfallphhbaaGreatDoorZh
namespace Go.Proofs.YtldejfallphhbaaGreatDoor
set_option linter.unusedVariables false
open Go.RowKit
set_option maxRecDepth 100000 in
theorem floatOf_c (x : Nat) (hx : x < 18446744073709551616) (w : World) : Calls Tryz.prog 43 #[.int .u64 (x : Int)] w fun e w' => e = .returned (.float .f64 x) ∧ w' = w := by
  have h4 := e4
  go_enter Tryz.func43, Tryz.ntmps43
  go_wp2_with fail
  go_returns
  exact ⟨by simp, rfl⟩
set_option maxRecDepth 100000 in
set_option maxHeartbeats 1000000 in
theorem scalar_f (x : Nat) (hx : x < 18446744073709551616) (s : Bool) (v t u : Value) (w : World) :
    Calls Tryz.prog 18 #[.int .i64 3, .agg #[.int .i64 3, .bool s, v, .int .u64 (x : Int), t, u]] w fun e w' => e = .returned (.tuple #[.iface 76 (.float .f64 x), .bool true]) ∧ Hid (Fr w w' No) := by
  have KO := Lib.hid (floatOf_c x hx)
  have KF := Lib.hid (new40 w #[.int .i64 3, .bool s, v, .int .u64 (x : Int), t, u] 28)
  clear hx
  go_enter Tryz.func18, Tryz.ntmps18
  go_wp2_with fail
  refine (KO.out _).mono ?_
  rintro e w2 ⟨rfl, rfl⟩
  go_wp2_with fail
  go_returns
  exact ⟨rfl, KF⟩
set_option maxRecDepth 100000 in
set_option maxHeartbeats 1000000 in
theorem scalar_i (neg : Bool) (v u : Value) (l : List Int) (w : World) (hl : l.length ≤ 300) (hv : Dl w v l) (V : Nat) (hc : Ref.Can l V) :
    Calls Tryz.prog 18 #[.int .i64 2, .agg #[.int .i64 2, .bool neg, v, .int .u64 0, .string ⟨#[]⟩, u]] w fun e w' => ∃ x y, e = .returned (.tuple #[.iface 74 (.agg #[.int .i64 x, .pointer y]), .bool true]) ∧ Hid (IntV w' (.agg #[.int .i64 x, .pointer y]) (neg && decide (1 ≤ V)) V ∧ Fr w w' No) := by
  have f1 := new40 w #[.int .i64 2, .bool neg, v, .int .u64 0, .string ⟨#[]⟩, u] 28
  have KO := Lib.hid (whole9_c neg v u l _ hl (hv.no f1) V hc)
  have KF := Lib.hid f1
  clear hl hv hc f1
  go_enter Tryz.func18, Tryz.ntmps18
  go_wp2_with fail
  refine KO.out.mono ?_
  rintro e w2 ⟨x, y, rfl, H1, H2⟩
  have K := Lib.hid (And.intro H1 (KF.out.trans H2 (fun _ _ _ c => c)))
  clear H1 H2
  go_wp2_with fail
  go_returns
  exact ⟨x, y, rfl, K⟩
end Go.Proofs.YtldejfallphhbaaGreatDoor
namespace Go.Proofs.YtldejfallphhbaaGreatDoor
set_option linter.unusedVariables false
open Go.RowKit
def vInt (ng : Bool) (A : Option Addr) (n c : Nat) : Value := .agg #[.int .i64 2, .bool ng, .slice A n c, .int .u64 0, .string ⟨#[]⟩, .slice none 0 0]
def vFlt (x : Nat) : Value := .agg #[.int .i64 3, .bool false, .slice none 0 0, .int .u64 (x : Int), .string ⟨#[]⟩, .slice none 0 0]
set_option maxRecDepth 100000 in
set_option maxHeartbeats 1000000 in
theorem ceil1_f (x : Nat) (hx : x < 18446744073709551616) (hf : Fl.Fin x) (w : World) :
    Calls Tryz.prog 8 #[.int .i64 0, vFlt x] w fun e w' => ∃ A n c l, e = .returned (.tuple #[vInt (Fl.sg x && decide (1 ≤ Fl.wholeN .up x)) A n c, .bool true]) ∧ Hid (VInt w' (Fl.sg x && decide (1 ≤ Fl.wholeN .up x)) A n c l (Fl.wholeN .up x) ∧ Fr w w' No) := by
  have f1 := new40 w #[.int .i64 3, .bool false, .slice none 0 0, .int .u64 (x : Int), .string ⟨#[]⟩, .slice none 0 0] 28
  have s1 : (w.alloc (.cells #[.int .i64 3, .bool false, .slice none 0 0, .int .u64 (x : Int), .string ⟨#[]⟩, .slice none 0 0] 28)).heap.size = w.heap.size + 1 := size_new _ _
  have f2 := new40 (w.alloc (.cells #[.int .i64 3, .bool false, .slice none 0 0, .int .u64 (x : Int), .string ⟨#[]⟩, .slice none 0 0] 28)) zVal 28
  have hB := Blk.new (w.alloc (.cells #[.int .i64 3, .bool false, .slice none 0 0, .int .u64 (x : Int), .string ⟨#[]⟩, .slice none 0 0] 28)) zVal 28 6 rfl
  rw [s1] at hB
  have f12 := f1.trans f2 (fun _ _ _ c => c)
  have K1 := Lib.hid (scalar_f x hx false (.slice none 0 0) (.string ⟨#[]⟩) (.slice none 0 0) ((w.alloc (.cells #[.int .i64 3, .bool false, .slice none 0 0, .int .u64 (x : Int), .string ⟨#[]⟩, .slice none 0 0] 28)).alloc (.cells zVal 28)))
  have K2 := Lib.hid (fun w => zzceil_f x w hf)
  have KB := Lib.hid hB
  have KF := Lib.hid f12
  have KZ : Hid (w.heap.size + 2 ≤ ((w.alloc (.cells #[.int .i64 3, .bool false, .slice none 0 0, .int .u64 (x : Int), .string ⟨#[]⟩, .slice none 0 0] 28)).alloc (.cells zVal 28)).heap.size) := Lib.hid (by rw [size_new, size_new]; omega)
  clear hx hf f1 s1 f2 hB f12
  unfold vInt vFlt
  unfold zVal at *
  go_enter Tryz.func8, Tryz.ntmps8
  go_wp2_with fail
  with_reducible refine K1.out.mono ?_
  rintro e w3 ⟨rfl, H3⟩
  go_wp2_with fail
  with_reducible refine (K2.out _).mono ?_
  rintro e w4 ⟨x4, y4, rfl, H4⟩
  have KS := Lib.hid (sof_i x4 y4 _ _ w4 H4.out.1 (fun h => by simp at h; exact h.2))
  go_wp2_with fail
  with_reducible refine KS.out.mono ?_
  rintro e w5 ⟨A, n, c, l, rfl, H5⟩
  have KQ := Lib.hid ((KF.out.trans H3.out (fun _ _ _ c => c)).trans (H4.out.2.trans H5.out.2.1 (fun _ _ _ c => c)) (fun _ _ _ c => c))
  have hB5 := KB.out.fr (H3.out.trans (H4.out.2.trans H5.out.2.1 (fun _ _ _ c => c)) (fun _ _ _ c => c))
  have KZ4 : Hid (w.heap.size + 2 ≤ w4.heap.size) := Lib.hid (by have a := KZ.out; have b := H3.out.size; have c := H4.out.2.size; omega)
  obtain ⟨fz, ⟨v0, hv0⟩, ⟨v1, hv1⟩, ⟨v2, hv2⟩, ⟨v3, hv3⟩, ⟨v4, hv4⟩, ⟨v5, hv5⟩⟩ := six hB5
  have f0 := fz 0
  have f1 := fz 1
  have f2 := fz 2
  have f3 := fz 3
  have f4 := fz 4
  have f5 := fz 5
  have KB5 := Lib.hid hB5
  clear hB5 fz
  go_wp2_with fail
  generalize hw : World.setCell _ _ _ = w6
  obtain ⟨r0, r1, r2, r3, r4, r5, rF, rG⟩ := rd6 (w := w) KB5.out KQ.out (Nat.le_succ _) hw
  clear hw
  refine bodyPost_ret (by simp [results, Tryz.results8, go_sem, r0, r1, r2, r3, r4, r5]; try rfl) rfl ?_
  exact ⟨A, n, c, l, rfl, Lib.hid ⟨⟨dl_new H5.out.1.1 (fun g o n2 c2 e hl => by have := H5.out.2.2 g o n2 c2 e hl; have := KZ4.out; omega) rG, H5.out.1.2.1, H5.out.1.2.2⟩, rF⟩⟩
set_option maxRecDepth 100000 in
set_option maxHeartbeats 1000000 in
theorem ceil1_i (neg : Bool) (v u : Value) (l : List Int) (w : World) (hl : l.length ≤ 300) (hv : Dl w v l) (V : Nat) (hc : Ref.Can l V) :
    Calls Tryz.prog 8 #[.int .i64 0, .agg #[.int .i64 2, .bool neg, v, .int .u64 0, .string ⟨#[]⟩, u]] w fun e w' => ∃ A n c l, e = .returned (.tuple #[vInt (neg && decide (1 ≤ V)) A n c, .bool true]) ∧ Hid (VInt w' (neg && decide (1 ≤ V)) A n c l V ∧ Fr w w' No) := by
  have f1 := new40 w #[.int .i64 2, .bool neg, v, .int .u64 0, .string ⟨#[]⟩, u] 28
  have s1 : (w.alloc (.cells #[.int .i64 2, .bool neg, v, .int .u64 0, .string ⟨#[]⟩, u] 28)).heap.size = w.heap.size + 1 := size_new _ _
  have f2 := new40 (w.alloc (.cells #[.int .i64 2, .bool neg, v, .int .u64 0, .string ⟨#[]⟩, u] 28)) zVal 28
  have hB := Blk.new (w.alloc (.cells #[.int .i64 2, .bool neg, v, .int .u64 0, .string ⟨#[]⟩, u] 28)) zVal 28 6 rfl
  rw [s1] at hB
  have f12 := f1.trans f2 (fun _ _ _ c => c)
  have K1 := Lib.hid (scalar_i neg v u l ((w.alloc (.cells #[.int .i64 2, .bool neg, v, .int .u64 0, .string ⟨#[]⟩, u] 28)).alloc (.cells zVal 28)) hl (hv.no f12) V hc)
  have K2 := Lib.hid (fun x y w h => zzceil_i x y (neg && decide (1 ≤ V)) V w h)
  have KB := Lib.hid hB
  have KF := Lib.hid f12
  have KZ : Hid (w.heap.size + 2 ≤ ((w.alloc (.cells #[.int .i64 2, .bool neg, v, .int .u64 0, .string ⟨#[]⟩, u] 28)).alloc (.cells zVal 28)).heap.size) := Lib.hid (by rw [size_new, size_new]; omega)
  clear hl hv hc f1 s1 f2 hB f12
  unfold vInt
  unfold zVal at *
  go_enter Tryz.func8, Tryz.ntmps8
  go_wp2_with fail
  with_reducible refine K1.out.mono ?_
  rintro e w3 ⟨x3, y3, rfl, H3'⟩
  have H3 := Lib.hid H3'.out.2
  go_wp2_with fail
  with_reducible refine (K2.out x3 y3 _ H3'.out.1).mono ?_
  rintro e w4 ⟨rfl, H4⟩
  have KS := Lib.hid (sof_i x3 y3 _ _ w4 H4.out.1 (fun h => by simp at h; exact h.2))
  go_wp2_with fail
  with_reducible refine KS.out.mono ?_
  rintro e w5 ⟨A, n, c, l, rfl, H5⟩
  have KQ := Lib.hid ((KF.out.trans H3.out (fun _ _ _ c => c)).trans (H4.out.2.trans H5.out.2.1 (fun _ _ _ c => c)) (fun _ _ _ c => c))
  have hB5 := KB.out.fr (H3.out.trans (H4.out.2.trans H5.out.2.1 (fun _ _ _ c => c)) (fun _ _ _ c => c))
  have KZ4 : Hid (w.heap.size + 2 ≤ w4.heap.size) := Lib.hid (by have a := KZ.out; have b := H3.out.size; have c := H4.out.2.size; omega)
  obtain ⟨fz, ⟨v0, hv0⟩, ⟨v1, hv1⟩, ⟨v2, hv2⟩, ⟨v3, hv3⟩, ⟨v4, hv4⟩, ⟨v5, hv5⟩⟩ := six hB5
  have f0 := fz 0
  have f1 := fz 1
  have f2 := fz 2
  have f3 := fz 3
  have f4 := fz 4
  have f5 := fz 5
  have KB5 := Lib.hid hB5
  clear hB5 fz
  go_wp2_with fail
  generalize hw : World.setCell _ _ _ = w6
  obtain ⟨r0, r1, r2, r3, r4, r5, rF, rG⟩ := rd6 (w := w) KB5.out KQ.out (Nat.le_succ _) hw
  clear hw
  refine bodyPost_ret (by simp [results, Tryz.results8, go_sem, r0, r1, r2, r3, r4, r5]; try rfl) rfl ?_
  exact ⟨A, n, c, l, rfl, Lib.hid ⟨⟨dl_new H5.out.1.1 (fun g o n2 c2 e hl => by have := H5.out.2.2 g o n2 c2 e hl; have := KZ4.out; omega) rG, H5.out.1.2.1, H5.out.1.2.2⟩, rF⟩⟩
set_option maxRecDepth 100000 in
set_option maxHeartbeats 1000000 in
theorem floor1_f (x : Nat) (hx : x < 18446744073709551616) (hf : Fl.Fin x) (w : World) :
    Calls Tryz.prog 8 #[.int .i64 1, vFlt x] w fun e w' => ∃ A n c l, e = .returned (.tuple #[vInt (Fl.sg x && decide (1 ≤ Fl.wholeN .down x)) A n c, .bool true]) ∧ Hid (VInt w' (Fl.sg x && decide (1 ≤ Fl.wholeN .down x)) A n c l (Fl.wholeN .down x) ∧ Fr w w' No) := by
  have f1 := new40 w #[.int .i64 3, .bool false, .slice none 0 0, .int .u64 (x : Int), .string ⟨#[]⟩, .slice none 0 0] 28
  have s1 : (w.alloc (.cells #[.int .i64 3, .bool false, .slice none 0 0, .int .u64 (x : Int), .string ⟨#[]⟩, .slice none 0 0] 28)).heap.size = w.heap.size + 1 := size_new _ _
  have f2 := new40 (w.alloc (.cells #[.int .i64 3, .bool false, .slice none 0 0, .int .u64 (x : Int), .string ⟨#[]⟩, .slice none 0 0] 28)) zVal 28
  have hB := Blk.new (w.alloc (.cells #[.int .i64 3, .bool false, .slice none 0 0, .int .u64 (x : Int), .string ⟨#[]⟩, .slice none 0 0] 28)) zVal 28 6 rfl
  rw [s1] at hB
  have f12 := f1.trans f2 (fun _ _ _ c => c)
  have K1 := Lib.hid (scalar_f x hx false (.slice none 0 0) (.string ⟨#[]⟩) (.slice none 0 0) ((w.alloc (.cells #[.int .i64 3, .bool false, .slice none 0 0, .int .u64 (x : Int), .string ⟨#[]⟩, .slice none 0 0] 28)).alloc (.cells zVal 28)))
  have K2 := Lib.hid (fun w => zzfloor_f x w hf)
  have KB := Lib.hid hB
  have KF := Lib.hid f12
  have KZ : Hid (w.heap.size + 2 ≤ ((w.alloc (.cells #[.int .i64 3, .bool false, .slice none 0 0, .int .u64 (x : Int), .string ⟨#[]⟩, .slice none 0 0] 28)).alloc (.cells zVal 28)).heap.size) := Lib.hid (by rw [size_new, size_new]; omega)
  clear hx hf f1 s1 f2 hB f12
  unfold vInt vFlt
  unfold zVal at *
  go_enter Tryz.func8, Tryz.ntmps8
  go_wp2_with fail
  with_reducible refine K1.out.mono ?_
  rintro e w3 ⟨rfl, H3⟩
  go_wp2_with fail
  with_reducible refine (K2.out _).mono ?_
  rintro e w4 ⟨x4, y4, rfl, H4⟩
  have KS := Lib.hid (sof_i x4 y4 _ _ w4 H4.out.1 (fun h => by simp at h; exact h.2))
  go_wp2_with fail
  with_reducible refine KS.out.mono ?_
  rintro e w5 ⟨A, n, c, l, rfl, H5⟩
  have KQ := Lib.hid ((KF.out.trans H3.out (fun _ _ _ c => c)).trans (H4.out.2.trans H5.out.2.1 (fun _ _ _ c => c)) (fun _ _ _ c => c))
  have hB5 := KB.out.fr (H3.out.trans (H4.out.2.trans H5.out.2.1 (fun _ _ _ c => c)) (fun _ _ _ c => c))
  have KZ4 : Hid (w.heap.size + 2 ≤ w4.heap.size) := Lib.hid (by have a := KZ.out; have b := H3.out.size; have c := H4.out.2.size; omega)
  obtain ⟨fz, ⟨v0, hv0⟩, ⟨v1, hv1⟩, ⟨v2, hv2⟩, ⟨v3, hv3⟩, ⟨v4, hv4⟩, ⟨v5, hv5⟩⟩ := six hB5
  have f0 := fz 0
  have f1 := fz 1
  have f2 := fz 2
  have f3 := fz 3
  have f4 := fz 4
  have f5 := fz 5
  have KB5 := Lib.hid hB5
  clear hB5 fz
  go_wp2_with fail
  generalize hw : World.setCell _ _ _ = w6
  obtain ⟨r0, r1, r2, r3, r4, r5, rF, rG⟩ := rd6 (w := w) KB5.out KQ.out (Nat.le_succ _) hw
  clear hw
  refine bodyPost_ret (by simp [results, Tryz.results8, go_sem, r0, r1, r2, r3, r4, r5]; try rfl) rfl ?_
  exact ⟨A, n, c, l, rfl, Lib.hid ⟨⟨dl_new H5.out.1.1 (fun g o n2 c2 e hl => by have := H5.out.2.2 g o n2 c2 e hl; have := KZ4.out; omega) rG, H5.out.1.2.1, H5.out.1.2.2⟩, rF⟩⟩
set_option maxRecDepth 100000 in
set_option maxHeartbeats 1000000 in
theorem floor1_i (neg : Bool) (v u : Value) (l : List Int) (w : World) (hl : l.length ≤ 300) (hv : Dl w v l) (V : Nat) (hc : Ref.Can l V) :
    Calls Tryz.prog 8 #[.int .i64 1, .agg #[.int .i64 2, .bool neg, v, .int .u64 0, .string ⟨#[]⟩, u]] w fun e w' => ∃ A n c l, e = .returned (.tuple #[vInt (neg && decide (1 ≤ V)) A n c, .bool true]) ∧ Hid (VInt w' (neg && decide (1 ≤ V)) A n c l V ∧ Fr w w' No) := by
  have f1 := new40 w #[.int .i64 2, .bool neg, v, .int .u64 0, .string ⟨#[]⟩, u] 28
  have s1 : (w.alloc (.cells #[.int .i64 2, .bool neg, v, .int .u64 0, .string ⟨#[]⟩, u] 28)).heap.size = w.heap.size + 1 := size_new _ _
  have f2 := new40 (w.alloc (.cells #[.int .i64 2, .bool neg, v, .int .u64 0, .string ⟨#[]⟩, u] 28)) zVal 28
  have hB := Blk.new (w.alloc (.cells #[.int .i64 2, .bool neg, v, .int .u64 0, .string ⟨#[]⟩, u] 28)) zVal 28 6 rfl
  rw [s1] at hB
  have f12 := f1.trans f2 (fun _ _ _ c => c)
  have K1 := Lib.hid (scalar_i neg v u l ((w.alloc (.cells #[.int .i64 2, .bool neg, v, .int .u64 0, .string ⟨#[]⟩, u] 28)).alloc (.cells zVal 28)) hl (hv.no f12) V hc)
  have K2 := Lib.hid (fun x y w h => zzfloor_i x y (neg && decide (1 ≤ V)) V w h)
  have KB := Lib.hid hB
  have KF := Lib.hid f12
  have KZ : Hid (w.heap.size + 2 ≤ ((w.alloc (.cells #[.int .i64 2, .bool neg, v, .int .u64 0, .string ⟨#[]⟩, u] 28)).alloc (.cells zVal 28)).heap.size) := Lib.hid (by rw [size_new, size_new]; omega)
  clear hl hv hc f1 s1 f2 hB f12
  unfold vInt
  unfold zVal at *
  go_enter Tryz.func8, Tryz.ntmps8
  go_wp2_with fail
  with_reducible refine K1.out.mono ?_
  rintro e w3 ⟨x3, y3, rfl, H3'⟩
  have H3 := Lib.hid H3'.out.2
  go_wp2_with fail
  with_reducible refine (K2.out x3 y3 _ H3'.out.1).mono ?_
  rintro e w4 ⟨rfl, H4⟩
  have KS := Lib.hid (sof_i x3 y3 _ _ w4 H4.out.1 (fun h => by simp at h; exact h.2))
  go_wp2_with fail
  with_reducible refine KS.out.mono ?_
  rintro e w5 ⟨A, n, c, l, rfl, H5⟩
  have KQ := Lib.hid ((KF.out.trans H3.out (fun _ _ _ c => c)).trans (H4.out.2.trans H5.out.2.1 (fun _ _ _ c => c)) (fun _ _ _ c => c))
  have hB5 := KB.out.fr (H3.out.trans (H4.out.2.trans H5.out.2.1 (fun _ _ _ c => c)) (fun _ _ _ c => c))
  have KZ4 : Hid (w.heap.size + 2 ≤ w4.heap.size) := Lib.hid (by have a := KZ.out; have b := H3.out.size; have c := H4.out.2.size; omega)
  obtain ⟨fz, ⟨v0, hv0⟩, ⟨v1, hv1⟩, ⟨v2, hv2⟩, ⟨v3, hv3⟩, ⟨v4, hv4⟩, ⟨v5, hv5⟩⟩ := six hB5
  have f0 := fz 0
  have f1 := fz 1
  have f2 := fz 2
  have f3 := fz 3
  have f4 := fz 4
  have f5 := fz 5
  have KB5 := Lib.hid hB5
  clear hB5 fz
  go_wp2_with fail
  generalize hw : World.setCell _ _ _ = w6
  obtain ⟨r0, r1, r2, r3, r4, r5, rF, rG⟩ := rd6 (w := w) KB5.out KQ.out (Nat.le_succ _) hw
  clear hw
  refine bodyPost_ret (by simp [results, Tryz.results8, go_sem, r0, r1, r2, r3, r4, r5]; try rfl) rfl ?_
  exact ⟨A, n, c, l, rfl, Lib.hid ⟨⟨dl_new H5.out.1.1 (fun g o n2 c2 e hl => by have := H5.out.2.2 g o n2 c2 e hl; have := KZ4.out; omega) rG, H5.out.1.2.1, H5.out.1.2.2⟩, rF⟩⟩
end Go.Proofs.YtldejfallphhbaaGreatDoor
namespace Go.Proofs.YtldejfallphhbaaGreatDoor
set_option linter.unusedVariables false
open Go.RowKit
theorem unparg2_c (t : TypeId) (v : Value) (p : Nat) (w : World) (Q : World → Prop) (h : Calls Tryz.prog 280 #[.pointer (some ⟨p, 0, none⟩), .iface t v] w fun e w' => e = .returned .nilIface ∧ Q w') : Calls Tryz.prog 97 #[.iface t v, .iface 118 (.pointer (some ⟨p, 0, none⟩))] w fun e w' => e = .returned .nilIface ∧ Q w' := by
  have K := Lib.hid h
  have a1 := as_118_153
  clear h
  go_enter Tryz.func97, Tryz.ntmps97
  go_wp2_with fail
  refine K.out.mono ?_
  rintro e w' ⟨rfl, hq⟩
  go_wp2_with fail
  go_returns
  exact ⟨rfl, hq⟩
set_option maxRecDepth 100000 in
theorem upos2_c (s : ByteArray) (t : TypeId) (v : Value) (g h p : Nat) (w : World) (Q : World → Prop) (hc : Calls Tryz.prog 280 #[.pointer (some ⟨p, 0, none⟩), .iface t v] w fun e w' => e = .returned .nilIface ∧ Q w') (hg : w.cell? ⟨g, 0, none⟩ = some (.iface t v)) (hh : w.cell? ⟨h, 0, none⟩ = some (.iface 118 (.pointer (some ⟨p, 0, none⟩)))) :
    Calls Tryz.prog 73 #[.string s, .slice (some ⟨g, 0, none⟩) 1 1, .slice none 0 0, .int .i64 1, .slice (some ⟨h, 0, none⟩) 1 1] w fun e w' => e = .returned .nilIface ∧ Q w' := by
  have K := Lib.hid (chk_c s (some ⟨g, 0, none⟩) none w)
  have K2 := Lib.hid (unparg2_c t v p w Q hc)
  clear hc
  go_enter Tryz.func73, Tryz.ntmps73
  go_wp2_with fail
  refine K.out.mono ?_
  rintro e w' ⟨rfl, rfl⟩
  go_wp2_with fail
  go_loopw [27] (fun v27 wr => (v27 = .int .i64 0 ∧ wr = w') ∨ (v27 = .int .i64 1 ∧ Q wr)) (fun v27 _ => 1 - (intOf v27).toNat)
  case atStart => exact Or.inl ⟨rfl, rfl⟩
  case round =>
    rcases hrel with ⟨rfl, rfl⟩ | ⟨rfl, hq⟩
    · go_wp2_with fail
      refine K2.out.mono ?_
      rintro e w2 ⟨rfl, hq⟩
      go_wp2_with fail
      go_roundw
      case rel => right; exact ⟨by simp, hq⟩
      case measure => simp [intOf]
    · go_wp2_with fail
      go_returns
      exact ⟨rfl, hq⟩
theorem store_fl (x : Nat) (w : World) (a : Addr) (m : Mode) : (store a (.float .f64 x) m).run Tryz.prog w = stored Tryz.prog w a (.float .f64 x) m := run_store Tryz.prog w a _ m rfl
set_option maxRecDepth 100000 in
theorem unpack_f (x p : Nat) (w : World) (hB : Blk w p 1) : Calls Tryz.prog 280 #[.pointer (some ⟨p, 0, none⟩), .iface 76 (.float .f64 x)] w fun e w' => e = .returned .nilIface ∧ w' = w.setCell ⟨p, 0, none⟩ (.float .f64 x) := by
  have fz := hB.fz 0
  obtain ⟨v0, hv0⟩ := hB.here 0 (by decide)
  have a1 := as_76_74
  have a2 := as_76
  have a3 := store_fl x
  go_enter Tryz.func280, Tryz.ntmps280
  go_wp2_with fail
  go_returns
  exact ⟨rfl, rfl⟩
def UQ (w : World) (p y : Nat) (w' : World) : Prop := w'.cell? ⟨p, 0, none⟩ = some (.float .f64 y) ∧ Fr w w' (Al p)
set_option maxRecDepth 100000 in
set_option maxHeartbeats 1000000 in
theorem unpack_i (x : Int) (y : Option Addr) (b p : Nat) (w : World) (hB : Blk w p 1) (hc : ∀ w1, Fr w w1 No → Calls Tryz.prog 281 #[.agg #[.int .i64 x, .pointer y]] w1 fun e w' => e = .returned (.float .f64 b) ∧ Fr w1 w' No) : Calls Tryz.prog 280 #[.pointer (some ⟨p, 0, none⟩), .iface 74 (.agg #[.int .i64 x, .pointer y])] w fun e w' => e = .returned .nilIface ∧ UQ w p b w' := by
  have a1 := as_74
  have a3 := store_fl b
  have f2 := new40 w #[.int .i64 x, .pointer y] 74
  have KF := Lib.hid f2
  have KB := Lib.hid (hB.fr f2)
  have K := Lib.hid (hc _ f2)
  clear hB hc f2
  go_enter Tryz.func280, Tryz.ntmps280
  go_wp2_with fail
  refine K.out.mono ?_
  rintro e w5 ⟨rfl, H5⟩
  have hB5 := KB.out.fr H5
  have K5 := Lib.hid (And.intro hB5 (KF.out.trans H5 (fun _ _ _ c => c)))
  have fz := hB5.fz 0
  obtain ⟨u0, hu0⟩ := hB5.here 0 (by decide)
  clear hB5 H5
  go_wp2_with fail
  go_returns
  refine ⟨rfl, K5.out.1.get 0 (by decide) _, ?_⟩
  have h1 := (Fr.refl w5 (Al p)).set p 0 (.float .f64 b) (fun _ => rfl)
  exact (K5.out.2.no).trans h1 (fun _ _ _ c => c)
end Go.Proofs.YtldejfallphhbaaGreatDoor
namespace Go.Proofs.YtldejfallphhbaaGreatDoor
set_option linter.unusedVariables false
open Go.RowKit
def Takes (t : TypeId) (v : Value) (x : Nat) (w : World) : Prop := ∀ p w1, Fr w w1 No → Blk w1 p 1 → Calls Tryz.prog 280 #[.pointer (some ⟨p, 0, none⟩), .iface t v] w1 fun e w' => e = .returned .nilIface ∧ UQ w1 p x w'
set_option maxRecDepth 100000 in
set_option maxHeartbeats 1000000 in
theorem near_c (t : TypeId) (v : Value) (x : Nat) (hx : x < 18446744073709551616) (b s1 s2 g : Nat) (nm : ByteArray) (w : World) (hT : Takes t v x w) (hg : w.cell? ⟨g, 0, none⟩ = some (.iface t v)) (h1 : w.cell? ⟨s1, 0, none⟩ = some (.string nm)) (h2 : w.cell? ⟨s2, 0, none⟩ = some (.func (.func 48) #[] #[])) :
    Calls Tryz.prog 79 #[.pointer none, .pointer (some ⟨b, 0, none⟩), .slice (some ⟨g, 0, none⟩) 1 1, .slice none 0 0, .pointer (some ⟨s1, 0, none⟩), .pointer (some ⟨s2, 0, none⟩)] w fun e w' => e = .returned (.tuple #[.iface 76 (.float .f64 (Fl.roundBits x)), .nilIface]) ∧ Hid (Fr w w' No) := by
  have f1 := new40 w #[.float .f64 0] 117
  have sz : (w.alloc (.cells #[.float .f64 0] 117)).heap.size = w.heap.size + 1 := size_new _ _
  have f2 := new40 (w.alloc (.cells #[.float .f64 0] 117)) #[.iface 118 (.pointer (some ⟨w.heap.size, 0, none⟩))] 20
  have f12 := f1.trans f2 (fun _ _ _ c => c)
  have hB := (Blk.new w #[.float .f64 0] 117 1 rfl).fr f2
  have hh := cell_new (w.alloc (.cells #[.float .f64 0] 117)) #[.iface 118 (.pointer (some ⟨w.heap.size, 0, none⟩))] 20 0 _ rfl
  rw [sz] at hh
  have h1' := f1.keep h1 (fun c => c)
  have K := Lib.hid (fun s => upos2_c s t v g (w.heap.size + 1) w.heap.size _ (UQ _ w.heap.size x) (hT w.heap.size _ f12 hB) (f12.keep hg (fun c => c)) hh)
  have KR := Lib.hid (round_c x hx)
  have KF := Lib.hid f12
  have KC := Lib.hid (And.intro (cell_lt h2) (f12.keep h2 (fun c => c)))
  clear hT hg f1 sz f2 f12 hB hh hx
  go_enter Tryz.func79, Tryz.ntmps79
  go_wp2_with fail
  with_reducible refine (K.out _).mono ?_
  rintro e w2 ⟨rfl, H2⟩
  have c1 := H2.1
  have c2 := H2.2.keep KC.out.2 (fun (c : s2 = w.heap.size) => by have := KC.out.1; omega)
  have KG := Lib.hid (KF.out.trans H2.2 (fun k j hk (c : k = w.heap.size) => by omega))
  clear H2 h2
  go_wp2_with fail
  refine (KR.out _).mono ?_
  rintro e w3 ⟨rfl, rfl⟩
  go_wp2_with fail
  go_returns
  exact ⟨rfl, KG⟩
end Go.Proofs.YtldejfallphhbaaGreatDoor
namespace Go.Proofs.YtldejfallphhbaaGreatDoor
set_option linter.unusedVariables false
open Go.RowKit
set_option maxRecDepth 100000 in
theorem newBuiltin_c (nm : ByteArray) (f : Fn) (a c : Array Value) (w : World) : Calls Tryz.prog 78 #[.string nm, .func f a c] w fun e w' => e = .returned (.pointer (some ⟨w.heap.size, 0, none⟩)) ∧ w' = w.alloc (.cells #[.string nm, .func f a c, .nilIface] 120) := by
  go_enter Tryz.func78, Tryz.ntmps78
  go_wp2_with fail
  go_returns
  exact ⟨rfl, rfl⟩
set_option maxRecDepth 100000 in
theorem newUnary_c (nm : ByteArray) (f : Fn) (w : World) : Calls Tryz.prog 47 #[.string nm, .func f #[] #[]] w fun e w' => e = .returned (.pointer (some ⟨w.heap.size + 2, 0, none⟩)) ∧ w' = ((w.alloc (.cells #[.string nm] 9)).alloc (.cells #[.func f #[] #[]] 60)).alloc (.cells #[.string nm, .func (.func 79) #[] #[.pointer (some ⟨w.heap.size, 0, none⟩), .pointer (some ⟨w.heap.size + 1, 0, none⟩)], .nilIface] 120) := by
  have sz : ((w.alloc (.cells #[.string nm] 9)).alloc (.cells #[.func f #[] #[]] 60)).heap.size = w.heap.size + 2 := by rw [size_new, size_new]
  have K := Lib.hid (fun a c => newBuiltin_c nm (.func 79) a c ((w.alloc (.cells #[.string nm] 9)).alloc (.cells #[.func f #[] #[]] 60)))
  rw [sz] at K
  go_enter Tryz.func47, Tryz.ntmps47
  go_wp2_with fail
  refine (K.out _ _).mono ?_
  rintro e w2 ⟨rfl, rfl⟩
  go_wp2_with fail
  go_returns
  exact ⟨rfl, rfl⟩
set_option maxRecDepth 100000 in
set_option maxHeartbeats 1000000 in
theorem callInternal_c (t : TypeId) (v : Value) (x : Nat) (hx : x < 18446744073709551616) (b s1 s2 g : Nat) (nm : ByteArray) (w : World) (hb : w.cell? ⟨b, 1, none⟩ = some (.func (.func 79) #[] #[.pointer (some ⟨s1, 0, none⟩), .pointer (some ⟨s2, 0, none⟩)])) (hT : Takes t v x w) (hg : w.cell? ⟨g, 0, none⟩ = some (.iface t v)) (h1 : w.cell? ⟨s1, 0, none⟩ = some (.string nm)) (h2 : w.cell? ⟨s2, 0, none⟩ = some (.func (.func 48) #[] #[])) :
    Calls Tryz.prog 49 #[.pointer (some ⟨b, 0, none⟩), .pointer none, .slice (some ⟨g, 0, none⟩) 1 1, .slice none 0 0] w fun e w' => e = .returned (.tuple #[.iface 76 (.float .f64 (Fl.roundBits x)), .nilIface]) ∧ Hid (Fr w w' No) := by
  have K := Lib.hid (near_c t v x hx b s1 s2 g nm w hT hg h1 h2)
  clear hT hg h1 h2 hx
  go_enter Tryz.func49, Tryz.ntmps49
  go_wp2_with fail
  with_reducible refine K.out.mono ?_
  rintro e w2 ⟨rfl, H2⟩
  go_wp2_with fail
  go_returns
  exact ⟨rfl, H2⟩
theorem Takes.fr {t : TypeId} {v : Value} {x : Nat} {w w' : World} (h : Takes t v x w) (hf : Fr w w' No) : Takes t v x w' := fun p w1 h1 hB => h p w1 (hf.trans h1 (fun _ _ _ c => c)) hB
set_option maxRecDepth 100000 in
set_option maxHeartbeats 1000000 in
theorem zzround_c (t : TypeId) (v : Value) (x : Nat) (hx : x < 18446744073709551616) (w : World) (hT : Takes t v x w) :
    Calls Tryz.prog 22 #[.iface t v] w fun e w' => e = .returned (.tuple #[.iface 76 (.float .f64 (Fl.roundBits x)), .nilIface]) ∧ Hid (Fr w w' No) := by
  have K := Lib.hid (fun nm => newUnary_c nm (.func 48) w)
  have KX : Hid (∀ nm : ByteArray, Calls Tryz.prog 49 #[.pointer (some ⟨w.heap.size + 2, 0, none⟩), .pointer none, .slice (some ⟨w.heap.size + 1 + 1 + 1, 0, none⟩) 1 1, .slice none 0 0] ((((w.alloc (.cells #[.string nm] 9)).alloc (.cells #[.func (.func 48) #[] #[]] 60)).alloc (.cells #[.string nm, .func (.func 79) #[] #[.pointer (some ⟨w.heap.size, 0, none⟩), .pointer (some ⟨w.heap.size + 1, 0, none⟩)], .nilIface] 120)).alloc (.cells #[.iface t v] 45)) fun e w' => e = .returned (.tuple #[.iface 76 (.float .f64 (Fl.roundBits x)), .nilIface]) ∧ Hid (Fr w w' No)) := by
    refine Lib.hid (fun nm => ?_)
    have f1 := new40 w #[.string nm] 9
    have z1 : (w.alloc (.cells #[.string nm] 9)).heap.size = w.heap.size + 1 := size_new _ _
    have c1 := cell_new w #[.string nm] 9 0 _ rfl
    generalize w.alloc (.cells #[.string nm] 9) = wa at *
    have f2 := new40 wa #[.func (.func 48) #[] #[]] 60
    have z2 : (wa.alloc (.cells #[.func (.func 48) #[] #[]] 60)).heap.size = wa.heap.size + 1 := size_new _ _
    have c2 := cell_new wa #[.func (.func 48) #[] #[]] 60 0 _ rfl
    generalize wa.alloc (.cells #[.func (.func 48) #[] #[]] 60) = wb at *
    have f3 := new40 wb #[.string nm, .func (.func 79) #[] #[.pointer (some ⟨w.heap.size, 0, none⟩), .pointer (some ⟨w.heap.size + 1, 0, none⟩)], .nilIface] 120
    have z3 : (wb.alloc (.cells #[.string nm, .func (.func 79) #[] #[.pointer (some ⟨w.heap.size, 0, none⟩), .pointer (some ⟨w.heap.size + 1, 0, none⟩)], .nilIface] 120)).heap.size = wb.heap.size + 1 := size_new _ _
    have c3 := cell_new wb #[.string nm, .func (.func 79) #[] #[.pointer (some ⟨w.heap.size, 0, none⟩), .pointer (some ⟨w.heap.size + 1, 0, none⟩)], .nilIface] 120 1 _ rfl
    generalize wb.alloc (.cells #[.string nm, .func (.func 79) #[] #[.pointer (some ⟨w.heap.size, 0, none⟩), .pointer (some ⟨w.heap.size + 1, 0, none⟩)], .nilIface] 120) = wc at *
    have f4 := new40 wc #[.iface t v] 45
    have c4 := cell_new wc #[.iface t v] 45 0 _ rfl
    generalize wc.alloc (.cells #[.iface t v] 45) = wd at *
    have F := ((f1.trans f2 (fun _ _ _ c => c)).trans f3 (fun _ _ _ c => c)).trans f4 (fun _ _ _ c => c)
    rw [z3, z2, z1] at c4
    rw [z2, z1] at c3
    rw [z1] at c2
    refine (callInternal_c t v x hx (w.heap.size + 2) w.heap.size (w.heap.size + 1) (w.heap.size + 1 + 1 + 1) nm wd (f4.keep c3 (fun c => c)) (hT.fr F) c4 (f4.keep (f3.keep (f2.keep c1 (fun c => c)) (fun c => c)) (fun c => c)) (f4.keep (f3.keep c2 (fun c => c)) (fun c => c))).mono ?_
    rintro e w' ⟨rfl, h⟩
    exact ⟨rfl, Lib.hid (F.trans h.out (fun _ _ _ c => c))⟩
  clear hT hx
  go_enter Tryz.func22, Tryz.ntmps22
  go_wp2_with fail
  refine (K.out _).mono ?_
  rintro e w2 ⟨rfl, rfl⟩
  go_wp2_with fail
  with_reducible refine (KX.out _).mono ?_
  rintro e w3 ⟨rfl, H3⟩
  go_wp2_with fail
  go_returns
  exact ⟨rfl, H3⟩
end Go.Proofs.YtldejfallphhbaaGreatDoor
namespace Go.Proofs.YtldejfallphhbaaGreatDoor
set_option linter.unusedVariables false
open Go.RowKit
theorem takes_f (x : Nat) (w : World) : Takes 76 (.float .f64 x) x w := by
  intro p w1 h1 hB
  refine (unpack_f x p w1 hB).mono ?_
  rintro e w' ⟨rfl, rfl⟩
  exact ⟨rfl, hB.get 0 (by decide) _, (Fr.refl w1 (Al p)).set p 0 _ (fun _ => rfl)⟩
set_option maxRecDepth 100000 in
set_option maxHeartbeats 1000000 in
theorem round1_f (x : Nat) (hx : x < 18446744073709551616) (w : World) :
    Calls Tryz.prog 8 #[.int .i64 2, vFlt x] w fun e w' => e = .returned (.tuple #[vFlt (Fl.roundBits x), .bool true]) ∧ Hid (Fr w w' No) := by
  have f1 := new40 w #[.int .i64 3, .bool false, .slice none 0 0, .int .u64 (x : Int), .string ⟨#[]⟩, .slice none 0 0] 28
  have s1 : (w.alloc (.cells #[.int .i64 3, .bool false, .slice none 0 0, .int .u64 (x : Int), .string ⟨#[]⟩, .slice none 0 0] 28)).heap.size = w.heap.size + 1 := size_new _ _
  have f2 := new40 (w.alloc (.cells #[.int .i64 3, .bool false, .slice none 0 0, .int .u64 (x : Int), .string ⟨#[]⟩, .slice none 0 0] 28)) zVal 28
  have hB := Blk.new (w.alloc (.cells #[.int .i64 3, .bool false, .slice none 0 0, .int .u64 (x : Int), .string ⟨#[]⟩, .slice none 0 0] 28)) zVal 28 6 rfl
  rw [s1] at hB
  have f12 := f1.trans f2 (fun _ _ _ c => c)
  have K1 := Lib.hid (scalar_f x hx false (.slice none 0 0) (.string ⟨#[]⟩) (.slice none 0 0) ((w.alloc (.cells #[.int .i64 3, .bool false, .slice none 0 0, .int .u64 (x : Int), .string ⟨#[]⟩, .slice none 0 0] 28)).alloc (.cells zVal 28)))
  have K2 := Lib.hid (fun w => zzround_c 76 (.float .f64 x) x hx w (takes_f x w))
  have K3 := Lib.hid (sof_f (Fl.roundBits x))
  have KB := Lib.hid hB
  have KF := Lib.hid f12
  clear hx f1 s1 f2 hB f12
  unfold vFlt
  unfold zVal at *
  go_enter Tryz.func8, Tryz.ntmps8
  go_wp2_with fail
  with_reducible refine K1.out.mono ?_
  rintro e w3 ⟨rfl, H3⟩
  go_wp2_with fail
  with_reducible refine (K2.out _).mono ?_
  rintro e w4 ⟨rfl, H4⟩
  go_wp2_with fail
  with_reducible refine (K3.out _).mono ?_
  rintro e w5 ⟨rfl, H5⟩
  have KQ := Lib.hid ((KF.out.trans H3.out (fun _ _ _ c => c)).trans (H4.out.trans H5.out (fun _ _ _ c => c)) (fun _ _ _ c => c))
  have hB5 := KB.out.fr (H3.out.trans (H4.out.trans H5.out (fun _ _ _ c => c)) (fun _ _ _ c => c))
  obtain ⟨fz, ⟨v0, hv0⟩, ⟨v1, hv1⟩, ⟨v2, hv2⟩, ⟨v3, hv3⟩, ⟨v4, hv4⟩, ⟨v5, hv5⟩⟩ := six hB5
  have f0 := fz 0
  have f1 := fz 1
  have f2 := fz 2
  have f3 := fz 3
  have f4 := fz 4
  have f5 := fz 5
  have KB5 := Lib.hid hB5
  clear hB5 fz
  go_wp2_with fail
  generalize hw : World.setCell _ _ _ = w6
  obtain ⟨r0, r1, r2, r3, r4, r5, rF, rG⟩ := rd6 (w := w) KB5.out KQ.out (Nat.le_succ _) hw
  clear hw
  refine bodyPost_ret (by simp [results, Tryz.results8, go_sem, r0, r1, r2, r3, r4, r5]; try rfl) rfl ?_
  exact ⟨rfl, Lib.hid rF⟩
set_option maxRecDepth 100000 in
set_option maxHeartbeats 1000000 in
theorem round1_i (b : Nat) (hb : b < 18446744073709551616) (neg : Bool) (v u : Value) (l : List Int) (w : World) (hl : l.length ≤ 300) (hv : Dl w v l) (V : Nat) (hc : Ref.Can l V) (hT : ∀ w1 x y, IntV w1 (.agg #[.int .i64 x, .pointer y]) (neg && decide (1 ≤ V)) V → Takes 74 (.agg #[.int .i64 x, .pointer y]) b w1) :
    Calls Tryz.prog 8 #[.int .i64 2, .agg #[.int .i64 2, .bool neg, v, .int .u64 0, .string ⟨#[]⟩, u]] w fun e w' => e = .returned (.tuple #[vFlt (Fl.roundBits b), .bool true]) ∧ Hid (Fr w w' No) := by
  have f1 := new40 w #[.int .i64 2, .bool neg, v, .int .u64 0, .string ⟨#[]⟩, u] 28
  have s1 : (w.alloc (.cells #[.int .i64 2, .bool neg, v, .int .u64 0, .string ⟨#[]⟩, u] 28)).heap.size = w.heap.size + 1 := size_new _ _
  have f2 := new40 (w.alloc (.cells #[.int .i64 2, .bool neg, v, .int .u64 0, .string ⟨#[]⟩, u] 28)) zVal 28
  have hB := Blk.new (w.alloc (.cells #[.int .i64 2, .bool neg, v, .int .u64 0, .string ⟨#[]⟩, u] 28)) zVal 28 6 rfl
  rw [s1] at hB
  have f12 := f1.trans f2 (fun _ _ _ c => c)
  have K1 := Lib.hid (scalar_i neg v u l ((w.alloc (.cells #[.int .i64 2, .bool neg, v, .int .u64 0, .string ⟨#[]⟩, u] 28)).alloc (.cells zVal 28)) hl (hv.no f12) V hc)
  have K2 := Lib.hid (fun x y w h => zzround_c 74 (.agg #[.int .i64 x, .pointer y]) b hb w (hT w x y h))
  have K3 := Lib.hid (sof_f (Fl.roundBits b))
  have KB := Lib.hid hB
  have KF := Lib.hid f12
  clear hl hv hc hT hb f1 s1 f2 hB f12
  unfold vFlt
  unfold zVal at *
  go_enter Tryz.func8, Tryz.ntmps8
  go_wp2_with fail
  with_reducible refine K1.out.mono ?_
  rintro e w3 ⟨x3, y3, rfl, H3'⟩
  have H3 := Lib.hid H3'.out.2
  go_wp2_with fail
  with_reducible refine (K2.out x3 y3 _ H3'.out.1).mono ?_
  rintro e w4 ⟨rfl, H4⟩
  go_wp2_with fail
  with_reducible refine (K3.out _).mono ?_
  rintro e w5 ⟨rfl, H5⟩
  have KQ := Lib.hid ((KF.out.trans H3.out (fun _ _ _ c => c)).trans (H4.out.trans H5.out (fun _ _ _ c => c)) (fun _ _ _ c => c))
  have hB5 := KB.out.fr (H3.out.trans (H4.out.trans H5.out (fun _ _ _ c => c)) (fun _ _ _ c => c))
  obtain ⟨fz, ⟨v0, hv0⟩, ⟨v1, hv1⟩, ⟨v2, hv2⟩, ⟨v3, hv3⟩, ⟨v4, hv4⟩, ⟨v5, hv5⟩⟩ := six hB5
  have f0 := fz 0
  have f1 := fz 1
  have f2 := fz 2
  have f3 := fz 3
  have f4 := fz 4
  have f5 := fz 5
  have KB5 := Lib.hid hB5
  clear hB5 fz
  go_wp2_with fail
  generalize hw : World.setCell _ _ _ = w6
  obtain ⟨r0, r1, r2, r3, r4, r5, rF, rG⟩ := rd6 (w := w) KB5.out KQ.out (Nat.le_succ _) hw
  clear hw
  refine bodyPost_ret (by simp [results, Tryz.results8, go_sem, r0, r1, r2, r3, r4, r5]; try rfl) rfl ?_
  exact ⟨rfl, Lib.hid rF⟩
end Go.Proofs.YtldejfallphhbaaGreatDoor
