/-
  A part of the proof of FnMathWhole (packed out of smaller texts by a program of this session; what the proof does not reach is left out).
-/
import Derived.Test.YtldejfallphhbaaGreatDoorZm
import Derived.Test.YtldejfallphhbaaGreatDoorZ6
import Derived.Deep.RegionHeld3
import Derived.BigRegion
import Derived.Deep.RegionWith
import Derived.Deep.DeepCutAuto
namespace Go.Proofs.YtldejfallphhbaaGreatDoor
set_option linter.unusedVariables false
open Go.RowKit
def vIn (s : Bool) (A : Option Addr) (n c : Nat) (B : Option Addr) (d : Nat) : Value := .agg #[.int .i64 2, .bool s, .slice A n c, .int .u64 0, .string ⟨#[]⟩, .slice B 0 d]
def Vi (w : World) (v : Value) (z : Int) : Prop := ∃ s A c l B d, v = vIn s A l.length c B d ∧ Rb w A c l ∧ Ref.Is s l z
theorem Vi.fr {w w' : World} {v : Value} {z : Int} (h : Vi w v z) (hf : Fr w w' No) : Vi w' v z := by
  obtain ⟨s, A, c, l, B, d, rfl, h1, h2⟩ := h
  exact ⟨s, A, c, l, B, d, rfl, h1.fr hf, h2⟩
def Vd (w : World) (v : Value) (z : Int) : Prop := ∃ s A c l B d, v = vIn s A l.length c B d ∧ Dl w (.slice A l.length c) l ∧ Ref.Is s l z
theorem Vd.fr {w w' : World} {v : Value} {z : Int} (h : Vd w v z) (hf : Fr w w' No) : Vd w' v z := by
  obtain ⟨s, A, c, l, B, d, rfl, h1, h2⟩ := h
  exact ⟨s, A, c, l, B, d, rfl, h1.no hf, h2⟩
theorem Vd.vi {w : World} {v : Value} {z : Int} (h : Vd w v z) (hz : Sm z) : Vi w v z := by
  obtain ⟨s, A, c, l, B, d, rfl, h1, h2⟩ := h
  have hl := h2.len hz
  obtain ⟨A', c', he, hR⟩ := Rb.of_dl h1 (by omega)
  simp only [Value.slice.injEq, true_and] at he
  obtain ⟨rfl, rfl⟩ := he
  exact ⟨s, A, c, l, B, d, rfl, hR, h2⟩
theorem vi_of {w : World} {s : Bool} {A : Option Addr} {n c : Nat} {l : List Int} {N : Nat} (h : VInt w (s && decide (1 ≤ N)) A n c l N) : Vi w (vInt (s && decide (1 ≤ N)) A n c) (Ref.iv s N) := by
  obtain ⟨h1, h2, h3⟩ := h
  obtain ⟨A', c', he, hR⟩ := Rb.of_dl h1 (by omega)
  simp only [Value.slice.injEq] at he
  obtain ⟨rfl, rfl, rfl⟩ := he
  exact ⟨_, A, c, l, none, 0, rfl, hR, Ref.Is.of h2⟩
set_option maxRecDepth 100000 in
set_option maxHeartbeats 1000000 in
theorem numv_c (v : Value) (z : Int) (w : World) (hv : Vi w v z) (hz : Sm z) :
    Calls Tryz.prog 25 #[v] w fun e w' => ∃ u, e = .returned u ∧ Hid (Sq w' w.heap.size u z ∧ Fr w w' No) := by
  obtain ⟨s, A, c, l, B, d, rfl, hR, hI⟩ := hv
  have hl := hI.len hz
  have f1 := new40 w #[.int .i64 2, .bool s, .slice A l.length c, .int .u64 0, .string ⟨#[]⟩, .slice B 0 d] 28
  have z1 : (w.alloc (.cells #[.int .i64 2, .bool s, .slice A l.length c, .int .u64 0, .string ⟨#[]⟩, .slice B 0 d] 28)).heap.size = w.heap.size + 1 := size_new _ _
  have f2 := new40 (w.alloc (.cells #[.int .i64 2, .bool s, .slice A l.length c, .int .u64 0, .string ⟨#[]⟩, .slice B 0 d] 28)) #[.bool false, .slice none 0 0] 31
  have b2 := Blk.new (w.alloc (.cells #[.int .i64 2, .bool s, .slice A l.length c, .int .u64 0, .string ⟨#[]⟩, .slice B 0 d] 28)) #[.bool false, .slice none 0 0] 31 2 rfl
  rw [z1] at b2
  have f12 := f1.trans f2 (fun _ _ _ c => c)
  have KO := Lib.hid (of_c s A c l z.natAbs ((w.alloc (.cells #[.int .i64 2, .bool s, .slice A l.length c, .int .u64 0, .string ⟨#[]⟩, .slice B 0 d] 28)).alloc (.cells #[.bool false, .slice none 0 0] 31)) (hR.fr f12) hI.can.byt (by omega) hI.can.val)
  rw [hI.eq] at KO
  have KB := Lib.hid (And.intro b2 (And.intro f12 (by rw [size_new, z1]; omega : w.heap.size + 1 < ((w.alloc (.cells #[.int .i64 2, .bool s, .slice A l.length c, .int .u64 0, .string ⟨#[]⟩, .slice B 0 d] 28)).alloc (.cells #[.bool false, .slice none 0 0] 31)).heap.size)))
  unfold vIn
  generalize l.length = n at *
  clear b2 f1 f2 f12 z1 hR hI hl
  go_enter Tryz.func25, Tryz.ntmps25
  go_wp2_with fail
  with_reducible refine KO.out.mono ?_
  rintro e w3 ⟨v3, rfl, H3⟩
  have H3' := H3.out
  obtain ⟨⟨s3, A3, c3, l3, rfl, hR3, hI3, hL3⟩, hF3⟩ := H3'
  have hB := KB.out.1.fr hF3
  have KF := Lib.hid (And.intro (KB.out.2.1.trans hF3 (fun _ _ _ c => c)) (And.intro hB (And.intro H3.out.1 KB.out.2.2)))
  have fz0 := hB.fz 0
  have fz1 := hB.fz 1
  obtain ⟨u0, hu0⟩ := hB.here 0 (by decide)
  obtain ⟨u1, hu1⟩ := hB.here 1 (by decide)
  clear hB hR3 hI3 hL3 hF3 KB KO H3
  go_wp2_with fail
  generalize hw : World.setCell _ _ _ = w6
  obtain ⟨r0, r1, r2⟩ := sp_store (w := w) KF.out.2.1 KF.out.1 KF.out.2.2.1 (Nat.le_succ _) KF.out.2.2.2 hw
  clear hw
  refine bodyPost_ret (by simp [results, Tryz.results25, go_sem, r0, r1]; try rfl) rfl ?_
  exact ⟨_, rfl, Lib.hid r2⟩
set_option maxRecDepth 100000 in
theorem flv_c (x : Nat) (hx : x < 18446744073709551616) (w : World) : Calls Tryz.prog 27 #[vFlt x] w fun e w' => e = .returned (.float .f64 x) ∧ Hid (Fr w w' No) := by
  have h4 := e4
  have KF := Lib.hid (new40 w #[.int .i64 3, .bool false, .slice none 0 0, .int .u64 (x : Int), .string ⟨#[]⟩, .slice none 0 0] 28)
  unfold vFlt
  go_enter Tryz.func27, Tryz.ntmps27
  go_wp2_with fail
  go_returns
  exact ⟨by simp, KF⟩
set_option maxRecDepth 100000 in
theorem isnum_i (s : Bool) (A : Option Addr) (n c : Nat) (B : Option Addr) (d : Nat) (w : World) : Calls Tryz.prog 35 #[vIn s A n c B d] w fun e w' => e = .returned (.bool true) ∧ Hid (Fr w w' No) := by
  have KF := Lib.hid (new40 w #[.int .i64 2, .bool s, .slice A n c, .int .u64 0, .string ⟨#[]⟩, .slice B 0 d] 28)
  unfold vIn
  go_enter Tryz.func35, Tryz.ntmps35
  go_wp2_with fail
  go_returns
  exact ⟨rfl, KF⟩
set_option maxRecDepth 100000 in
theorem isnum_f (x : Nat) (w : World) : Calls Tryz.prog 35 #[vFlt x] w fun e w' => e = .returned (.bool true) ∧ Hid (Fr w w' No) := by
  have KF := Lib.hid (new40 w #[.int .i64 3, .bool false, .slice none 0 0, .int .u64 (x : Int), .string ⟨#[]⟩, .slice none 0 0] 28)
  unfold vFlt
  go_enter Tryz.func35, Tryz.ntmps35
  go_wp2_with fail
  go_returns
  exact ⟨rfl, KF⟩
end Go.Proofs.YtldejfallphhbaaGreatDoor
namespace Go.Proofs.YtldejfallphhbaaGreatDoor
set_option linter.unusedVariables false
open Go.RowKit Go.Proofs.YtldejfallphhbaaGreatDoorW.PrintWords Go.Proofs.YtldejfallphhbaaGreatDoorW.PrintLast Go.Proofs.YtldejfallphhbaaGreatDoorW.PrintMore
open PIntVal
theorem intVal_c (v : Value) (z : Int) (w : World) (hv : Sp w v z) (hz : Sm z) :
    Calls Tryz.prog 5 #[v] w fun e w' => ∃ u, e = .returned u ∧ Hid (Vd w' u z ∧ Fr w w' No) := by
  obtain ⟨s, A, c, l, rfl, hR, hI⟩ := hv
  have hl := hI.len hz
  have hf : spec_IntVal.f s l = some (2, s, l, 0, (⟨#[]⟩ : ByteArray), []) := by
    unfold spec_IntVal.f
    rw [Option.bind_some, if_pos (by simp; omega)]
    rfl
  refine (spec_IntVal.calls s A c l _ _ _ _ _ _ w hR.1 hR.2 hf).mono ?_
  rintro e w' ⟨v2, v5, rfl, h2, h5, hB⟩
  have hD := dl_of_R h2
  obtain ⟨A2, c2, rfl⟩ := Kd.R_slice h2
  obtain ⟨A5, c5, rfl⟩ := Kd.R_slice h5
  exact ⟨_, rfl, Lib.hid ⟨⟨s, A2, c2, l, A5, c5, rfl, hD, hI⟩, fr_of_below hB⟩⟩
end Go.Proofs.YtldejfallphhbaaGreatDoor
namespace Go.Proofs.YtldejfallphhbaaGreatDoor
set_option linter.unusedVariables false
open Go.RowKit
structure Bx (w : World) (p : Nat) (s : Bool) (A : Option Addr) (n c : Nat) (B : Option Addr) (d : Nat) : Prop where
  c0 : w.cell? ⟨p, 0, none⟩ = some (.int .i64 2)
  c1 : w.cell? ⟨p, 1, none⟩ = some (.bool s)
  c2 : w.cell? ⟨p, 2, none⟩ = some (.slice A n c)
  c3 : w.cell? ⟨p, 3, none⟩ = some (.int .u64 0)
  c4 : w.cell? ⟨p, 4, none⟩ = some (.string ⟨#[]⟩)
  c5 : w.cell? ⟨p, 5, none⟩ = some (.slice B 0 d)
theorem Bx.fr {w w' : World} {p : Nat} {s : Bool} {A : Option Addr} {n c : Nat} {B : Option Addr} {d : Nat} (h : Bx w p s A n c B d) (hf : Fr w w' No) : Bx w' p s A n c B d :=
  ⟨hf.keep h.c0 (fun c => c), hf.keep h.c1 (fun c => c), hf.keep h.c2 (fun c => c), hf.keep h.c3 (fun c => c), hf.keep h.c4 (fun c => c), hf.keep h.c5 (fun c => c)⟩
theorem Bx.new (w : World) (s : Bool) (A : Option Addr) (n c : Nat) (B : Option Addr) (d : Nat) : Bx (w.alloc (.cells #[.int .i64 2, .bool s, .slice A n c, .int .u64 0, .string ⟨#[]⟩, .slice B 0 d] 28)) w.heap.size s A n c B d :=
  ⟨cell_new w _ 28 0 _ rfl, cell_new w _ 28 1 _ rfl, cell_new w _ 28 2 _ rfl, cell_new w _ 28 3 _ rfl, cell_new w _ 28 4 _ rfl, cell_new w _ 28 5 _ rfl⟩
theorem numv2_c (v : Value) (z : Int) (w wx : World) (hv : Vi w v z) (hz : Sm z) (hF : Fr w wx No) :
    Calls Tryz.prog 25 #[v] wx fun e w' => ∃ s A c n, e = .returned (.agg #[.bool s, .slice A n c]) ∧ Hid (Sp w' (.agg #[.bool s, .slice A n c]) z ∧ Fr wx w' No ∧ Fr w w' No) := by
  refine (numv_c v z wx (hv.fr hF) hz).mono ?_
  rintro e w' ⟨u, rfl, H⟩
  obtain ⟨⟨s, A, c, l, rfl, h1, h2, _⟩, h4⟩ := H.out
  exact ⟨s, A, c, l.length, rfl, Lib.hid ⟨⟨s, A, c, l, rfl, h1, h2⟩, h4, hF.trans h4 (fun _ _ _ c => c)⟩⟩
set_option maxRecDepth 100000 in
set_option maxHeartbeats 4000000 in
theorem cmpII_c (u v : Value) (y z : Int) (w : World) (hu : Vi w u y) (hv : Vi w v z) (hy : Sm y) (hz : Sm z) :
    Calls Tryz.prog 36 #[u, v] w fun e w' => e = .returned (.int .i64 (Ref.cmpI y z)) ∧ Hid (Fr w w' No) := by
  have KU := Lib.hid hu
  have KV := Lib.hid hv
  have KS := Lib.hid (And.intro hy hz)
  obtain ⟨s1, A1, c1, l1, B1, d1, rfl, -, -⟩ := hu
  obtain ⟨s2, A2, c2, l2, B2, d2, rfl, -, -⟩ := hv
  generalize l1.length = n1 at *
  generalize l2.length = n2 at *
  have b1 := Bx.new w s1 A1 n1 c1 B1 d1
  have f1 := new40 w #[.int .i64 2, .bool s1, .slice A1 n1 c1, .int .u64 0, .string ⟨#[]⟩, .slice B1 0 d1] 28
  have z1 : (w.alloc (.cells #[.int .i64 2, .bool s1, .slice A1 n1 c1, .int .u64 0, .string ⟨#[]⟩, .slice B1 0 d1] 28)).heap.size = w.heap.size + 1 := size_new _ _
  have b2 := Bx.new (w.alloc (.cells #[.int .i64 2, .bool s1, .slice A1 n1 c1, .int .u64 0, .string ⟨#[]⟩, .slice B1 0 d1] 28)) s2 A2 n2 c2 B2 d2
  have f2 := new40 (w.alloc (.cells #[.int .i64 2, .bool s1, .slice A1 n1 c1, .int .u64 0, .string ⟨#[]⟩, .slice B1 0 d1] 28)) #[.int .i64 2, .bool s2, .slice A2 n2 c2, .int .u64 0, .string ⟨#[]⟩, .slice B2 0 d2] 28
  rw [z1] at b2
  have KX := Lib.hid (And.intro (b1.fr f2) (And.intro b2 (f1.trans f2 (fun _ _ _ c => c))))
  clear b1 f1 z1 b2 f2 hy hz
  unfold vIn at *
  go_enter Tryz.func36, Tryz.ntmps36
  go_upto_region 2 with fail
  generalize World.alloc (World.alloc w _) _ = w2 at *
  obtain ⟨p0, p1, p2, p3, p4, p5⟩ := KX.out.1
  obtain ⟨q0, q1, q2, q3, q4, q5⟩ := KX.out.2.1
  have KN1 := Lib.hid (fun wx (h : Fr w2 wx No) => numv2_c _ y w2 wx (KU.out.fr KX.out.2.2) KS.out.1 h)
  have KN2 := Lib.hid (fun wx (h : Fr w2 wx No) => numv2_c _ z w2 wx (KV.out.fr KX.out.2.2) KS.out.2 h)
  go_cut [4] (fun s4 wx => s4 = .int .i64 (Ref.cmpI y z) ∧ Hid (Fr w2 wx No))
  case first =>
    have mk : Hid (∀ w', Fr w2 w' No → (w'.cell? ⟨w.heap.size, 0, none⟩ = some (.int .i64 2) ∧ w'.cell? ⟨w.heap.size, 1, none⟩ = some (.bool s1) ∧ w'.cell? ⟨w.heap.size, 2, none⟩ = some (.slice A1 n1 c1) ∧ w'.cell? ⟨w.heap.size, 3, none⟩ = some (.int .u64 0) ∧ w'.cell? ⟨w.heap.size, 4, none⟩ = some (.string ⟨#[]⟩) ∧ w'.cell? ⟨w.heap.size, 5, none⟩ = some (.slice B1 0 d1) ∧ w'.cell? ⟨w.heap.size + 1, 0, none⟩ = some (.int .i64 2) ∧ w'.cell? ⟨w.heap.size + 1, 1, none⟩ = some (.bool s2) ∧ w'.cell? ⟨w.heap.size + 1, 2, none⟩ = some (.slice A2 n2 c2) ∧ w'.cell? ⟨w.heap.size + 1, 3, none⟩ = some (.int .u64 0) ∧ w'.cell? ⟨w.heap.size + 1, 4, none⟩ = some (.string ⟨#[]⟩) ∧ w'.cell? ⟨w.heap.size + 1, 5, none⟩ = some (.slice B2 0 d2))) := Lib.hid (fun w' h => ⟨h.keep p0 (fun c => c), h.keep p1 (fun c => c), h.keep p2 (fun c => c), h.keep p3 (fun c => c), h.keep p4 (fun c => c), h.keep p5 (fun c => c), h.keep q0 (fun c => c), h.keep q1 (fun c => c), h.keep q2 (fun c => c), h.keep q3 (fun c => c), h.keep q4 (fun c => c), h.keep q5 (fun c => c)⟩)
    go_region_held3 (fun w' => w'.cell? ⟨w.heap.size, 0, none⟩ = some (.int .i64 2) ∧ w'.cell? ⟨w.heap.size, 1, none⟩ = some (.bool s1) ∧ w'.cell? ⟨w.heap.size, 2, none⟩ = some (.slice A1 n1 c1) ∧ w'.cell? ⟨w.heap.size, 3, none⟩ = some (.int .u64 0) ∧ w'.cell? ⟨w.heap.size, 4, none⟩ = some (.string ⟨#[]⟩) ∧ w'.cell? ⟨w.heap.size, 5, none⟩ = some (.slice B1 0 d1) ∧ w'.cell? ⟨w.heap.size + 1, 0, none⟩ = some (.int .i64 2) ∧ w'.cell? ⟨w.heap.size + 1, 1, none⟩ = some (.bool s2) ∧ w'.cell? ⟨w.heap.size + 1, 2, none⟩ = some (.slice A2 n2 c2) ∧ w'.cell? ⟨w.heap.size + 1, 3, none⟩ = some (.int .u64 0) ∧ w'.cell? ⟨w.heap.size + 1, 4, none⟩ = some (.string ⟨#[]⟩) ∧ w'.cell? ⟨w.heap.size + 1, 5, none⟩ = some (.slice B2 0 d2)) (first | exact mk.out _ (Fr.refl _ _) | exact mk.out _ ((Fr.refl _ _).drew) | exact mk.out _ Hc | exact mk.out _ Hc.drew | exact mk.out _ Hb.out.2.2 | exact mk.out _ Hb.out.2.2.drew | exact mk.out _ Ha.out.2.2 | exact mk.out _ Ha.out.2.2.drew) (first | (go_at_call 25; with_reducible refine (KN1.out _ (by first | exact Fr.refl _ _ | exact (Fr.refl _ _).drew | exact Hb.out.2.2 | exact Hb.out.2.2.drew)).mono ?_; rintro e wa ⟨sa, Aa, ca, na, rfl, Ha⟩) | (go_at_call 25; with_reducible refine (KN2.out _ (by first | exact Fr.refl _ _ | exact (Fr.refl _ _).drew | exact Ha.out.2.2 | exact Ha.out.2.2.drew)).mono ?_; rintro e wb ⟨sb, Ab, cb, nb, rfl, Hb⟩) | (go_at_call 26; with_reducible refine (cmp_c _ _ y z _ (by first | exact Ha.out.1 | exact Ha.out.1.fr Hb.out.2.1 | exact Ha.out.1.fr ((Fr.refl _ No).drew) | exact (Ha.out.1.fr Hb.out.2.1).fr ((Fr.refl _ No).drew)) (by first | exact Hb.out.1 | exact Hb.out.1.fr Ha.out.2.1 | exact Hb.out.1.fr ((Fr.refl _ No).drew) | exact (Hb.out.1.fr Ha.out.2.1).fr ((Fr.refl _ No).drew)) KS.out.1 KS.out.2).mono ?_; rintro e wc ⟨rfl, Hcc⟩; have Hc : Fr w2 wc No := (by first | exact Hb.out.2.2.trans Hcc.out (fun _ _ _ c => c) | exact Ha.out.2.2.trans Hcc.out (fun _ _ _ c => c) | exact (Hb.out.2.2.drew).trans Hcc.out (fun _ _ _ c => c) | exact (Ha.out.2.2.drew).trans Hcc.out (fun _ _ _ c => c))))
    all_goals
      go_wp2_with fail
      go_meet
      case rel => exact ⟨rfl, Lib.hid (by first | exact Hc | exact Hc.drew)⟩
  case rest =>
    obtain ⟨rfl, KF⟩ := hcut
    have KF2 := Lib.hid (KX.out.2.2.trans KF.out (fun _ _ _ c => c))
    go_wp2_with fail
    go_returns
    exact ⟨rfl, KF2⟩
end Go.Proofs.YtldejfallphhbaaGreatDoor
namespace Go.Proofs.YtldejfallphhbaaGreatDoor
set_option linter.unusedVariables false
open Go.RowKit
theorem cfl_le (z : Int) (x : Nat) : -1 ≤ cfl z x ∧ cfl z x ≤ 1 := by
  unfold cfl Ref.cmpI
  split
  · split <;> (try split) <;> omega
  · split <;> omega
theorem flv2_c (x : Nat) (hx : x < 18446744073709551616) (w wx : World) (hF : Fr w wx No) : Calls Tryz.prog 27 #[.agg #[.int .i64 3, .bool false, .slice none 0 0, .int .u64 (x : Int), .string ⟨#[]⟩, .slice none 0 0]] wx fun e w' => e = .returned (.float .f64 x) ∧ Hid (Fr wx w' No ∧ Fr w w' No) := by
  refine (flv_c x hx wx).mono ?_
  rintro e w' ⟨rfl, H⟩
  exact ⟨rfl, Lib.hid ⟨H.out, hF.trans H.out (fun _ _ _ c => c)⟩⟩
set_option maxRecDepth 100000 in
set_option maxHeartbeats 4000000 in
theorem cmpFI_c (x : Nat) (v : Value) (z : Int) (w : World) (hx : x < 18446744073709551616) (hf : Fl.Fin x) (hv : Vi w v z) (hz : Sm z) :
    Calls Tryz.prog 36 #[vFlt x, v] w fun e w' => e = .returned (.int .i64 (-cfl z x)) ∧ Hid (Fr w w' No) := by
  have KV := Lib.hid hv
  have KS := Lib.hid (And.intro hx (And.intro hf hz))
  obtain ⟨s2, A2, c2, l2, B2, d2, rfl, -, -⟩ := hv
  generalize l2.length = n2 at *
  have p0 := cell_new w #[.int .i64 3, .bool false, .slice none 0 0, .int .u64 (x : Int), .string ⟨#[]⟩, .slice none 0 0] 28 0 _ rfl
  have p1 := cell_new w #[.int .i64 3, .bool false, .slice none 0 0, .int .u64 (x : Int), .string ⟨#[]⟩, .slice none 0 0] 28 1 _ rfl
  have p2 := cell_new w #[.int .i64 3, .bool false, .slice none 0 0, .int .u64 (x : Int), .string ⟨#[]⟩, .slice none 0 0] 28 2 _ rfl
  have p3 := cell_new w #[.int .i64 3, .bool false, .slice none 0 0, .int .u64 (x : Int), .string ⟨#[]⟩, .slice none 0 0] 28 3 _ rfl
  have p4 := cell_new w #[.int .i64 3, .bool false, .slice none 0 0, .int .u64 (x : Int), .string ⟨#[]⟩, .slice none 0 0] 28 4 _ rfl
  have p5 := cell_new w #[.int .i64 3, .bool false, .slice none 0 0, .int .u64 (x : Int), .string ⟨#[]⟩, .slice none 0 0] 28 5 _ rfl
  have f1 := new40 w #[.int .i64 3, .bool false, .slice none 0 0, .int .u64 (x : Int), .string ⟨#[]⟩, .slice none 0 0] 28
  have z1 : (w.alloc (.cells #[.int .i64 3, .bool false, .slice none 0 0, .int .u64 (x : Int), .string ⟨#[]⟩, .slice none 0 0] 28)).heap.size = w.heap.size + 1 := size_new _ _
  have b2 := Bx.new (w.alloc (.cells #[.int .i64 3, .bool false, .slice none 0 0, .int .u64 (x : Int), .string ⟨#[]⟩, .slice none 0 0] 28)) s2 A2 n2 c2 B2 d2
  have f2 := new40 (w.alloc (.cells #[.int .i64 3, .bool false, .slice none 0 0, .int .u64 (x : Int), .string ⟨#[]⟩, .slice none 0 0] 28)) #[.int .i64 2, .bool s2, .slice A2 n2 c2, .int .u64 0, .string ⟨#[]⟩, .slice B2 0 d2] 28
  rw [z1] at b2
  have g0 := f2.keep p0 (fun c => c)
  have g1 := f2.keep p1 (fun c => c)
  have g2 := f2.keep p2 (fun c => c)
  have g3 := f2.keep p3 (fun c => c)
  have g4 := f2.keep p4 (fun c => c)
  have g5 := f2.keep p5 (fun c => c)
  clear p0 p1 p2 p3 p4 p5
  have KX := Lib.hid (And.intro b2 (And.intro (f1.trans f2 (fun _ _ _ c => c)) (cfl_le z x)))
  have KC := Lib.hid (fun u wx (h : Sp wx u z) => cmpFloat_c u z x hx hf wx h hz)
  generalize hk : cfl z x = k at *
  clear f1 z1 b2 f2 hx hf hz
  unfold vIn vFlt at *
  go_enter Tryz.func36, Tryz.ntmps36
  go_upto_region 6 with fail
  generalize World.alloc (World.alloc w _) _ = w2 at *
  obtain ⟨q0, q1, q2, q3, q4, q5⟩ := KX.out.1
  have p0 : w2.cell? ⟨w.heap.size, 0, none⟩ = some (.int .i64 3) := g0
  have p1 : w2.cell? ⟨w.heap.size, 1, none⟩ = some (.bool false) := g1
  have p2 : w2.cell? ⟨w.heap.size, 2, none⟩ = some (.slice none 0 0) := g2
  have p3 : w2.cell? ⟨w.heap.size, 3, none⟩ = some (.int .u64 (x : Int)) := g3
  have p4 : w2.cell? ⟨w.heap.size, 4, none⟩ = some (.string ⟨#[]⟩) := g4
  have p5 : w2.cell? ⟨w.heap.size, 5, none⟩ = some (.slice none 0 0) := g5
  clear g0 g1 g2 g3 g4 g5
  have hk1 : IntKind.i64.wrap (-k) = -k := by have := KX.out.2.2; rw [IntKind.wrap_i64]; omega
  have hk2 : -1 ≤ k := KX.out.2.2.1
  have hk3 : k ≤ 1 := KX.out.2.2.2
  have KN1 := Lib.hid (fun wx (h : Fr w2 wx No) => flv2_c x KS.out.1 w2 wx h)
  have KN2 := Lib.hid (fun wx (h : Fr w2 wx No) => numv2_c _ z w2 wx (KV.out.fr KX.out.2.1) KS.out.2.2 h)
  go_cut [4] (fun s4 wx => s4 = .int .i64 (-k) ∧ Hid (Fr w2 wx No))
  case first =>
    have mk : Hid (∀ w', Fr w2 w' No → (w'.cell? ⟨w.heap.size, 0, none⟩ = some (.int .i64 3) ∧ w'.cell? ⟨w.heap.size, 1, none⟩ = some (.bool false) ∧ w'.cell? ⟨w.heap.size, 2, none⟩ = some (.slice none 0 0) ∧ w'.cell? ⟨w.heap.size, 3, none⟩ = some (.int .u64 (x : Int)) ∧ w'.cell? ⟨w.heap.size, 4, none⟩ = some (.string ⟨#[]⟩) ∧ w'.cell? ⟨w.heap.size, 5, none⟩ = some (.slice none 0 0) ∧ w'.cell? ⟨w.heap.size + 1, 0, none⟩ = some (.int .i64 2) ∧ w'.cell? ⟨w.heap.size + 1, 1, none⟩ = some (.bool s2) ∧ w'.cell? ⟨w.heap.size + 1, 2, none⟩ = some (.slice A2 n2 c2) ∧ w'.cell? ⟨w.heap.size + 1, 3, none⟩ = some (.int .u64 0) ∧ w'.cell? ⟨w.heap.size + 1, 4, none⟩ = some (.string ⟨#[]⟩) ∧ w'.cell? ⟨w.heap.size + 1, 5, none⟩ = some (.slice B2 0 d2))) := Lib.hid (fun w' h => ⟨h.keep p0 (fun c => c), h.keep p1 (fun c => c), h.keep p2 (fun c => c), h.keep p3 (fun c => c), h.keep p4 (fun c => c), h.keep p5 (fun c => c), h.keep q0 (fun c => c), h.keep q1 (fun c => c), h.keep q2 (fun c => c), h.keep q3 (fun c => c), h.keep q4 (fun c => c), h.keep q5 (fun c => c)⟩)
    go_region_held3 (fun w' => w'.cell? ⟨w.heap.size, 0, none⟩ = some (.int .i64 3) ∧ w'.cell? ⟨w.heap.size, 1, none⟩ = some (.bool false) ∧ w'.cell? ⟨w.heap.size, 2, none⟩ = some (.slice none 0 0) ∧ w'.cell? ⟨w.heap.size, 3, none⟩ = some (.int .u64 (x : Int)) ∧ w'.cell? ⟨w.heap.size, 4, none⟩ = some (.string ⟨#[]⟩) ∧ w'.cell? ⟨w.heap.size, 5, none⟩ = some (.slice none 0 0) ∧ w'.cell? ⟨w.heap.size + 1, 0, none⟩ = some (.int .i64 2) ∧ w'.cell? ⟨w.heap.size + 1, 1, none⟩ = some (.bool s2) ∧ w'.cell? ⟨w.heap.size + 1, 2, none⟩ = some (.slice A2 n2 c2) ∧ w'.cell? ⟨w.heap.size + 1, 3, none⟩ = some (.int .u64 0) ∧ w'.cell? ⟨w.heap.size + 1, 4, none⟩ = some (.string ⟨#[]⟩) ∧ w'.cell? ⟨w.heap.size + 1, 5, none⟩ = some (.slice B2 0 d2)) (first | exact mk.out _ (Fr.refl _ _) | exact mk.out _ ((Fr.refl _ _).drew) | exact mk.out _ Hc | exact mk.out _ Hc.drew | exact mk.out _ Hb.out.2.2 | exact mk.out _ Hb.out.2.2.drew | exact mk.out _ Ha.out.2 | exact mk.out _ Ha.out.2.drew) (first | (go_at_call 27; with_reducible refine (KN1.out _ (by first | exact Fr.refl _ _ | exact (Fr.refl _ _).drew | exact Hb.out.2.2 | exact Hb.out.2.2.drew)).mono ?_; rintro e wa ⟨rfl, Ha⟩) | (go_at_call 25; with_reducible refine (KN2.out _ (by first | exact Fr.refl _ _ | exact (Fr.refl _ _).drew | exact Ha.out.2 | exact Ha.out.2.drew)).mono ?_; rintro e wb ⟨sb, Ab, cb, nb, rfl, Hb⟩) | (go_at_call 32; with_reducible refine (KC.out _ _ (by first | exact Hb.out.1 | exact Hb.out.1.fr Ha.out.1 | exact Hb.out.1.fr ((Fr.refl _ No).drew) | exact (Hb.out.1.fr Ha.out.1).fr ((Fr.refl _ No).drew))).mono ?_; rintro e wc ⟨rfl, Hcc⟩; have Hc : Fr w2 wc No := (by first | exact Hb.out.2.2.trans Hcc.out (fun _ _ _ c => c) | exact Ha.out.2.trans Hcc.out (fun _ _ _ c => c) | exact (Hb.out.2.2.drew).trans Hcc.out (fun _ _ _ c => c) | exact (Ha.out.2.drew).trans Hcc.out (fun _ _ _ c => c))))
    all_goals
      go_wp2_with fail
      go_meet
      case rel => exact ⟨by simp, Lib.hid (by first | exact Hc | exact Hc.drew)⟩
  case rest =>
    obtain ⟨rfl, KF⟩ := hcut
    have KF2 := Lib.hid (KX.out.2.1.trans KF.out (fun _ _ _ c => c))
    go_wp2_with fail
    go_returns
    exact ⟨rfl, KF2⟩
end Go.Proofs.YtldejfallphhbaaGreatDoor
