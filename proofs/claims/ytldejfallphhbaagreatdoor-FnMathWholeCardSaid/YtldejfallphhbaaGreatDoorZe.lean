/-
  A part of the proof of FnMathWhole (packed out of smaller texts by a program of this session; what the proof does not reach is left out).
-/
import Derived.Test.YtldejfallphhbaaGreatDoorZd
import Derived.BigQuiet
import Derived.Deep.RegionHeld3
namespace Go.Proofs.YtldejfallphhbaaGreatDoor
set_option linter.unusedVariables false
open Go.RowKit
set_option maxRecDepth 100000 in
theorem cmp11_c (b1 b2 x y c1 c2 : Nat) (r : Int) (hr : (x < y ∧ r = -1) ∨ (y < x ∧ r = 1) ∨ (x = y ∧ r = 0)) (w : World) (h1 : w.cell? ⟨b1, 0, none⟩ = some (.int .u64 (x : Int))) (h2 : w.cell? ⟨b2, 0, none⟩ = some (.int .u64 (y : Int))) :
    Calls Tryz.prog 139 #[.slice (some ⟨b1, 0, none⟩) 1 c1, .slice (some ⟨b2, 0, none⟩) 1 c2] w fun e w' => e = .returned (.int .i64 r) ∧ ∃ q, w' = w.drewN q := by
  have hd : ∀ (m : Nat) (a : Addr), (w.drewN m).cell? a = w.cell? a := fun _ _ => rfl
  have g1 : ∀ m, (w.drewN m).cell? ⟨b1, 0, none⟩ = some (.int .u64 (x : Int)) := fun m => (hd m _).trans h1
  have g2 : ∀ m, (w.drewN m).cell? ⟨b2, 0, none⟩ = some (.int .u64 (y : Int)) := fun m => (hd m _).trans h2
  clear hd
  have d1 : decide ((x : Int) < (y : Int)) = decide (x < y) := by simp
  rcases hr with ⟨hr, rfl⟩ | ⟨hr, rfl⟩ | ⟨rfl, rfl⟩
  · have e1 : (x : Int) < (y : Int) := by omega
    go_enter Tryz.func139, Tryz.ntmps139
    go_wp2_with fail
    go_loopw [7] (fun v7 wr => v7 = .int .i64 0 ∧ ∃ q, wr = w.drewN q) (fun _ _ => 0)
    case atStart => exact ⟨rfl, 0, rfl⟩
    case round =>
      obtain ⟨rfl, q, rfl⟩ := hrel
      go_wp2_with fail
      go_quiet (fail)
      go_wp2_with fail
      go_quiet (fail)
      go_wp2_with fail
      go_returns
      exact ⟨rfl, _, by simp only [World.drewN_drewN]; rfl⟩
  · have e1 : ¬ (x : Int) < (y : Int) := by omega
    have e2 : (y : Int) < (x : Int) := by omega
    go_enter Tryz.func139, Tryz.ntmps139
    go_wp2_with fail
    go_loopw [7] (fun v7 wr => v7 = .int .i64 0 ∧ ∃ q, wr = w.drewN q) (fun _ _ => 0)
    case atStart => exact ⟨rfl, 0, rfl⟩
    case round =>
      obtain ⟨rfl, q, rfl⟩ := hrel
      go_wp2_with fail
      go_quiet (fail)
      go_wp2_with fail
      go_quiet (fail)
      go_wp2_with fail
      go_quiet (fail)
      go_wp2_with fail
      go_returns
      exact ⟨rfl, _, by simp only [World.drewN_drewN]; rfl⟩
  · go_enter Tryz.func139, Tryz.ntmps139
    go_wp2_with fail
    go_loopw [7] (fun v7 wr => v7 = .int .i64 0 ∧ ∃ q, wr = w.drewN q) (fun _ _ => 0)
    case atStart => exact ⟨rfl, 0, rfl⟩
    case round =>
      obtain ⟨rfl, q, rfl⟩ := hrel
      go_wp2_with fail
      go_quiet (fail)
      go_wp2_with fail
      go_quiet (fail)
      go_wp2_with fail
      go_quiet (fail)
      go_wp2_with fail
      go_returns
      exact ⟨rfl, _, by simp only [World.drewN_drewN]; rfl⟩
theorem abs_one {w : World} {b n c : Nat} (h : Abs w (.slice (some ⟨b, 0, none⟩) n c) 1) : n = 1 ∧ w.cell? ⟨b, 0, none⟩ = some (.int .u64 1) := by
  rcases h with ⟨e, _⟩ | ⟨b2, k2, c2, e, a1, a2, a3, a4, a5, a6, a7, a8⟩
  · cases e
  · have eb : b2 = b ∧ k2 = n := by injection e with e e1; injection e with e; injection e with e; exact ⟨e.symm, e1.symm⟩
    obtain ⟨rfl, rfl⟩ := eb
    have hk : k2 = 1 := by
      refine Nat.le_antisymm ?_ a1
      refine Nat.le_of_not_lt (fun h => ?_)
      have h1 := a6.2 (by omega)
      have h2 : 18446744073709551616 ^ 1 ≤ 18446744073709551616 ^ (k2 - 1) := Nat.pow_le_pow_right (by decide) (by omega)
      omega
    subst hk
    exact ⟨rfl, by have := a7 0 (by decide); exact this⟩
theorem abs_word {w : World} {b c X : Nat} (h : Abs w (.slice (some ⟨b, 0, none⟩) 1 c) X) : X < 18446744073709551616 ∧ w.cell? ⟨b, 0, none⟩ = some (.int .u64 (X : Int)) := by
  rcases h with ⟨e, _⟩ | ⟨b2, k2, c2, e, a1, a2, a3, a4, a5, a6, a7, a8⟩
  · cases e
  · have eb : b2 = b ∧ k2 = 1 := by injection e with e e1; injection e with e; injection e with e; exact ⟨e.symm, e1.symm⟩
    obtain ⟨rfl, rfl⟩ := eb
    have hX : X < 18446744073709551616 := by have := a6.1; rwa [Nat.pow_one] at this
    refine ⟨hX, ?_⟩
    have := a7 0 (by decide)
    rw [Nat.zero_add] at this
    rw [this]
    unfold wd
    rw [Nat.pow_zero, Nat.div_one, Nat.mod_eq_of_lt hX]
theorem cmp_big (va : Value) (X b1 c1 : Nat) (w : World) (hv : Abs w va X) (hX : 2 ≤ X) (h1 : w.cell? ⟨b1, 0, none⟩ = some (.int .u64 1)) :
    Calls Tryz.prog 139 #[va, .slice (some ⟨b1, 0, none⟩) 1 c1] w fun e w' => e = .returned (.int .i64 1) ∧ ∃ q, w' = w.drewN q := by
  rcases hv with ⟨rfl, rfl⟩ | ⟨b, k, cc, rfl, a1, a2, a3, a4, a5, a6, a7, a8⟩
  · exact absurd hX (by decide)
  · by_cases hk : k = 1
    · subst hk
      obtain ⟨_, hc⟩ := abs_word (Or.inr ⟨b, 1, cc, rfl, a1, a2, a3, a4, a5, a6, a7, a8⟩)
      exact cmp11_c b b1 X 1 cc c1 1 (Or.inr (Or.inl ⟨by omega, rfl⟩)) w hc h1
    · refine (cmp_gt (some ⟨b, 0, none⟩) (some ⟨b1, 0, none⟩) k 1 cc c1 w (by omega)).mono ?_
      rintro e w' ⟨rfl, rfl⟩
      exact ⟨rfl, 0, rfl⟩
end Go.Proofs.YtldejfallphhbaaGreatDoor
namespace Go.Proofs.YtldejfallphhbaaGreatDoor
set_option linter.unusedVariables false
open Go.RowKit
theorem two_no {w w1 w2 : World} {A : Nat} (h1 : Fr w w1 No) (h2 : Fr w1 w2 (Two A 0)) (hA : w.heap.size ≤ A) : Fr w w2 No :=
  h1.trans h2 (fun k j hk c => by have : k = A ∧ _ := c; omega)
structure Gc (w wx : World) (A bA nA cA B bB cB q r X : Nat) : Prop where
  iA : Ci wx A 0 false (.slice (some ⟨bA, 0, none⟩) nA cA)
  aA : Abs wx (.slice (some ⟨bA, 0, none⟩) nA cA) X
  iB : Ci wx B 0 false (.slice (some ⟨bB, 0, none⟩) 1 cB)
  aB : Abs wx (.slice (some ⟨bB, 0, none⟩) 1 cB) 1
  iq : Ci wx q 0 false (.slice none 0 0)
  ir : Ci wx r 0 false (.slice none 0 0)
  F : Fr w wx No
  ge : w.heap.size ≤ A ∧ A < bA ∧ bA < B ∧ B < bB ∧ bB < q ∧ r = q + 1
theorem gc_make {w w2 w4 : World} {A bA nA cA B bB nB cB X : Nat} (h2 : Ci w2 A 0 false (.slice (some ⟨bA, 0, none⟩) nA cA)) (a2 : Abs w2 (.slice (some ⟨bA, 0, none⟩) nA cA) X) (n2 : w.heap.size + 1 ≤ bA) (hA : A = w.heap.size) (f2 : Fr w w2 No)
    (hB : B = w2.heap.size) (h4 : Ci w4 B 0 false (.slice (some ⟨bB, 0, none⟩) nB cB)) (a4 : Abs w4 (.slice (some ⟨bB, 0, none⟩) nB cB) 1) (n4 : w2.heap.size + 1 ≤ bB) (f4 : Fr w2 w4 No) :
    nB = 1 ∧ Gc w ((w4.alloc (.cells #[.bool false, .slice none 0 0] 103)).alloc (.cells #[.bool false, .slice none 0 0] 103)) A bA nA cA B bB cB w4.heap.size (w4.heap.size + 1) X := by
  obtain ⟨rfl, hc⟩ := abs_one a4
  have s5 : (w4.alloc (.cells #[.bool false, .slice none 0 0] 103)).heap.size = w4.heap.size + 1 := size_new _ _
  have f5 := new40 w4 #[.bool false, .slice none 0 0] 103
  have f6 := new40 (w4.alloc (.cells #[.bool false, .slice none 0 0] 103)) #[.bool false, .slice none 0 0] 103
  have f46 := f5.trans f6 (fun _ _ _ c => c)
  have z5 := (ni_zeroC w4).fr f6 (fun c => c) (fun c => c)
  have z6 := ni_zeroC (w4.alloc (.cells #[.bool false, .slice none 0 0] 103))
  rw [s5] at z6
  have f26 := f4.trans f46 (fun _ _ _ c => c)
  have hbA : bA < w2.heap.size := by
    rcases a2 with ⟨e, _⟩ | ⟨b2, k2, c2, e, a1, _, _, _, _, _, _, a8⟩
    · cases e
    · have eb : b2 = bA := by injection e with e; injection e with e; injection e with e; exact e.symm
      rw [← eb]; exact a8.lt
  have hbB : bB < w4.heap.size := by
    rcases a4 with ⟨e, _⟩ | ⟨b2, k2, c2, e, a1, _, _, _, _, _, _, a8⟩
    · cases e
    · have eb : b2 = bB := by injection e with e; injection e with e; injection e with e; exact e.symm
      rw [← eb]; exact a8.lt
  exact ⟨rfl, h2.fr f26 (fun c => c) (fun c => c), a2.no f26, h4.fr f46 (fun c => c) (fun c => c), a4.no f46, z5, z6, f2.trans f26 (fun _ _ _ c => c), by omega⟩
theorem gc_first {w : World} {p X : Nat} {va : Value} (ha : Ci w p 0 false va) (hva : Abs w va X) (hX : 2 ≤ X) :
    Calls Tryz.prog 166 #[.pointer (some ⟨w.heap.size, 0, none⟩), .pointer (some ⟨p, 0, none⟩)] (w.alloc (.cells #[.bool false, .slice none 0 0] 103)) fun e w2 => ∃ bA nA cA, e = .returned (.pointer (some ⟨w.heap.size, 0, none⟩)) ∧ Hid (Ci w2 w.heap.size 0 false (.slice (some ⟨bA, 0, none⟩) nA cA) ∧ Abs w2 (.slice (some ⟨bA, 0, none⟩) nA cA) X ∧ w.heap.size + 1 ≤ bA ∧ Fr w w2 No) := by
  have A0 := new40 w #[.bool false, .slice none 0 0] 103
  have hl := ha.lt
  refine (abs_o w.heap.size 0 p 0 X false false va _ (ni_zeroC w) (ha.fr A0 (fun c => c) (fun c => c)) (hva.no A0) (by omega) (by omega)).mono ?_
  rintro e w2 ⟨b, n, c, rfl, h1, h2, h3, h4⟩
  exact ⟨b, n, c, rfl, Lib.hid ⟨h1, h2, by simpa using h3, two_no A0 h4 (Nat.le_refl _)⟩⟩
theorem gc_second {w w2 : World} {p b1 c1 : Nat} (hb : Ci w p 2 false (.slice (some ⟨b1, 0, none⟩) 1 c1)) (hvb : Abs w (.slice (some ⟨b1, 0, none⟩) 1 c1) 1) (hf : Fr w w2 No) :
    Calls Tryz.prog 166 #[.pointer (some ⟨w2.heap.size, 0, none⟩), .pointer (some ⟨p, 2, none⟩)] (w2.alloc (.cells #[.bool false, .slice none 0 0] 103)) fun e w4 => ∃ bB nB cB, e = .returned (.pointer (some ⟨w2.heap.size, 0, none⟩)) ∧ Hid (Ci w4 w2.heap.size 0 false (.slice (some ⟨bB, 0, none⟩) nB cB) ∧ Abs w4 (.slice (some ⟨bB, 0, none⟩) nB cB) 1 ∧ w2.heap.size + 1 ≤ bB ∧ Fr w2 w4 No) := by
  have hb2 := hb.fr hf (fun c => c) (fun c => c)
  have hv2 := hvb.no hf
  have A0 := new40 w2 #[.bool false, .slice none 0 0] 103
  have hl := hb2.lt
  refine (abs_o w2.heap.size 0 p 2 1 false false _ _ (ni_zeroC w2) (hb2.fr A0 (fun c => c) (fun c => c)) (hv2.no A0) (by omega) (by omega)).mono ?_
  rintro e w4 ⟨b, n, c, rfl, h1, h2, h3, h4⟩
  exact ⟨b, n, c, rfl, Lib.hid ⟨h1, h2, by simpa using h3, two_no A0 h4 (Nat.le_refl _)⟩⟩
theorem Gc.drewN {w wx : World} {A bA nA cA B bB cB q r X : Nat} (h : Gc w wx A bA nA cA B bB cB q r X) (m : Nat) : Gc w (wx.drewN m) A bA nA cA B bB cB q r X := by
  have hd := (Fr.refl wx No).drewN m
  exact ⟨h.iA.fr hd (fun c => c) (fun c => c), h.aA.no hd, h.iB.fr hd (fun c => c) (fun c => c), h.aB.no hd, h.iq.fr hd (fun c => c) (fun c => c), h.ir.fr hd (fun c => c) (fun c => c), h.F.trans hd (fun _ _ _ c => c), h.ge⟩
theorem gc_fin {w wx : World} {f x : Nat} {nf nx : Bool} {vx : Value} (hf : Ci w f 0 nf (.slice none 0 0)) (hF : Fr w wx No) (hx : Ci wx x 0 nx vx) (hv : Abs wx vx 1) (hne : f ≠ x) :
    Calls Tryz.prog 88 #[.pointer (some ⟨f, 0, none⟩), .pointer (some ⟨x, 0, none⟩)] wx fun e w' => ∃ b n c, e = .returned (.pointer (some ⟨f, 0, none⟩)) ∧ Hid (Ci w' f 0 nx (.slice (some ⟨b, 0, none⟩) n c) ∧ Abs w' (.slice (some ⟨b, 0, none⟩) n c) 1 ∧ Fr w w' (fun k _ => k = f)) := by
  refine (set_o f 0 x 0 1 nx nf vx wx (hf.fr hF (fun c => c) (fun c => c)) hx hv (Nat.le_refl _) hne).mono ?_
  rintro e w' ⟨b, n, c, rfl, h1, h2, h3, h4⟩
  exact ⟨b, n, c, rfl, Lib.hid ⟨h1, h2, hF.no.trans h4 (fun k j hk c => c.1)⟩⟩
theorem gc_len {w wx : World} {A bA nA cA B bB cB q r X : Nat} (h : Gc w wx A bA nA cA B bB cB q r X) (hn : ¬ nA = 1) : (1 : Int) < (nA : Int) := by
  rcases h.aA with ⟨e, _⟩ | ⟨b2, k2, c2, e, a1, a2, a3, a4, a5, a6, a7, a8⟩
  · cases e
  · have eb : k2 = nA := by injection e with e e1; exact e1.symm
    omega
def GcP (w : World) (f : Nat) (e : Ending) (w' : World) : Prop := ∃ b n c, e = .returned (.pointer (some ⟨f, 0, none⟩)) ∧ Hid (Ci w' f 0 false (.slice (some ⟨b, 0, none⟩) n c) ∧ Abs w' (.slice (some ⟨b, 0, none⟩) n c) 1 ∧ Fr w w' (fun k _ => k = f))
theorem gc_store {w wx : World} {A bA cA B bB cB q r X f p : Nat} {nf : Bool} {va : Value} (h : Gc w wx A bA 1 cA B bB cB q r X) (hf : Ci w f 0 nf (.slice none 0 0)) (ha : Ci w p 0 false va) (hfp : f ≠ p) :
    wx.frozen? ⟨bA, 0, none⟩ = false ∧ (wx.setCell ⟨bA, 0, none⟩ (.int .u64 1)).cell? ⟨p, 0, none⟩ = some (.bool false) ∧ Hid (Calls Tryz.prog 88 #[.pointer (some ⟨f, 0, none⟩), .pointer (some ⟨A, 0, none⟩)] (wx.setCell ⟨bA, 0, none⟩ (.int .u64 1)) (GcP w f)) := by
  have ge := h.ge
  have hfl := hf.lt
  have hpl := ha.lt
  rcases h.aA with ⟨e, _⟩ | ⟨b2, k2, c2, e, a1, a2, a3, a4, a5, a6, a7, a8⟩
  · cases e
  · have eb : b2 = bA ∧ k2 = 1 ∧ c2 = cA := by injection e with e e1 e2; injection e with e; injection e with e; exact ⟨e.symm, e1.symm, e2.symm⟩
    obtain ⟨rfl, rfl, rfl⟩ := eb
    have hF : Fr wx (wx.setCell ⟨b2, 0, none⟩ (.int .u64 1)) (fun k _ => k = b2) := (Fr.refl _ _).set _ _ _ (fun _ => rfl)
    have hF0 : Fr w (wx.setCell ⟨b2, 0, none⟩ (.int .u64 1)) No := h.F.trans hF (fun k j hk c => by have : k = b2 := c; omega)
    refine ⟨a8.fz 0, hF0.keep ha.c0 (fun c => c), Lib.hid ?_⟩
    refine gc_fin hf hF0 (h.iA.fr hF (fun c => by have : A = b2 := c; omega) (fun c => by have : A = b2 := c; omega)) (Or.inr ⟨b2, 1, c2, rfl, by decide, by decide, a3, a4, a5, one_nrm, ws_one (by decide) (a8.get 0 (by omega) _), a8.fr hF⟩) (by omega)
theorem gc_euclid {w wx : World} {A bA nA cA B bB cB q r X f p : Nat} {nf : Bool} {va : Value} (h : Gc w wx A bA nA cA B bB cB q r X) (hX : 1 ≤ X) (hf : Ci w f 0 nf (.slice none 0 0)) (ha : Ci w p 0 false va) (hfp : f ≠ p) :
    Calls Tryz.prog 170 #[.pointer (some ⟨A, 0, none⟩), .pointer (some ⟨B, 0, none⟩), .pointer none, .pointer none, .pointer (some ⟨q, 0, none⟩), .pointer (some ⟨r, 0, none⟩), .bool false] wx fun e w7 => e = .returned (.tuple #[.pointer (some ⟨B, 0, none⟩), .pointer (some ⟨r, 0, none⟩), .pointer (some ⟨A, 0, none⟩), .pointer none, .pointer none]) ∧ w7.cell? ⟨r, 1, none⟩ = some (.slice none 0 0) ∧ w7.cell? ⟨p, 0, none⟩ = some (.bool false) ∧ Hid (Calls Tryz.prog 88 #[.pointer (some ⟨f, 0, none⟩), .pointer (some ⟨B, 0, none⟩)] w7 (GcP w f)) := by
  have ge := h.ge
  have hfl := hf.lt
  have hpl := ha.lt
  refine (euclid_c q A 0 B 0 r X bB cB false false false _ wx h.iq h.iA h.aA hX h.iB (abs_one h.aB).2 h.ir (by omega)).mono ?_
  rintro e w7 ⟨b, n, c, rfl, HQ⟩
  have hF7 : Fr w w7 No := h.F.trans HQ.F (fun k j hk c => by have : k = q ∨ k = r := c; omega)
  have hB7 := h.iB.fr HQ.F (fun c => by have : B = q ∨ B = r := c; omega) (fun c => by have : B = q ∨ B = r := c; omega)
  have hA7 : Abs w7 (.slice (some ⟨bB, 0, none⟩) 1 cB) 1 := by
    rcases h.aB with ⟨e, _⟩ | ⟨b2, k2, c2, e, a1, a2, a3, a4, a5, a6, a7, a8⟩
    · cases e
    · have eb : b2 = bB := by injection e with e; injection e with e; injection e with e; exact e.symm
      exact Or.inr ⟨b2, k2, c2, e, a1, a2, a3, a4, a5, a6, a7.fr HQ.F (fun i _ c => by have : b2 = q ∨ b2 = r := c; omega), a8.fr HQ.F⟩
  exact ⟨rfl, HQ.R.c1, hF7.keep ha.c0 (fun c => c), Lib.hid (gc_fin hf hF7 hB7 hA7 (by omega))⟩
set_option maxRecDepth 100000 in
set_option maxHeartbeats 1000000 in
theorem gcd_c (f p X : Nat) (nf : Bool) (va : Value) (b1 c1 : Nat) (w : World) (hf : Ci w f 0 nf (.slice none 0 0)) (ha : Ci w p 0 false va) (hva : Abs w va X) (hX : 2 ≤ X) (hb : Ci w p 2 false (.slice (some ⟨b1, 0, none⟩) 1 c1)) (hvb : Abs w (.slice (some ⟨b1, 0, none⟩) 1 c1) 1) (hfp : f ≠ p) :
    Calls Tryz.prog 151 #[.pointer (some ⟨f, 0, none⟩), .pointer none, .pointer none, .pointer (some ⟨p, 0, none⟩), .pointer (some ⟨p, 2, none⟩)] w fun e w' => ∃ b n c, e = .returned (.pointer (some ⟨f, 0, none⟩)) ∧ Ci w' f 0 false (.slice (some ⟨b, 0, none⟩) n c) ∧ Abs w' (.slice (some ⟨b, 0, none⟩) n c) 1 ∧ Fr w w' (fun k _ => k = f) := by
  have K1 := Lib.hid (gc_first ha hva hX)
  have K2 := Lib.hid (fun (w2 : World) (h : Fr w w2 No) => gc_second hb hvb h)
  have KH := Lib.hid (And.intro hf (And.intro ha hfp))
  clear hf ha hva hb hvb hfp
  go_enter Tryz.func151, Tryz.ntmps151
  go_wp2_with fail
  with_reducible refine K1.out.mono ?_
  rintro e w2 ⟨bA, nA, cA, rfl, H2⟩
  go_wp2_with fail
  with_reducible refine (K2.out w2 H2.out.2.2.2).mono ?_
  rintro e w4 ⟨bB, nB, cB, rfl, H4⟩
  obtain ⟨rfl, HG⟩ := gc_make H2.out.1 H2.out.2.1 H2.out.2.2.1 rfl H2.out.2.2.2 rfl H4.out.1 H4.out.2.1 H4.out.2.2.1 H4.out.2.2.2
  have KG := Lib.hid HG
  generalize hA : w.heap.size = A at *
  generalize hB : w2.heap.size = B at *
  clear HG H2 H4
  go_upto_region 10 with fail
  obtain ⟨wy, hwy⟩ : ∃ wy, wy = (w4.alloc (.cells #[.bool false, .slice none 0 0] 103)).alloc (.cells #[.bool false, .slice none 0 0] 103) := ⟨_, rfl⟩
  rw [← hwy] at KG ⊢
  obtain ⟨Q, hQ⟩ : ∃ Q, Q = w4.heap.size := ⟨_, rfl⟩
  rw [← hQ] at KG ⊢
  clear hwy hQ hA hB K1 K2
  have hd : ∀ (m : Nat) (a : Addr), (wy.drewN m).cell? a = wy.cell? a := fun _ _ => rfl
  have ca : ∀ m, (wy.drewN m).cell? ⟨A, 1, none⟩ = some (.slice (some ⟨bA, 0, none⟩) nA cA) := fun m => (hd m _).trans KG.out.iA.c1
  have cb : ∀ m, (wy.drewN m).cell? ⟨B, 1, none⟩ = some (.slice (some ⟨bB, 0, none⟩) 1 cB) := fun m => (hd m _).trans KG.out.iB.c1
  have ca0 := KG.out.iA.c1
  have cb0 := KG.out.iB.c1
  clear hd
  have K3 : Hid (∀ m, Calls Tryz.prog 139 #[.slice (some ⟨bA, 0, none⟩) nA cA, .slice (some ⟨bB, 0, none⟩) 1 cB] (wy.drewN m) fun e w' => e = .returned (.int .i64 1) ∧ ∃ q, w' = (wy.drewN m).drewN q) :=
    Lib.hid (fun m => cmp_big _ X bB cB _ (KG.out.drewN m).aA hX (abs_one (KG.out.drewN m).aB).2)
  go_quiet ((go_at_call 139; exact Calls.quiet_of (K3.out _)))
  go_wp2_with fail
  go_loopw [11, 12, 13, 14, 17, 18, 19, 20, 21, 22] (fun v11 v12 v13 v14 v17 v18 v19 v20 v21 v22 wr => v11 = .pointer (some ⟨A, 0, none⟩) ∧ v12 = .pointer (some ⟨B, 0, none⟩) ∧ v13 = .pointer none ∧ v14 = .pointer none ∧ v17 = .pointer (some ⟨Q + 1, 0, none⟩) ∧ ∃ m, wr = wy.drewN m) (fun _ _ _ _ _ _ _ _ _ _ _ => 0)
  case atStart => exact ⟨rfl, rfl, rfl, rfl, rfl, _, rfl⟩
  case round =>
    obtain ⟨rfl, rfl, rfl, rfl, rfl, m, rfl⟩ := hrel
    by_cases hn : nA = 1
    · subst hn
      have KS := Lib.hid (fun m2 => gc_store (KG.out.drewN m2) KH.out.1 KH.out.2.1 KH.out.2.2)
      obtain ⟨hXw, hcA⟩ := abs_word KG.out.aA
      have hcB := (abs_one KG.out.aB).2
      have hd2 : ∀ (m : Nat) (a : Addr), (wy.drewN m).cell? a = wy.cell? a := fun _ _ => rfl
      have da : ∀ m, (wy.drewN m).cell? ⟨bA, 0, none⟩ = some (.int .u64 (X : Int)) := fun m => (hd2 m _).trans hcA
      have db : ∀ m, (wy.drewN m).cell? ⟨bB, 0, none⟩ = some (.int .u64 1) := fun m => (hd2 m _).trans hcB
      clear hd2 K3
      go_wp2_with fail
      go_quiet (fail)
      go_wp2_with fail
      go_loopw [23, 24] (fun v23 v24 wr => ((v23 = .int .u64 (X : Int) ∧ v24 = .int .u64 1) ∨ (v23 = .int .u64 1 ∧ v24 = .int .u64 0)) ∧ ∃ m2, wr = wy.drewN m2) (fun _ v24 _ => (intOf v24).toNat)
      case atStart => exact ⟨Or.inl ⟨rfl, rfl⟩, _, by simp only [World.drewN_drewN]; rfl⟩
      case round =>
        obtain ⟨hv, m2, rfl⟩ := hrel
        rcases hv with ⟨rfl, rfl⟩ | ⟨rfl, rfl⟩
        · go_wp2_with fail
          go_quiet (fail)
          go_wp2_with fail
          go_roundw
          case rel => exact ⟨Or.inr ⟨rfl, by simp⟩, _, by simp only [World.drewN_drewN]; rfl⟩
          case measure => simp [intOf]
        · obtain ⟨fzA, p0, KF⟩ := (KS.out m2)
          go_wp2_with fail
          with_reducible refine KF.out.mono ?_
          rintro e w9 ⟨b, n, c, rfl, HH⟩
          go_wp2_with fail
          go_returns
          exact ⟨b, n, c, rfl, HH.out⟩
    · have hn2 : (1 : Int) < (nA : Int) := gc_len KG.out hn
      have KE := Lib.hid (gc_euclid (KG.out.drewN m) (by omega) KH.out.1 KH.out.2.1 KH.out.2.2)
      clear K3
      go_wp2_with fail
      with_reducible refine KE.out.mono ?_
      rintro e w7 ⟨rfl, r1, p0, KF⟩
      go_wp2_with fail
      with_reducible refine KF.out.mono ?_
      rintro e w9 ⟨b, n, c, rfl, HH⟩
      go_wp2_with fail
      go_returns
      exact ⟨b, n, c, rfl, HH.out⟩
end Go.Proofs.YtldejfallphhbaaGreatDoor
namespace Go.Proofs.YtldejfallphhbaaGreatDoor
set_option linter.unusedVariables false
open Go.RowKit
theorem eql_blocks {p oz q ox : Nat} {n1 n2 : Nat} (w : World) (hne : p ≠ q) (hp : Blk w p n1) (hq : Blk w q n2) :
    (binOp .eql 70 (.pointer (some ⟨p, oz, none⟩)) (.pointer (some ⟨q, ox, none⟩))).run Tryz.prog w = .ok (.bool false) w := by
  obtain ⟨ax, tx, hx1, _⟩ := hp
  obtain ⟨ay, ty, hy1, _⟩ := hq
  obtain ⟨j, hte⟩ : ∃ j, Tryz.prog.info? 103 = some j := by
    cases h : Tryz.prog.info? 103 with
    | none => have := info103; rw [h] at this; cases this
    | some j => exact ⟨j, rfl⟩
  have hsz : j.size ≠ 0 := by
    have := info103
    rw [hte] at this
    simp only [Option.map_some, Option.some.injEq, Prod.mk.injEq] at this
    omega
  have h : ∀ d : Nat, (Op.equalIn (d + 1) 70 (.pointer (some ⟨p, oz, none⟩)) (.pointer (some ⟨q, ox, none⟩))).run Tryz.prog w = .ok false w := fun d => by
    simp [Op.equalIn, run_underlying Tryz.underlying70, sizeOf, typeInfo, hte, hsz, run_sameAddr_other w (a := ⟨p, oz, none⟩) (b := ⟨q, ox, none⟩) (by simp [hne]) hx1 hy1]
  simp only [binOp]
  simp [Op.equal, Op.maxDepth, h 9999]
set_option maxRecDepth 100000 in
theorem cmpI_c (f g b1 c1 b2 c2 : Nat) (w : World) (hf : Ci w f 0 false (.slice (some ⟨b1, 0, none⟩) 1 c1)) (h1 : w.cell? ⟨b1, 0, none⟩ = some (.int .u64 1)) (hg : Ci w g 0 false (.slice (some ⟨b2, 0, none⟩) 1 c2)) (h2 : w.cell? ⟨b2, 0, none⟩ = some (.int .u64 1)) (hne : f ≠ g) :
    Calls Tryz.prog 152 #[.pointer (some ⟨f, 0, none⟩), .pointer (some ⟨g, 0, none⟩)] w fun e w' => e = .returned (.int .i64 0) ∧ ∃ q, w' = w.drewN q := by
  have hc : (binOp .eql 70 (.pointer (some ⟨f, 0, none⟩)) (.pointer (some ⟨g, 0, none⟩))).run Tryz.prog w = .ok (.bool false) w := by
    obtain ⟨n1, h1, _⟩ := hf.B
    obtain ⟨n2, h2, _⟩ := hg.B
    exact eql_blocks w hne h1 h2
  have K : Hid (∀ m, Calls Tryz.prog 139 #[.slice (some ⟨b1, 0, none⟩) 1 c1, .slice (some ⟨b2, 0, none⟩) 1 c2] (w.drewN m) fun e w' => e = .returned (.int .i64 0) ∧ ∃ q, w' = (w.drewN m).drewN q) :=
    Lib.hid (fun m => cmp11_c b1 b2 1 1 c1 c2 0 (Or.inr (Or.inr ⟨rfl, rfl⟩)) (w.drewN m) (((Fr.refl w No).drewN m).keep h1 (fun c => c)) (((Fr.refl w No).drewN m).keep h2 (fun c => c)))
  have K2 : Hid (∀ a b, Calls Tryz.prog 139 #[.slice (some ⟨b1, 0, none⟩) 1 c1, .slice (some ⟨b2, 0, none⟩) 1 c2] (w.drewN (a + b)) fun e w' => e = .returned (.int .i64 0) ∧ ∃ q, w' = w.drewN (a + q)) := Lib.hid (fun a b => (K.out (a + b)).mono (by
    rintro e w' ⟨rfl, q, rfl⟩
    exact ⟨rfl, b + q, by rw [World.drewN_drewN, Nat.add_assoc]⟩))
  have f0 : ∀ m, (w.drewN m).cell? ⟨f, 0, none⟩ = some (.bool false) := fun m => ((Fr.refl w No).drewN m).keep hf.c0 (fun c => c)
  have f1 : ∀ m, (w.drewN m).cell? ⟨f, 1, none⟩ = some (.slice (some ⟨b1, 0, none⟩) 1 c1) := fun m => ((Fr.refl w No).drewN m).keep hf.c1 (fun c => c)
  have g0 : ∀ m, (w.drewN m).cell? ⟨g, 0, none⟩ = some (.bool false) := fun m => ((Fr.refl w No).drewN m).keep hg.c0 (fun c => c)
  have g1 : ∀ m, (w.drewN m).cell? ⟨g, 1, none⟩ = some (.slice (some ⟨b2, 0, none⟩) 1 c2) := fun m => ((Fr.refl w No).drewN m).keep hg.c1 (fun c => c)
  have f00 := hf.c0
  have f11 := hf.c1
  have g00 := hg.c0
  have g11 := hg.c1
  clear hf hg h1 h2
  go_enter Tryz.func152, Tryz.ntmps152
  go_wp2_with fail
  go_quiet (fail)
  go_wp2_with fail
  go_quiet ((go_at_call 139; exact K2.out _ _))
  go_wp2_with fail
  go_returns
  exact ⟨rfl, _, by first | rfl | (simp only [World.drewN_drewN]; rfl)⟩
theorem newInt0_c (w : World) : Calls Tryz.prog 112 #[.int .i64 0] w fun e w' => e = .returned (.pointer (some ⟨w.heap.size, 0, none⟩)) ∧ w' = w.alloc (.cells #[.bool false, .slice none 0 0] 103) := by
  go_enter Tryz.func112, Tryz.ntmps112
  go_wp2_with fail
  go_returns
  exact ⟨rfl, rfl⟩
structure Ra1 (w : World) (p : Nat) (s : Bool) (va : Value) (X b1 c1 : Nat) : Prop where
  B : Blk w p 4
  a : Ci w p 0 s va
  av : Abs w va X
  b : Ci w p 2 false (.slice (some ⟨b1, 0, none⟩) 1 c1)
  bv : Abs w (.slice (some ⟨b1, 0, none⟩) 1 c1) 1
theorem Abs.far {w w' : World} {v x : Value} {X p : Nat} (h : Abs w v X) (hx : w.cell? ⟨p, 0, none⟩ = some x) (hn : ∀ z, x ≠ .int .u64 z) (hf : Fr w w' (fun k _ => k = p)) : Abs w' v X := h.fr hf (abs_ne h hx hn)
theorem Ra1.put {w : World} {p : Nat} {s : Bool} {va : Value} {X b1 c1 : Nat} (h : Ra1 w p s va X b1 c1) (t : Bool) : Ra1 (w.setCell ⟨p, 0, none⟩ (.bool t)) p t va X b1 c1 ∧ Fr w (w.setCell ⟨p, 0, none⟩ (.bool t)) (fun k _ => k = p) := by
  obtain ⟨g1, g2⟩ := h.a.put t
  have hF := g2.weaken (S2 := fun k _ => k = p) (fun _ _ _ c => c.1)
  exact ⟨⟨h.B.fr hF, g1, h.av.far h.a.c0 (by simp) hF, h.b.fr g2 (fun c => by omega) (fun c => by omega), h.bv.far h.a.c0 (by simp) hF⟩, hF⟩
theorem Ra1.put2 {w : World} {p : Nat} {s : Bool} {va : Value} {X b1 c1 : Nat} (h : Ra1 w p s va X b1 c1) : Ra1 (w.setCell ⟨p, 2, none⟩ (.bool false)) p s va X b1 c1 ∧ Fr w (w.setCell ⟨p, 2, none⟩ (.bool false)) (fun k _ => k = p) := by
  obtain ⟨g1, g2⟩ := h.b.put false
  have hF := g2.weaken (S2 := fun k _ => k = p) (fun _ _ _ c => c.1)
  exact ⟨⟨h.B.fr hF, h.a.fr g2 (fun c => by omega) (fun c => by omega), h.av.far h.a.c0 (by simp) hF, g1, h.bv.far h.a.c0 (by simp) hF⟩, hF⟩
theorem Ra1.no {w w' : World} {p : Nat} {s : Bool} {va : Value} {X b1 c1 : Nat} (h : Ra1 w p s va X b1 c1) (hf : Fr w w' No) : Ra1 w' p s va X b1 c1 :=
  ⟨h.B.fr hf, h.a.fr hf (fun c => c) (fun c => c), h.av.no hf, h.b.fr hf (fun c => c) (fun c => c), h.bv.no hf⟩
structure Nm (w wx : World) (p S F : Nat) (va : Value) (X b1 c1 b n c : Nat) : Prop where
  R : Ra1 wx p false va X b1 c1
  fr : Fr w wx (fun k _ => k = p)
  st : wx.cell? ⟨S, 0, none⟩ = some (.pointer none)
  f : Ci wx F 0 false (.slice (some ⟨b, 0, none⟩) n c)
  fv : Abs wx (.slice (some ⟨b, 0, none⟩) n c) 1
  ne : p < S ∧ S < F
theorem Nm.no {w wx wy : World} {p S F X b1 c1 b n c : Nat} {va : Value} (h : Nm w wx p S F va X b1 c1 b n c) (hf : Fr wx wy No) : Nm w wy p S F va X b1 c1 b n c :=
  ⟨h.R.no hf, h.fr.trans hf (fun _ _ _ c => c.elim), hf.keep h.st (fun c => c), h.f.fr hf (fun c => c) (fun c => c), h.fv.no hf, h.ne⟩
theorem nm_pre {w : World} {p : Nat} {s : Bool} {va : Value} {X b1 c1 : Nat} (h : Ra1 w p s va X b1 c1) :
    let w3 := ((w.setCell ⟨p, 0, none⟩ (.bool false)).setCell ⟨p, 2, none⟩ (.bool false)).alloc (.cells #[.pointer none] 239)
    Ra1 w3 p false va X b1 c1 ∧ Fr w w3 (fun k _ => k = p) ∧ w3.cell? ⟨w.heap.size, 0, none⟩ = some (.pointer none) ∧ w3.heap.size = w.heap.size + 1 := by
  intro w3
  have hpl := h.B.lt
  obtain ⟨r2, f2⟩ := h.put false
  obtain ⟨r3, f3⟩ := r2.put2
  have f4 := new40 ((w.setCell ⟨p, 0, none⟩ (.bool false)).setCell ⟨p, 2, none⟩ (.bool false)) #[.pointer none] 239
  have c1 := cell_new ((w.setCell ⟨p, 0, none⟩ (.bool false)).setCell ⟨p, 2, none⟩ (.bool false)) #[.pointer none] 239 0 _ rfl
  have hs : ((w.setCell ⟨p, 0, none⟩ (.bool false)).setCell ⟨p, 2, none⟩ (.bool false)).heap.size = w.heap.size := by simp
  rw [hs] at c1
  have f23 := f2.trans f3 (fun _ _ _ c => c)
  refine ⟨r3.no f4, f23.trans f4 (fun _ _ _ c => c.elim), c1, ?_⟩
  show (World.alloc _ _).heap.size = _
  rw [size_new, hs]
theorem nm_gcd {w w3 wy : World} {p S : Nat} {va : Value} {X b1 c1 : Nat} (h : Ra1 w3 p false va X b1 c1) (hX : 2 ≤ X) (hF : Fr w w3 (fun k _ => k = p)) (hS : w3.cell? ⟨S, 0, none⟩ = some (.pointer none)) (hs : w3.heap.size = S + 1) (hp : p < S) (hy : Fr w3 wy No) (hys : wy.heap.size = S + 1) :
    Calls Tryz.prog 151 #[.pointer (some ⟨S + 1, 0, none⟩), .pointer none, .pointer none, .pointer (some ⟨p, 0, none⟩), .pointer (some ⟨p, 2, none⟩)] (wy.alloc (.cells #[.bool false, .slice none 0 0] 103)) fun e w' => ∃ b n c, e = .returned (.pointer (some ⟨S + 1, 0, none⟩)) ∧ Hid (Nm w w' p S (S + 1) va X b1 c1 b n c) := by
  have f1 := hy.trans (new40 wy #[.bool false, .slice none 0 0] 103) (fun _ _ _ c => c)
  have hR := h.no f1
  have hz := ni_zeroC wy
  rw [hys] at hz
  refine (gcd_c (S + 1) p X false va b1 c1 _ hz hR.a hR.av hX hR.b hR.bv (by omega)).mono ?_
  rintro e w' ⟨b, n, c, rfl, g1, g2, g3⟩
  have hS1 : Ra1 w' p false va X b1 c1 := ⟨hR.B.fr g3, hR.a.fr g3 (fun c => by have : p = S + 1 := c; omega) (fun c => by have : p = S + 1 := c; omega), hR.av.far hz.c0 (by simp) g3, hR.b.fr g3 (fun c => by have : p = S + 1 := c; omega) (fun c => by have : p = S + 1 := c; omega), hR.bv.far hz.c0 (by simp) g3⟩
  refine ⟨b, n, c, rfl, Lib.hid ⟨hS1, ?_, g3.keep (f1.keep hS (fun c => c)) (fun c => by have : S = S + 1 := c; omega), g1, g2, by omega⟩⟩
  have hw : w.heap.size ≤ S + 1 := by rw [← hs]; exact hF.size
  exact (hF.trans f1 (fun _ _ _ c => c.elim)).trans g3 (fun k j hk c => by have : k = S + 1 := c; omega)
set_option maxRecDepth 100000 in
set_option maxHeartbeats 1000000 in
theorem norm1_c (p X : Nat) (s : Bool) (va : Value) (b1 c1 : Nat) (w : World) (h : Ra1 w p s va X b1 c1) (hX : 2 ≤ X) :
    Calls Tryz.prog 136 #[.pointer (some ⟨p, 0, none⟩)] w fun e w' => e = .returned (.pointer (some ⟨p, 0, none⟩)) ∧ Ra1 w' p s va X b1 c1 ∧ Fr w w' (fun k _ => k = p) := by
  have hpl := h.B.lt
  obtain ⟨q1, q2, q3, q4⟩ := nm_pre h
  have KP := Lib.hid (And.intro q1 (And.intro q2 (And.intro q3 q4)))
  have KS := Lib.hid (stack_c w)
  have a0 := h.a.c0
  have a1 := h.a.c1
  have b0 := h.b.c0
  have b1' := h.b.c1
  have fz0 := h.B.fz 0
  have fz2 := h.B.fz 2
  have hv : ∃ b k c, va = .slice (some ⟨b, 0, none⟩) k c ∧ 1 ≤ k := by
    rcases h.av with ⟨rfl, rfl⟩ | ⟨b, k, c, rfl, hk, _⟩
    · exact absurd hX (by decide)
    · exact ⟨b, k, c, rfl, hk⟩
  obtain ⟨ba, ka, ca, rfl, hka⟩ := hv
  have hka0 : ((ka : Int) == 0) = false := by simp; omega
  have hka1 : ¬ ka = 0 := by omega
  have hka2 : ¬ (ka : Int) = 0 := by omega
  have KH := Lib.hid h
  clear h q1 q2 q3 q4
  go_enter_defers Tryz.func136, Tryz.ntmps136
  go_wp2_with fail
  with_reducible refine KS.out.mono ?_
  rintro e w1 ⟨rfl, rfl⟩
  go_upto_region 10 with fail
  obtain ⟨w3, hw3⟩ : ∃ w3, w3 = ((w.setCell ⟨p, 0, none⟩ (.bool false)).setCell ⟨p, 2, none⟩ (.bool false)).alloc (.cells #[.pointer none] 239) := ⟨_, rfl⟩
  rw [← hw3] at KP ⊢
  obtain ⟨S, hS⟩ : ∃ S, S = w.heap.size := ⟨_, rfl⟩
  rw [← hS] at KP hpl ⊢
  have KG := Lib.hid (fun (wy : World) (h1 : Fr w3 wy No) (h2 : wy.heap.size = S + 1) => nm_gcd KP.out.1 hX KP.out.2.1 KP.out.2.2.1 KP.out.2.2.2 hpl h1 h2)
  have hs3 := KP.out.2.2.2
  have KS3 := Lib.hid hs3
  clear hw3 hS KS KH a0 a1 b0 b1' hka hka0 hka1 hka2 fz0 fz2
  go_cut [5] from 51 to 58 (fun s5 wx => s5 = .pointer (some ⟨S + 1, 0, none⟩) ∧ ∃ b n c, Hid (Nm w wx p S (S + 1) (.slice (some ⟨ba, 0, none⟩) ka ca) X b1 c1 b n c))
  case first =>
    go_region_held3 (fun w' => True) (first | exact trivial) (first | (go_at_call 112; refine (newInt0_c _).mono ?_; rintro e w4 ⟨rfl, rfl⟩) | (go_at_call 151; refine (KG.out w3.drew ((Fr.refl w3 No).drew) KS3.out).mono ?_; rintro e w5 ⟨b, n, c, rfl, HH⟩))
    all_goals
      go_wp2_with fail
      go_meet
      case rel => exact ⟨rfl, b, n, c, HH⟩
  case rest =>
    obtain ⟨rfl, b, n, c, HN⟩ := hcut
    have KO := Lib.hid (intOne_c wc)
    go_wp2_with fail
    with_reducible refine KO.out.mono ?_
    rintro e w6 ⟨q, v1, rfl, o1, o2, o3, o4, b2, c2, rfl, o5⟩
    obtain ⟨rfl, hb1⟩ := abs_one HN.out.fv
    have HN6 := Lib.hid (HN.out.no o4)
    have hlt : S + 1 < wc.heap.size := HN.out.f.lt
    have KC := Lib.hid (cmpI_c (S + 1) q b c b2 c2 w6 HN6.out.f (abs_one HN6.out.fv).2 o1 (abs_one o2).2 (by omega))
    clear KO o1 o2 o3 o4 o5 hlt hb1 KG KP KS3 hs3
    go_wp2_with fail
    with_reducible refine KC.out.mono ?_
    rintro e w7 ⟨rfl, m, rfl⟩
    have HN7 := Lib.hid (HN6.out.no ((Fr.refl w6 No).drewN m))
    have fz0 := HN7.out.R.B.fz 0
    have p0 := HN7.out.R.a.c0
    have HP := Lib.hid (HN7.out.R.put s)
    have hst : ((w6.drewN m).setCell ⟨p, 0, none⟩ (.bool s)).cell? ⟨S, 0, none⟩ = some (.pointer none) := HP.out.2.keep HN7.out.st (fun c => by have : S = p := c; omega)
    have KF := Lib.hid (free_c S .returning _ hst)
    clear hst
    go_wp2_with fail
    refine leaves_cons (f := 150) (args := #[.pointer (some ⟨S, 0, none⟩)]) (by simp) (by simp [go_sem]) ?_
    refine KF.out.mono ?_
    rintro e u' w8 ⟨rfl, rfl, rfl⟩
    exact ⟨_, results_tmp (t := 2) (by kernel_rfl) _ _ _, rfl, HP.out.1, HN7.out.fr.trans HP.out.2 (fun _ _ _ c => c)⟩
end Go.Proofs.YtldejfallphhbaaGreatDoor
