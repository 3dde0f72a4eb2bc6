/-
  A part of the proof of FnMathWhole (packed out of smaller texts by a program of this session; what the proof does not reach is left out).
-/
import Derived.Test.YtldejfallphhbaaGreatDoorZc
import Derived.Deep.RegionHeld3
import Derived.BigRegion
namespace Go.Proofs.YtldejfallphhbaaGreatDoor
set_option linter.unusedVariables false
open Go.RowKit
theorem set_a (v : Value) (X : Nat) (w : World) (hv : Abs w v X) (hX : 1 ≤ X) :
    Calls Tryz.prog 108 #[.slice none 0 0, v] w fun e w2 => ∃ b n c, e = .returned (.slice (some ⟨b, 0, none⟩) n c) ∧ Abs w2 (.slice (some ⟨b, 0, none⟩) n c) X ∧ 1 ≤ n ∧ w.heap.size ≤ b ∧ Fr w w2 No := by
  rcases hv with ⟨rfl, rfl⟩ | ⟨b, k, cc, rfl, h1, h2, h3, h4, h5, h6, h7, h8⟩
  · exact absurd hX (by decide)
  · refine (set_c (.slice none 0 0) 0 b 0 k cc X h1 (by omega) w (Or.inl rfl) h7 (fun h => absurd rfl h)).mono ?_
    rintro e w2 ⟨b2, c2, rfl, g1, g2, g3, g4, g5, g6⟩
    have hF : Fr w w2 No := g6.weaken (S2 := No) (fun _ _ _ c => c.2 rfl)
    have hb2 : w.heap.size ≤ b2 := by
      rcases g3 with ⟨_, h⟩ | ⟨h, _⟩
      · exact absurd rfl h
      · exact h
    exact ⟨b2, k, c2, rfl, Or.inr ⟨b2, k, c2, rfl, h1, h2, g1, by omega, g2, h6, g5, g4⟩, h1, hb2, hF⟩
theorem divW1_c (v : Value) (X : Nat) (w : World) (hv : Abs w v X) (hX : 1 ≤ X) :
    Calls Tryz.prog 153 #[.slice none 0 0, v, .int .u64 1] w fun e w2 => ∃ b n c, e = .returned (.tuple #[.slice (some ⟨b, 0, none⟩) n c, .int .u64 0]) ∧ Hid (Abs w2 (.slice (some ⟨b, 0, none⟩) n c) X ∧ 1 ≤ n ∧ w.heap.size ≤ b ∧ Fr w w2 No) := by
  have K := Lib.hid (set_a v X w hv hX)
  have hs : ∃ A n c, v = .slice A n c := by
    rcases hv with ⟨rfl, rfl⟩ | ⟨b, k, cc, rfl, _⟩
    · exact ⟨_, _, _, rfl⟩
    · exact ⟨_, _, _, rfl⟩
  obtain ⟨A0, n0, c0, rfl⟩ := hs
  clear hv
  go_enter Tryz.func153, Tryz.ntmps153
  go_wp2_with fail
  with_reducible refine K.out.mono ?_
  rintro e w2 ⟨b, n, c, rfl, h⟩
  have KN := Lib.hid h
  clear h
  go_wp2_with fail
  go_returns
  exact ⟨b, n, c, rfl, KN⟩
theorem setWord0_c (w : World) : Calls Tryz.prog 148 #[.slice none 0 0, .int .u64 0] w fun e w' => e = .returned (.slice none 0 0) ∧ w' = w := by
  go_enter Tryz.func148, Tryz.ntmps148
  go_wp2_with fail
  go_returns
  exact ⟨rfl, rfl⟩
theorem div1_c (v : Value) (X b1 c1 : Nat) (w : World) (hv : Abs w v X) (hX : 1 ≤ X) (h1 : w.cell? ⟨b1, 0, none⟩ = some (.int .u64 1)) :
    Calls Tryz.prog 137 #[.slice none 0 0, .pointer none, .slice none 0 0, v, .slice (some ⟨b1, 0, none⟩) 1 c1] w fun e w2 => ∃ b n c, e = .returned (.tuple #[.slice (some ⟨b, 0, none⟩) n c, .slice none 0 0]) ∧ Hid (Abs w2 (.slice (some ⟨b, 0, none⟩) n c) X ∧ 1 ≤ n ∧ w.heap.size ≤ b ∧ Fr w w2 No) := by
  have K := Lib.hid (divW1_c v X w hv hX)
  have K2 := setWord0_c
  clear hv
  go_enter_defers Tryz.func137, Tryz.ntmps137
  go_wp2_with fail
  with_reducible refine K.out.mono ?_
  rintro e w2 ⟨b, n, c, rfl, h⟩
  go_wp2_with fail
  refine (K2 _).mono ?_
  rintro e w3 ⟨rfl, rfl⟩
  go_wp2_with fail
  exact ⟨_, results_tmp2 (t := 10) (u := 11) (by kernel_rfl) _ _ _, b, n, c, rfl, h⟩
theorem ni_zeroC (w : World) : Ci (w.alloc (.cells #[.bool false, .slice none 0 0] 103)) w.heap.size 0 false (.slice none 0 0) :=
  ⟨⟨2, Blk.new w _ 103 2 rfl, by decide⟩, cell_new w _ 103 0 _ rfl, cell_new w _ 103 1 _ rfl⟩
theorem two_fz {w : World} {r : Nat} {neg : Bool} {v : Value} (h : Ci w r 0 neg v) (d : Nat) (u : Value) : (w.setCell ⟨d, 1, none⟩ u).frozen? ⟨r, 1, none⟩ = false := by
  obtain ⟨n, hB, _⟩ := h.B
  exact (hB.fr ((Fr.refl w (Al d)).set d 1 u (fun _ => rfl))).fz 1
theorem two_c1 {w : World} {r : Nat} {neg : Bool} {v : Value} (h : Ci w r 0 neg v) (d : Nat) (u : Value) (hne : d ≠ r) : (w.setCell ⟨d, 1, none⟩ u).cell? ⟨r, 1, none⟩ = some v := by
  rw [cell_set_ne _ _ _ _ _ _ (by omega)]; exact h.c1
theorem two_fz0 {w : World} {r : Nat} {neg : Bool} {v : Value} (h : Ci w r 0 neg v) (d : Nat) (u : Value) : (w.setCell ⟨d, 0, none⟩ u).frozen? ⟨r, 0, none⟩ = false := by
  obtain ⟨n, hB, _⟩ := h.B
  exact (hB.fr ((Fr.refl w (Al d)).set d 0 u (fun _ => rfl))).fz 0
theorem two_c0 {w : World} {r : Nat} {neg : Bool} {v : Value} (h : Ci w r 0 neg v) (d : Nat) (u : Value) (hne : d ≠ r) : (w.setCell ⟨d, 0, none⟩ u).cell? ⟨r, 0, none⟩ = some (.bool neg) := by
  rw [cell_set_ne _ _ _ _ _ _ (by omega)]; exact h.c0
structure QrO (w w' : World) (d r b n c X : Nat) (nx : Bool) : Prop where
  D : Ci w' d 0 nx (.slice (some ⟨b, 0, none⟩) n c)
  A : Abs w' (.slice (some ⟨b, 0, none⟩) n c) X
  R : Ci w' r 0 false (.slice none 0 0)
  N : w.heap.size ≤ b
  F : Fr w w' (fun k _ => k = d ∨ k = r)
structure QrM (w w2 : World) (d p ox py oy r X b n c : Nat) (v : Value) (b1 c1 : Nat) : Prop where
  A : Abs w2 (.slice (some ⟨b, 0, none⟩) n c) X
  n1 : 1 ≤ n
  N : w.heap.size ≤ b
  F : Fr w w2 No
  x : w2.cell? ⟨p, ox + 1, none⟩ = some v
  y : w2.cell? ⟨py, oy + 1, none⟩ = some (.slice (some ⟨b1, 0, none⟩) 1 c1)
  D : ∃ nz, Ci w2 d 0 nz (.slice none 0 0)
  R : ∃ nr, Ci w2 r 0 nr (.slice none 0 0)
  ne : d ≠ r ∧ d ≠ p ∧ d ≠ py ∧ r ≠ p ∧ r ≠ py
theorem QrM.x1 {w w2 : World} {d p ox py oy r X b n c b1 c1 : Nat} {v : Value} (h : QrM w w2 d p ox py oy r X b n c v b1 c1) (u : Value) : (w2.setCell ⟨d, 1, none⟩ u).cell? ⟨p, ox + 1, none⟩ = some v := by
  rw [cell_set_ne _ _ _ _ _ _ (by have := h.ne; omega)]; exact h.x
theorem QrM.y1 {w w2 : World} {d p ox py oy r X b n c b1 c1 : Nat} {v : Value} (h : QrM w w2 d p ox py oy r X b n c v b1 c1) (u : Value) : (w2.setCell ⟨d, 1, none⟩ u).cell? ⟨py, oy + 1, none⟩ = some (.slice (some ⟨b1, 0, none⟩) 1 c1) := by
  rw [cell_set_ne _ _ _ _ _ _ (by have := h.ne; omega)]; exact h.y
theorem QrM.y2 {w w2 : World} {d p ox py oy r X b n c b1 c1 : Nat} {v : Value} (h : QrM w w2 d p ox py oy r X b n c v b1 c1) (u u2 : Value) : ((w2.setCell ⟨d, 1, none⟩ u).setCell ⟨r, 1, none⟩ u2).cell? ⟨py, oy + 1, none⟩ = some (.slice (some ⟨b1, 0, none⟩) 1 c1) := by
  rw [cell_set_ne _ _ _ _ _ _ (by have := h.ne; omega)]; exact h.y1 u
theorem QrM.fzd {w w2 : World} {d p ox py oy r X b n c b1 c1 : Nat} {v : Value} (h : QrM w w2 d p ox py oy r X b n c v b1 c1) : w2.frozen? ⟨d, 1, none⟩ = false := by
  obtain ⟨_, hD⟩ := h.D; exact hD.fz 1
theorem QrM.cd {w w2 : World} {d p ox py oy r X b n c b1 c1 : Nat} {v : Value} (h : QrM w w2 d p ox py oy r X b n c v b1 c1) : w2.cell? ⟨d, 1, none⟩ = some (.slice none 0 0) := by
  obtain ⟨_, hD⟩ := h.D; exact hD.c1
theorem QrM.fzr {w w2 : World} {d p ox py oy r X b n c b1 c1 : Nat} {v : Value} (h : QrM w w2 d p ox py oy r X b n c v b1 c1) (u : Value) : (w2.setCell ⟨d, 1, none⟩ u).frozen? ⟨r, 1, none⟩ = false := by
  obtain ⟨_, hR⟩ := h.R; exact two_fz hR d u
theorem QrM.cr {w w2 : World} {d p ox py oy r X b n c b1 c1 : Nat} {v : Value} (h : QrM w w2 d p ox py oy r X b n c v b1 c1) (u : Value) : (w2.setCell ⟨d, 1, none⟩ u).cell? ⟨r, 1, none⟩ = some (.slice none 0 0) := by
  obtain ⟨_, hR⟩ := h.R; exact two_c1 hR d u h.ne.1
structure QrN (w wx : World) (d p ox py oy r X : Nat) (nx : Bool) (v u : Value) (b n c : Nat) : Prop where
  D : ∃ nz, Ci wx d 0 nz (.slice (some ⟨b, 0, none⟩) n c)
  A : ∀ w3, Fr wx w3 (fun k _ => k = d ∨ k = r) → Abs w3 (.slice (some ⟨b, 0, none⟩) n c) X
  n1 : 1 ≤ n
  N : w.heap.size ≤ b
  R : ∃ nr, Ci wx r 0 nr (.slice none 0 0)
  x : Ci wx p ox nx v
  y : Ci wx py oy false u
  F : Fr w wx (fun k _ => k = d ∨ k = r)
  ne : d ≠ r ∧ d ≠ p ∧ d ≠ py ∧ r ≠ p ∧ r ≠ py
theorem QrM.mid {w w2 : World} {d p ox py oy r X b n c b1 c1 : Nat} {nx : Bool} {v : Value} (h : QrM w w2 d p ox py oy r X b n c v b1 c1) (hx : Ci w p ox nx v) (hy : Ci w py oy false (.slice (some ⟨b1, 0, none⟩) 1 c1)) (hdw : d < w.heap.size) (hrw : r < w.heap.size) :
    QrN w ((w2.setCell ⟨d, 1, none⟩ (.slice (some ⟨b, 0, none⟩) n c)).setCell ⟨r, 1, none⟩ (.slice none 0 0)) d p ox py oy r X nx v (.slice (some ⟨b1, 0, none⟩) 1 c1) b n c := by
  obtain ⟨nz, hD⟩ := h.D
  obtain ⟨nr, hR⟩ := h.R
  have ne := h.ne
  obtain ⟨g1, g2⟩ := hD.put1 (.slice (some ⟨b, 0, none⟩) n c)
  have r1 := hR.fr g2 (fun e => ne.1 e.1.symm) (fun e => ne.1 e.1.symm)
  obtain ⟨g3, g4⟩ := r1.put1 (.slice none 0 0)
  have d1 := g1.fr g4 (fun e => ne.1 e.1) (fun e => ne.1 e.1)
  have hF : Fr w2 ((w2.setCell ⟨d, 0 + 1, none⟩ (.slice (some ⟨b, 0, none⟩) n c)).setCell ⟨r, 0 + 1, none⟩ (.slice none 0 0)) (fun k _ => k = d ∨ k = r) :=
    (g2.weaken (fun k j _ c => Or.inl c.1)).trans g4 (fun k j _ c => Or.inr c.1)
  have hF0 := h.F.no.trans hF (fun _ _ _ c => c)
  refine ⟨⟨nz, d1⟩, fun w3 h3 => ?_, h.n1, h.N, ⟨nr, g3⟩, hx.fr hF0 (by omega) (by omega), hy.fr hF0 (by omega) (by omega), hF0, ne⟩
  rcases h.A with ⟨e, _⟩ | ⟨b2, k2, c2, e, a1, a2, a3, a4, a5, a6, a7, a8⟩
  · cases e
  · have eb : b2 = b := by injection e with e; injection e with e; injection e with e; exact e.symm
    have hF3 := hF.trans h3 (fun _ _ _ c => c)
    have hN := h.N
    exact Or.inr ⟨b2, k2, c2, e, a1, a2, a3, a4, a5, a6, a7.fr hF3 (fun i _ (c : b2 = d ∨ b2 = r) => by omega), a8.fr hF3⟩
theorem QrN.fin {w wc : World} {d p ox py oy r X b n c : Nat} {nx : Bool} {v u : Value} (h : QrN w wc d p ox py oy r X nx v u b n c) :
    QrO w ((wc.setCell ⟨d, 0, none⟩ (.bool nx)).setCell ⟨r, 0, none⟩ (.bool false)).drew d r b n c X nx := by
  obtain ⟨nz, hD⟩ := h.D
  obtain ⟨nr, hR⟩ := h.R
  have ne := h.ne
  obtain ⟨g1, g2⟩ := hD.put nx
  have r1 := hR.fr g2 (fun e => ne.1 e.1.symm) (fun e => ne.1 e.1.symm)
  obtain ⟨g3, g4⟩ := r1.put false
  have d1 := g1.fr g4 (fun e => ne.1 e.1) (fun e => ne.1 e.1)
  have hF : Fr wc ((wc.setCell ⟨d, 0, none⟩ (.bool nx)).setCell ⟨r, 0, none⟩ (.bool false)) (fun k _ => k = d ∨ k = r) :=
    (g2.weaken (fun k j _ c => Or.inl c.1)).trans g4 (fun k j _ c => Or.inr c.1)
  have hd := (Fr.refl ((wc.setCell ⟨d, 0, none⟩ (.bool nx)).setCell ⟨r, 0, none⟩ (.bool false)) No).drew
  exact ⟨d1.fr hd (fun c => c) (fun c => c), (h.A _ hF).no hd, g3.fr hd (fun c => c) (fun c => c), h.N, (h.F.trans hF (fun _ _ _ c => c)).trans hd (fun _ _ _ c => c.elim)⟩
set_option maxRecDepth 100000 in
set_option maxHeartbeats 8000000 in
theorem quoRem_c (d p ox py oy r X b1 c1 : Nat) (nz nx nr : Bool) (v : Value) (w : World) (hd : Ci w d 0 nz (.slice none 0 0)) (hx : Ci w p ox nx v) (hv : Abs w v X) (hX : 1 ≤ X)
    (hy : Ci w py oy false (.slice (some ⟨b1, 0, none⟩) 1 c1)) (h1 : w.cell? ⟨b1, 0, none⟩ = some (.int .u64 1)) (hr : Ci w r 0 nr (.slice none 0 0)) (ne : d ≠ r ∧ d ≠ p ∧ d ≠ py ∧ r ≠ p ∧ r ≠ py) :
    Calls Tryz.prog 127 #[.pointer (some ⟨d, 0, none⟩), .pointer (some ⟨p, ox, none⟩), .pointer (some ⟨py, oy, none⟩), .pointer (some ⟨r, 0, none⟩)] w fun e w' => ∃ b n c, e = .returned (.tuple #[.pointer (some ⟨d, 0, none⟩), .pointer (some ⟨r, 0, none⟩)]) ∧ QrO w w' d r b n c X nx := by
  have K : Hid (∀ (wx : World), Fr w wx No → Calls Tryz.prog 137 #[.slice none 0 0, .pointer none, .slice none 0 0, v, .slice (some ⟨b1, 0, none⟩) 1 c1] wx fun e w2 => ∃ b n c, e = .returned (.tuple #[.slice (some ⟨b, 0, none⟩) n c, .slice none 0 0]) ∧ QrM w w2 d p ox py oy r X b n c v b1 c1) := Lib.hid (fun wx hf => (div1_c v X b1 c1 wx (hv.no hf) hX (hf.keep h1 (fun c => c))).mono (by
    rintro e w2 ⟨b, n, c, rfl, h⟩
    have hF := hf.trans h.out.2.2.2 (fun _ _ _ c => c)
    exact ⟨b, n, c, rfl, ⟨h.out.1, h.out.2.1, Nat.le_trans hf.size h.out.2.2.1, hF, (hx.fr hF (fun c => c) (fun c => c)).c1, (hy.fr hF (fun c => c) (fun c => c)).c1, ⟨nz, hd.fr hF (fun c => c) (fun c => c)⟩, ⟨nr, hr.fr hF (fun c => c) (fun c => c)⟩, ne⟩⟩))
  have a1 := hd.c1
  have a2 := hx.c1
  have a3 := hy.c1
  have a4 := hr.c1
  have KH := Lib.hid (And.intro hd (And.intro hx (And.intro hy hr)))
  have KE := Lib.hid ne
  clear hd hx hy hr hv h1 ne
  go_enter Tryz.func127, Tryz.ntmps127
  go_upto_region 1 with fail
  go_cut [8] (fun s8 wx => s8 = .pointer none ∧ ∃ b n c, Hid (QrN w wx d p ox py oy r X nx v (.slice (some ⟨b1, 0, none⟩) 1 c1) b n c))
  case first =>
    go_region_with (first | (go_at_call 137; refine (K.out _ (by first | exact (Fr.refl _ _).drew | exact Fr.refl _ _)).mono ?_; rintro e w2 ⟨b, n, c, rfl, HQ⟩; have fzd := HQ.fzd; have cd := HQ.cd; have fzr := HQ.fzr; have cr := HQ.cr))
    all_goals
      have KM := Lib.hid (HQ.mid KH.out.2.1 KH.out.2.2.1 KH.out.1.lt KH.out.2.2.2.lt)
      go_wp2_with fail
      go_meet
      case rel => exact ⟨rfl, b, n, c, KM⟩
  case rest =>
    obtain ⟨rfl, b, n, c, KM⟩ := hcut
    clear K KH KE a1 a2 a3 a4
    obtain ⟨nz', hD⟩ := KM.out.D
    obtain ⟨nr', hR⟩ := KM.out.R
    have n1 := KM.out.n1
    have ne := KM.out.ne
    have d1 := hD.c1
    have d0 := hD.c0
    have fd := hD.fz 0
    have x0 := KM.out.x.c0
    have y0 := KM.out.y.c0
    have r1 := hR.c1
    have fr : ∀ u, (wc.setCell ⟨d, 0, none⟩ u).frozen? ⟨r, 0, none⟩ = false := fun u => two_fz0 hR d u
    have cr : ∀ u, (wc.setCell ⟨d, 0, none⟩ u).cell? ⟨r, 0, none⟩ = some (.bool nr') := fun u => two_c0 hR d u ne.1
    have p1 : 0 < n := n1
    have p2 : (0 : Int) < (n : Int) := by omega
    clear hD hR n1 ne
    go_upto_region 2 with fail
    go_region
    all_goals
      have KF := Lib.hid KM.out.fin
      clear d1 d0 fd x0 y0 r1 fr cr
      go_wp2_with fail
      go_returns
      exact ⟨b, n, c, rfl, KF.out⟩
set_option maxRecDepth 100000 in
theorem euclid_c (d p ox py oy r X b1 c1 : Nat) (nz nx nr : Bool) (v : Value) (w : World) (hd : Ci w d 0 nz (.slice none 0 0)) (hx : Ci w p ox nx v) (hv : Abs w v X) (hX : 1 ≤ X)
    (hy : Ci w py oy false (.slice (some ⟨b1, 0, none⟩) 1 c1)) (h1 : w.cell? ⟨b1, 0, none⟩ = some (.int .u64 1)) (hr : Ci w r 0 nr (.slice none 0 0)) (ne : d ≠ r ∧ d ≠ p ∧ d ≠ py ∧ r ≠ p ∧ r ≠ py) :
    Calls Tryz.prog 170 #[.pointer (some ⟨p, ox, none⟩), .pointer (some ⟨py, oy, none⟩), .pointer none, .pointer none, .pointer (some ⟨d, 0, none⟩), .pointer (some ⟨r, 0, none⟩), .bool false] w fun e w' => ∃ b n c, e = .returned (.tuple #[.pointer (some ⟨py, oy, none⟩), .pointer (some ⟨r, 0, none⟩), .pointer (some ⟨p, ox, none⟩), .pointer none, .pointer none]) ∧ QrO w w' d r b n c X nx := by
  have K := Lib.hid (quoRem_c d p ox py oy r X b1 c1 nz nx nr v w hd hx hv hX hy h1 hr ne)
  clear hd hx hv hy h1 hr
  go_enter Tryz.func170, Tryz.ntmps170
  go_wp2_with fail
  with_reducible refine K.out.mono ?_
  rintro e w2 ⟨b, n, c, rfl, HQ⟩
  have KQ := Lib.hid HQ
  clear HQ
  go_wp2_with fail
  go_returns
  exact ⟨b, n, c, rfl, KQ.out⟩
set_option maxRecDepth 100000 in
theorem div_c (d p ox py oy X b1 c1 : Nat) (nz nx : Bool) (v : Value) (w : World) (hd : Ci w d 0 nz (.slice none 0 0)) (hx : Ci w p ox nx v) (hv : Abs w v X) (hX : 1 ≤ X)
    (hy : Ci w py oy false (.slice (some ⟨b1, 0, none⟩) 1 c1)) (h1 : w.cell? ⟨b1, 0, none⟩ = some (.int .u64 1)) (ne : d ≠ p ∧ d ≠ py) :
    Calls Tryz.prog 117 #[.pointer (some ⟨d, 0, none⟩), .pointer (some ⟨p, ox, none⟩), .pointer (some ⟨py, oy, none⟩)] w fun e w' => ∃ b n c, e = .returned (.pointer (some ⟨d, 0, none⟩)) ∧ Ci w' d 0 nx (.slice (some ⟨b, 0, none⟩) n c) ∧ Abs w' (.slice (some ⟨b, 0, none⟩) n c) X ∧ w.heap.size ≤ b ∧ Fr w w' (fun k _ => k = d) := by
  have hA := new40 w #[.bool false, .slice none 0 0] 103
  have hz := ni_zeroC w
  have hdw := hd.lt
  have hpw := hx.lt
  have hqw := hy.lt
  have K := Lib.hid (quoRem_c d p ox py oy w.heap.size X b1 c1 nz nx false v _ (hd.fr hA (fun c => c) (fun c => c)) (hx.fr hA (fun c => c) (fun c => c)) (hv.no hA) hX (hy.fr hA (fun c => c) (fun c => c)) (hA.keep h1 (fun c => c)) hz ⟨by omega, ne.1, ne.2, by omega, by omega⟩)
  have y0 := hy.c0
  have KA := Lib.hid hA
  clear hd hx hv hy h1 hA hz
  go_enter Tryz.func117, Tryz.ntmps117
  go_wp2_with fail
  with_reducible refine K.out.mono ?_
  rintro e w2 ⟨b, n, c, rfl, HQ⟩
  have r0 := HQ.R.c0
  have KQ := Lib.hid HQ
  clear HQ
  go_wp2_with fail
  go_returns
  exact ⟨b, n, c, rfl, KQ.out.D, KQ.out.A, Nat.le_trans (Nat.le_of_lt (by simp)) KQ.out.N, (KA.out.no (S := fun k _ => k = d)).trans KQ.out.F (fun k j hk c => by have c' : k = d ∨ k = w.heap.size := c; show k = d; omega)⟩
end Go.Proofs.YtldejfallphhbaaGreatDoor
