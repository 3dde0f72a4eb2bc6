/-
  A part of the proof of FnMathWhole (packed out of smaller texts by a program of this session; what the proof does not reach is left out).
-/
import Derived.Test.YtldejfallphhbaaGreatDoorZj
import Derived.BigRegion
import Derived.BigQuiet
namespace Go.Proofs.YtldejfallphhbaaGreatDoor
set_option linter.unusedVariables false
open Go.RowKit
theorem copy_one (b m z N c : Nat) (w : World) (hB : Blk w b N) (hN : 1 ≤ N) (hz : w.cell? ⟨b, m, none⟩ = some (.int .u64 (z : Int))) (ty : TypeId) (cx : Nat) :
    (Builtin.copy_ #[101, 101] ty #[.slice (some ⟨b, 0, none⟩) (m + 1) c, .slice (some ⟨b, m, none⟩) 1 cx]).run Tryz.prog w = .ok (.int .i64 1) (w.setCell ⟨b, 0, none⟩ (.int .u64 (z : Int))) := by
  have hs : (Tryz.prog.info? 143).map (·.size) = some 1 := by kernel_rfl
  have h := run_copy_cells (P := Tryz.prog) w 101 101 ty 143 b 0 (m + 1) c ⟨b, m, none⟩ 1 cx [.int .u64 (z : Int)] Tryz.underlying101 hs (by show 1 = Nat.min 1 (m + 1); exact (Nat.min_eq_left (by omega)).symm)
    (fun j v hv => by
      have hj : j = 0 := by
        have := (List.getElem?_eq_some_iff.1 hv).1
        simpa using this
      subst hj
      have e : v = .int .u64 (z : Int) := by simpa using hv.symm
      subst e
      exact hz)
    (fun j hj => by
      obtain ⟨v, hv⟩ := hB.here (0 + j) (by simp at hj; omega)
      rw [hv]; rfl)
    (fun j hj => hB.fz _)
    (fun v hv => by simp at hv; subst hv; rfl)
  exact h
structure RB (w w' : World) (p : Nat) (ng : Bool) (ex : Int) (b c z N : Nat) : Prop where
  F : FS w' p 53 0 1 ng (.slice (some ⟨b, 0, none⟩) 1 c) ex
  z : w'.cell? ⟨b, 0, none⟩ = some (.int .u64 (z : Int))
  B : Blk w' b N
  f : Fr w w' (fun k _ => k = p ∨ k = b)
set_option maxRecDepth 100000 in
set_option maxHeartbeats 1000000 in
theorem round_b (p m c b z N : Nat) (acc : Int) (ng : Bool) (ex : Int) (w : World) (h : FS w p 53 acc 1 ng (.slice (some ⟨b, 0, none⟩) (m + 1) c) ex) (hn1 : 1 ≤ m) (hn : m ≤ 39) (hnc : m + 1 ≤ c) (hb : Blk w b N) (hN : m + 1 ≤ N) (hne : p ≠ b) (hlo : ∀ j, j < m → w.cell? ⟨b, j, none⟩ = some (.int .u64 0)) (hz : w.cell? ⟨b, m, none⟩ = some (.int .u64 (z : Int))) (hzl : z < 18446744073709551616) (hz0 : z % 2048 = 0) :
    Calls Tryz.prog 292 #[.pointer (some ⟨p, 0, none⟩), .int .u64 0] w fun e w' => e = .returned (.tuple #[]) ∧ RB w w' p ng ex b c z N := by
  have h1 := h.put2 0
  have hF : Fr w (w.setCell ⟨p, 2, none⟩ (.int .i8 0)) (fun k j => k = p ∧ j = 2) := FS.put 2 _
  have hb1 := hb.fr hF
  have dz := hF.keep hz (by omega)
  have dlo : ∀ j, j < m → (w.setCell ⟨p, 2, none⟩ (.int .i8 0)).cell? ⟨b, j, none⟩ = some (.int .u64 0) := fun j hj => hF.keep (hlo j hj) (by omega)
  have hFd : Fr w (w.setCell ⟨p, 2, none⟩ (.int .i8 0)).drew (fun k j => k = p ∧ j = 2) := hF.drew
  have hd : Fr (w.setCell ⟨p, 2, none⟩ (.int .i8 0)) (w.setCell ⟨p, 2, none⟩ (.int .i8 0)).drew No := (Fr.refl _ _).drew
  have h2 := h1.fr hd (fun _ c => c)
  have hb2 := hb.fr hFd
  have kc := copy_one b m z N c _ hb2 (by omega) (hFd.keep hz (by omega))
  have hg : Fr (w.setCell ⟨p, 2, none⟩ (.int .i8 0)).drew ((w.setCell ⟨p, 2, none⟩ (.int .i8 0)).drew.setCell ⟨b, 0, none⟩ (.int .u64 (z : Int))) (Al b) := (Fr.refl _ (Al b)).set b 0 _ (fun _ => rfl)
  have kz := hb2.get 0 (by omega) (.int .u64 (z : Int))
  generalize (w.setCell ⟨p, 2, none⟩ (.int .i8 0)).drew.setCell ⟨b, 0, none⟩ (.int .u64 (z : Int)) = W2 at *
  have hF2 : Fr w W2 (fun k _ => k = p ∨ k = b) := (hFd.weaken (fun k j _ c => Or.inl c.1)).trans hg (fun k j _ c => Or.inr c)
  have h3 := h2.fr hg (fun _ (c : p = b) => hne c)
  have h4 := h3.put5 (.slice (some ⟨b, 0, none⟩) 1 c)
  have hg2 : Fr W2 (W2.setCell ⟨p, 5, none⟩ (.slice (some ⟨b, 0, none⟩) 1 c)) (fun k j => k = p ∧ j = 5) := FS.put 5 _
  have hb3 := (hb2.fr hg).fr hg2
  have hg3 : Fr (W2.setCell ⟨p, 5, none⟩ (.slice (some ⟨b, 0, none⟩) 1 c)) ((W2.setCell ⟨p, 5, none⟩ (.slice (some ⟨b, 0, none⟩) 1 c)).setCell ⟨b, 0, none⟩ (.int .u64 (z : Int))) (Al b) := (Fr.refl _ (Al b)).set b 0 _ (fun _ => rfl)
  have KR : Hid (RB w ((W2.setCell ⟨p, 5, none⟩ (.slice (some ⟨b, 0, none⟩) 1 c)).setCell ⟨b, 0, none⟩ (.int .u64 (z : Int))) p ng ex b c z N) := Lib.hid ⟨h4.fr hg3 (fun _ (c : p = b) => hne c), hb3.get 0 (by omega) _, hb3.fr hg3, (hF2.trans hg2 (fun k j _ c => Or.inl c.1)).trans hg3 (fun k j _ c => Or.inr c)⟩
  have KE := Lib.hid (And.intro h2.c5 (And.intro h3.c5 (And.intro (h3.B.fz 5) (And.intro h4.c0 (And.intro h4.c5 (And.intro (hb3.fz 0) (hg2.keep kz (by omega))))))))
  have KC := Lib.hid kc
  have fz := h.B.fz 2
  have c2 := h.c2
  have d0 := h1.c0
  have d1 := h1.c1
  have d3 := h1.c3
  have d5 := h1.c5
  obtain ⟨i, hi⟩ : ∃ i, i = 64 * m + 10 := ⟨_, rfl⟩
  have hi64 : i / 64 = m := by omega
  have hi64' : i % 64 = 10 := by omega
  have KB := Lib.hid (bit_c b (m + 1) c i m z (w.setCell ⟨p, 2, none⟩ (.int .i8 0)) (by omega) (by omega) hi64 dz hzl (by rw [hi64']; omega))
  have KS := Lib.hid (sticky_c b (m + 1) c i m z (w.setCell ⟨p, 2, none⟩ (.int .i8 0)) (by omega) hnc (by omega) hi64 dlo dz (by rw [hi64']; omega))
  have KA := Lib.hid (andNot_low z 11 (by omega) hzl)
  rw [show z / 2 ^ 11 * 2 ^ 11 = z from by omega] at KA
  obtain ⟨T, hT⟩ : ∃ T, T = 64 * (m + 1) := ⟨_, rfl⟩
  have q1 : ((m : Int) + 1) * 64 = (T : Int) := by omega
  have q2 : ¬ (T : Int) ≤ 53 := by omega
  obtain ⟨D, hD⟩ : ∃ D, D = T - 53 := ⟨_, rfl⟩
  have q3 : (T : Int) - 53 = (D : Int) := by omega
  have q4 : (D : Int) - 1 = (i : Int) := by omega
  have q6 : T ≤ 3000 := by omega
  have q7 : D ≤ 3000 := by omega
  have qa : i ≤ 3000 := by omega
  have qb : (1 : Int) < (m : Int) + 1 := by omega
  have KN := Lib.hid hne
  have hm32 : IntKind.u32.wrap (m : Int) = (m : Int) := by rw [IntKind.wrap_u32]; omega
  clear h1 h2 h3 h4 hd hFd hb2 hg hg2 hb3 hg3 hF2 kc kz
  clear h hF hb1 hb hi hi64 hi64' hz0 hD hT hz hlo dlo
  go_enter Tryz.func292, Tryz.ntmps292
  go_wp2_with fail
  with_reducible refine KB.out.mono ?_
  rintro e w' ⟨rfl, rfl⟩
  go_wp2_with fail
  with_reducible refine KS.out.mono ?_
  rintro e w' ⟨rfl, rfl⟩
  have ka : bits .andNot .u64 (z : Int) 2047 = (z : Int) := KA.out
  have kc := KC.out
  obtain ⟨g1, g2, g3, g4, g5, g6, g7⟩ := KE.out
  have qc : m ≤ m + 1 := by omega
  have qd : m + 1 - m = 1 := by omega
  have qe : m ≤ c := by omega
  go_upto_region 12 with fail
  go_region
  all_goals
    go_wp2_with fail
    go_returns
    exact ⟨rfl, KR.out⟩
end Go.Proofs.YtldejfallphhbaaGreatDoor
namespace Go.Proofs.YtldejfallphhbaaGreatDoor
set_option linter.unusedVariables false
open Go.RowKit
set_option maxRecDepth 100000 in
theorem setExp_c (p L : Nat) (prec acc form : Int) (ng : Bool) (m : Value) (ex : Int) (w : World) (Q : World → Prop) (h : FS w p prec acc form ng m ex) (hL : L ≤ 3000) (hK : Calls Tryz.prog 292 #[.pointer (some ⟨p, 0, none⟩), .int .u64 0] ((w.setCell ⟨p, 3, none⟩ (.int .u8 1)).setCell ⟨p, 6, none⟩ (.int .i32 (L : Int))) fun e w' => e = .returned (.tuple #[]) ∧ Q w') :
    Calls Tryz.prog 287 #[.pointer (some ⟨p, 0, none⟩), .int .i64 (L : Int), .int .u64 0] w fun e w' => e = .returned (.tuple #[]) ∧ Q w' := by
  have K := Lib.hid hK
  have h1 := h.put3 1
  have fz := h.B.fz 3
  have c3 := h.c3
  have d6 := h1.c6
  have fz6 := h1.B.fz 6
  have q1 : ¬ (L : Int) < -2147483648 := by omega
  clear h h1 hK
  go_enter Tryz.func287, Tryz.ntmps287
  go_wp2_with fail
  with_reducible refine K.out.mono ?_
  rintro e w2 ⟨rfl, hq⟩
  go_wp2_with fail
  go_returns
  exact ⟨rfl, hq⟩
structure SetF (w w2 : World) (b n c X : Nat) : Prop where
  F : Fr w w2 No
  nc : n ≤ c ∧ c ≤ 4000
  A : Ws w2 b 0 n X
  B : Blk w2 b c
  N : w.heap.size ≤ b
theorem setF_c (bx n cx X : Nat) (w : World) (hn : 1 ≤ n) (hn1 : n ≤ 1000) (hX : Ws w bx 0 n X) :
    Calls Tryz.prog 108 #[.slice none 0 0, .slice (some ⟨bx, 0, none⟩) n cx] w fun e w2 => ∃ b c, e = .returned (.slice (some ⟨b, 0, none⟩) n c) ∧ SetF w w2 b n c X := by
  refine (set_c (.slice none 0 0) 0 bx 0 n cx X hn hn1 w (Or.inl rfl) hX (fun h => absurd rfl h)).mono ?_
  rintro e w2 ⟨b2, c2, rfl, g1, g2, g3, g4, g5, g6⟩
  refine ⟨b2, c2, rfl, g6.weaken (S2 := No) (fun _ _ _ c => c.2 rfl), ⟨g1, g2⟩, g5, g4, ?_⟩
  rcases g3 with ⟨_, h⟩ | ⟨h, _⟩
  · exact absurd rfl h
  · exact h
theorem SetF.drew {w w2 : World} {b n c X : Nat} (h : SetF w.drew w2 b n c X) : SetF w w2 b n c X := ⟨((Fr.refl w No).drew).trans h.F (fun _ _ _ c => c), h.nc, h.A, h.B, h.N⟩
structure SetG (w w3 : World) (p : Nat) (prec acc form : Int) (ng : Bool) (ex : Int) (b n c X : Nat) : Prop where
  P : FS w3 p prec acc form ng (.slice (some ⟨b, 0, none⟩) n c) ex
  F : Fr w w3 (fun k _ => k = p)
  nc : n ≤ c ∧ c ≤ 4000
  A : Ws w3 b 0 n X
  B : Blk w3 b c
  N : w.heap.size ≤ b
theorem SetF.put {w w2 w3 : World} {p : Nat} {prec acc form : Int} {ng : Bool} {m : Value} {ex : Int} {b n c X : Nat} (h : SetF w w2 b n c X) (hp : FS w p prec acc form ng m ex) (h0 : Fr w2 w3 No) : SetG w (w3.setCell ⟨p, 5, none⟩ (.slice (some ⟨b, 0, none⟩) n c)) p prec acc form ng ex b n c X := by
  have hp3 := hp.fr (h.F.trans h0 (fun _ _ _ c => c)) (fun _ c => c)
  have f5 : Fr w3 (w3.setCell ⟨p, 5, none⟩ (.slice (some ⟨b, 0, none⟩) n c)) (fun k j => k = p ∧ j = 5) := FS.put 5 _
  have hlt := hp.B.lt
  have hN := h.N
  exact ⟨hp3.put5 _, ((h.F.trans h0 (fun _ _ _ c => c)).no).trans f5 (fun k j _ c => c.1), h.nc, (h.A.fr h0 (fun _ _ c => c)).fr f5 (fun i _ c => by omega), (h.B.fr h0).fr f5, hN⟩
theorem setF2 {p : Nat} {prec acc form : Int} {ng : Bool} {m : Value} {ex : Int} (bx n cx X : Nat) (w : World) (hp : FS w p prec acc form ng m ex) (hn : 1 ≤ n) (hn1 : n ≤ 1000) (hX : Ws w bx 0 n X) :
    Calls Tryz.prog 108 #[.slice none 0 0, .slice (some ⟨bx, 0, none⟩) n cx] w.drew fun e w2 => ∃ b c, e = .returned (.slice (some ⟨b, 0, none⟩) n c) ∧ SetF w w2 b n c X ∧ w2.frozen? ⟨p, 5, none⟩ = false ∧ w2.cell? ⟨p, 5, none⟩ = some m := by
  refine (setF_c bx n cx X w.drew hn hn1 (hX.fr ((Fr.refl w No).drew) (fun _ _ c => c))).mono ?_
  rintro e w2 ⟨b, c, rfl, HH⟩
  have h2 := hp.fr HH.drew.F (fun _ c => c)
  exact ⟨b, c, rfl, HH.drew, h2.B.fz 5, h2.c5⟩
structure SetE (w w' : World) (p L n ml : Nat) (ng : Bool) (M b c : Nat) : Prop where
  P : FS w' p (ml : Int) 0 1 ng (.slice (some ⟨b, 0, none⟩) n c) (L : Int)
  A : Ws w' b 0 n M
  B : Blk w' b c
  F : Fr w w' (fun k _ => k = p ∨ k = b)
theorem setExp2_c (p L n b c ml M s : Nat) (ng : Bool) (ex : Int) (w : World) (h : FS w p (ml : Int) 0 0 ng (.slice (some ⟨b, 0, none⟩) n c) ex) (hA : Ws w b 0 n M) (hB : Blk w b c) (hn : 1 ≤ n) (hn1 : n ≤ 40) (hnc : n ≤ c) (hne : p ≠ b) (hml : max L 64 = ml) (hL : 64 * (n - 1) < L) (hs : L + s = 64 * n) (hM : wd M 0 % 2 ^ s = 0) :
    Calls Tryz.prog 287 #[.pointer (some ⟨p, 0, none⟩), .int .i64 (L : Int), .int .u64 0] w fun e w' => e = .returned (.tuple #[]) ∧ SetE w w' p L n ml ng M b c := by
  have h1 := (h.put3 1).put6 (L : Int)
  have hF1 : Fr w (w.setCell ⟨p, 3, none⟩ (.int .u8 1)) (fun k _ => k = p ∨ k = b) := (FS.put 3 _).weaken (fun k j _ c => Or.inl c.1)
  have hF2 : Fr (w.setCell ⟨p, 3, none⟩ (.int .u8 1)) ((w.setCell ⟨p, 3, none⟩ (.int .u8 1)).setCell ⟨p, 6, none⟩ (.int .i32 (L : Int))) (fun k _ => k = p) := (FS.put 6 _).weaken (fun k j _ c => c.1)
  have hF := hF1.trans hF2 (fun k j _ c => Or.inl c)
  have hA1 := (hA.fr (FS.put (w := w) (p := p) 3 (.int .u8 1)) (fun i _ c => hne c.1.symm)).fr hF2 (fun i _ c => hne c.symm)
  have hB1 := hB.fr hF
  refine setExp_c p L (ml : Int) 0 0 ng _ ex w (fun w' => SetE w w' p L n ml ng M b c) h (by omega) ?_
  generalize (w.setCell ⟨p, 3, none⟩ (.int .u8 1)).setCell ⟨p, 6, none⟩ (.int .i32 (L : Int)) = w1 at *
  by_cases hc : 64 * n ≤ ml
  · refine (round_le p n c ml b 0 ng (L : Int) w1 h1 (by omega) hc (by omega)).mono ?_
    rintro e w' ⟨rfl, rfl⟩
    have f2 : Fr w1 (w1.setCell ⟨p, 2, none⟩ (.int .i8 0)) (fun k _ => k = p) := (FS.put 2 _).weaken (fun k j _ c => c.1)
    exact ⟨rfl, h1.put2 0, hA1.fr f2 (fun i _ c => hne c.symm), hB1.fr f2, hF.trans f2 (fun k j _ c => Or.inl c)⟩
  · have hs1 : 1 ≤ s := by omega
    have hml2 : ml = L := by omega
    refine (round_a p n c ml b (wd M 0) c s 0 ng (L : Int) w1 h1 hn hn1 hnc (by omega) hs1 (by omega) hB1 (by omega) hne (by have := hA1 0 (by omega); simpa using this) (wd_lt M 0) hM).mono ?_
    rintro e w' ⟨rfl, rfl⟩
    have f2 : Fr w1 (w1.setCell ⟨p, 2, none⟩ (.int .i8 0)) (fun k _ => k = p) := (FS.put 2 _).weaken (fun k j _ c => c.1)
    have f3 : Fr (w1.setCell ⟨p, 2, none⟩ (.int .i8 0)) ((w1.setCell ⟨p, 2, none⟩ (.int .i8 0)).setCell ⟨b, 0, none⟩ (.int .u64 ((wd M 0 : Nat) : Int))) (fun k j => k = b ∧ j = 0) := FS.put 0 _
    have hA2 := hA1.fr f2 (fun i _ c => hne c.symm)
    have hB2 := hB1.fr f2
    refine ⟨rfl, (h1.put2 0).fr f3 (fun j c => hne c.1), ?_, hB2.fr f3, (hF.trans f2 (fun k j _ c => Or.inl c)).trans f3 (fun k j _ c => Or.inr c.1)⟩
    intro i hi
    by_cases h0 : i = 0
    · subst h0
      exact hB2.get 0 (by omega) _
    · exact f3.keep (hA2 i hi) (fun c => h0 (by have := c.2; omega))
end Go.Proofs.YtldejfallphhbaaGreatDoor
namespace Go.Proofs.YtldejfallphhbaaGreatDoor
set_option linter.unusedVariables false
open Go.RowKit
structure SetI (w w' : World) (p L n s ml : Nat) (ng : Bool) (X b c : Nat) : Prop where
  P : FS w' p (ml : Int) 0 1 ng (.slice (some ⟨b, 0, none⟩) n c) (L : Int)
  F : Fr w w' (fun k _ => k = p)
  nc : n ≤ c ∧ c ≤ 4000
  A : Ws w' b 0 n (X * 2 ^ s)
  B : Blk w' b c
  N : w.heap.size ≤ b
set_option maxRecDepth 100000 in
set_option maxHeartbeats 1000000 in
theorem setInt_c (p q X L n bx cx s ml : Nat) (ng : Bool) (w : World) (h : FS w p 0 0 0 false (.slice none 0 0) 0) (hq : Bi w q ng (.slice (some ⟨bx, 0, none⟩) n cx)) (hn : 1 ≤ n) (hn1 : n ≤ 40) (hX : Ws w bx 0 n X) (hBl : Calls Tryz.prog 109 #[.pointer (some ⟨q, 0, none⟩)] w fun e w' => e = .returned (.int .i64 (L : Int)) ∧ w' = w) (hml : max L 64 = ml) (hL : L ≤ 3000) (hne : p ≠ q) (hpb : p ≠ bx)
    (hN : Nrm X n) (h1 : 2 ^ (L - 1) ≤ X) (h2 : X < 2 ^ L) (hL2 : 64 * (n - 1) < L) (hs : L + s = 64 * n) :
    Calls Tryz.prog 284 #[.pointer (some ⟨p, 0, none⟩), .pointer (some ⟨q, 0, none⟩)] w fun e w' => ∃ b c, e = .returned (.pointer (some ⟨p, 0, none⟩)) ∧ Hid (SetI w w' p L n s ml ng X b c) := by
  have fz0 := h.B.fz 0
  have fz2 := h.B.fz 2
  have fz4 := h.B.fz 4
  have c0 := h.c0
  have c2 := h.c2
  have c4 := h.c4
  have g0 := hq.c0
  have g1 := hq.c1
  have hF1 := (FS.put (w := w) (p := p) 0 (.int .u32 (ml : Int))).weaken (S2 := fun k _ => k = p) (fun k j _ c => c.1)
  have hF2 := (FS.put (w := w.setCell ⟨p, 0, none⟩ (.int .u32 (ml : Int))) (p := p) 2 (.int .i8 0)).weaken (S2 := fun k _ => k = p) (fun k j _ c => c.1)
  have hF3 := (FS.put (w := (w.setCell ⟨p, 0, none⟩ (.int .u32 (ml : Int))).setCell ⟨p, 2, none⟩ (.int .i8 0)) (p := p) 4 (.bool ng)).weaken (S2 := fun k _ => k = p) (fun k j _ c => c.1)
  have hF := (hF1.trans hF2 (fun _ _ _ c => c)).trans hF3 (fun _ _ _ c => c)
  have KW := Lib.hid (And.intro (((h.put0 (ml : Int)).put2 0).put4 ng) (And.intro (hF.keep g1 (fun c => hne c.symm)) (And.intro (hX.fr hF (fun i _ c => hpb c.symm)) hF)))
  have q1 : max (L : Int) 64 = (ml : Int) := by omega
  have qn : ¬ (n : Int) = 0 := by omega
  have qm : ml ≤ 3000 := by omega
  have K := Lib.hid hBl
  have KF := Lib.hid (fun (b c : Nat) (w1 wx : World) (hg : SetG w1 wx p (ml : Int) 0 0 ng 0 b n c X) => fnorm_c b n c c X L s wx hg.B hg.nc.1 hg.A hn hn1 hN h1 h2 hL2 hs)
  have hpl := h.B.lt
  have KM : Hid (wd (X * 2 ^ s) 0 % 2 ^ s = 0) := Lib.hid (by
    unfold wd
    rw [Nat.pow_zero, Nat.div_one, show (18446744073709551616 : Nat) = 2 ^ (64 - s) * 2 ^ s from by rw [← Nat.pow_add, show 64 - s + s = 64 from by omega], Nat.mul_mod_mul_right]
    exact Nat.mul_mod_left _ _)
  have KL := Lib.hid (And.intro hL2 (And.intro hs (And.intro hn (And.intro hn1 (And.intro hml hpl)))))
  clear h hBl hq hF1 hF2 hF3 hF hX hN h1 h2 hL2 hs
  go_enter Tryz.func284, Tryz.ntmps284
  go_wp2_with fail
  with_reducible refine K.out.mono ?_
  rintro e w' ⟨rfl, rfl⟩
  go_upto_region 9 with fail
  obtain ⟨hP, hg, hX, hF⟩ := KW.out
  clear KW K fz0 fz2 fz4 c0 c2 c4 g0 g1
  generalize World.setCell (World.setCell (World.setCell w' _ _) _ _) _ _ = w1 at *
  have fz5 := hP.B.fz 5
  have c5 := hP.c5
  have K := Lib.hid (setF2 bx n cx X w1 hP hn (by omega) hX)
  have KP := Lib.hid hP
  have KW := Lib.hid hF
  clear hP hX hF
  go_cut [4] (fun s4 wx => s4 = .pointer none ∧ ∃ b c, Hid (SetG w1 wx p (ml : Int) 0 0 ng 0 b n c X))
  case first =>
    go_region_with (go_at_call 108; with_reducible refine K.out.mono ?_; rintro e w2 ⟨b, c, rfl, HH, fz, hv0⟩; have KS := Lib.hid HH; clear HH)
    all_goals
      go_wp2_with fail
      go_meet
      case rel =>
        refine ⟨rfl, b, c, Lib.hid ?_⟩
        first
          | exact KS.out.put KP.out (Fr.refl _ _)
          | exact KS.out.put KP.out ((Fr.refl _ _).drew)
          | exact KS.out.put KP.out (((Fr.refl _ _).drew).drew)
  case rest =>
    obtain ⟨rfl, b, c, KG⟩ := hcut
    have c5 := KG.out.P.c5
    have KN := Lib.hid (KF.out b c w1 wc KG.out)
    have KQ : Hid (∀ w4, Fr wc w4 (Rg b 0 n) → Ws w4 b 0 n (X * 2 ^ s) → Calls Tryz.prog 287 #[.pointer (some ⟨p, 0, none⟩), .int .i64 (L : Int), .int .u64 0] w4 fun e wz => e = .returned (.tuple #[]) ∧ SetI w' wz p L n s ml ng X b c) := Lib.hid (fun w4 hr hw => by
      obtain ⟨l1, l2, l3, l4, l5, l6⟩ := KL.out
      have hbn := KG.out.N
      have hsz := KW.out.size
      have hne' : p ≠ b := by omega
      refine (setExp2_c p L n b c ml (X * 2 ^ s) s ng 0 w4 (KG.out.P.fr hr (fun j c => hne' c.1)) hw (KG.out.B.fr hr) l3 l4 KG.out.nc.1 hne' l5 l1 l2 KM.out).mono ?_
      rintro e wz ⟨rfl, hh⟩
      exact ⟨rfl, hh.P, ((KW.out.trans KG.out.F (fun _ _ _ c => c)).trans hr (fun k j hk c => by have : k = b := c.1; omega)).trans hh.F (fun k j hk c => by rcases c with c | c; exact c; omega), KG.out.nc, hh.A, hh.B, Nat.le_trans hsz hbn⟩)
    clear KL KM KF KW KP K fz5 c5 hg
    have c5 := KG.out.P.c5
    go_wp2_with fail
    with_reducible refine KN.out.mono ?_
    rintro e w4 ⟨rfl, hw4, hr4⟩
    have K4 := Lib.hid (KQ.out w4 hr4 hw4)
    clear hw4 hr4
    have q3 : IntKind.i64.wrap (L : Int) = (L : Int) := by rw [IntKind.wrap_i64]; omega
    go_wp2_with fail
    with_reducible refine K4.out.mono ?_
    rintro e w5 ⟨rfl, hI⟩
    have KI := Lib.hid hI
    clear hI
    go_wp2_with fail
    go_returns
    exact ⟨b, c, rfl, KI⟩
end Go.Proofs.YtldejfallphhbaaGreatDoor
namespace Go.Proofs.YtldejfallphhbaaGreatDoor
set_option linter.unusedVariables false
open Go.RowKit
theorem round53 (p n c b z N : Nat) (acc : Int) (ng : Bool) (ex : Int) (w : World) (h : FS w p 53 acc 1 ng (.slice (some ⟨b, 0, none⟩) n c) ex) (hn1 : 1 ≤ n) (hn : n ≤ 40) (hnc : n ≤ c) (hb : Blk w b N) (hN : n ≤ N) (hne : p ≠ b) (hlo : ∀ j, j < n - 1 → w.cell? ⟨b, j, none⟩ = some (.int .u64 0)) (hz : w.cell? ⟨b, n - 1, none⟩ = some (.int .u64 (z : Int))) (hzl : z < 18446744073709551616) (hz0 : z % 2048 = 0) :
    Calls Tryz.prog 292 #[.pointer (some ⟨p, 0, none⟩), .int .u64 0] w fun e w' => e = .returned (.tuple #[]) ∧ RB w w' p ng ex b c z N := by
  by_cases h1 : n = 1
  · subst h1
    refine (round_a p 1 c 53 b z N 11 acc ng ex w h (by omega) (by omega) hnc (by omega) (by omega) (by omega) hb hN hne hz hzl hz0).mono ?_
    rintro e w' ⟨rfl, rfl⟩
    have f2 : Fr w (w.setCell ⟨p, 2, none⟩ (.int .i8 0)) (fun k _ => k = p ∨ k = b) := (FS.put 2 _).weaken (fun k j _ c => Or.inl c.1)
    have f3 : Fr (w.setCell ⟨p, 2, none⟩ (.int .i8 0)) ((w.setCell ⟨p, 2, none⟩ (.int .i8 0)).setCell ⟨b, 0, none⟩ (.int .u64 (z : Int))) (fun k j => k = b ∧ j = 0) := FS.put 0 _
    have hB2 := hb.fr f2
    exact ⟨rfl, (h.put2 0).fr f3 (fun j c => hne c.1), hB2.get 0 (by omega) _, hB2.fr f3, f2.trans f3 (fun k j _ c => Or.inr c.1)⟩
  · obtain ⟨m, rfl⟩ : ∃ m, n = m + 1 := ⟨n - 1, by omega⟩
    rw [Nat.add_sub_cancel] at *
    exact round_b p m c b z N acc ng ex w h (by omega) (by omega) hnc hb hN hne hlo hz hzl hz0
structure SetS (w w' : World) (p L : Nat) (ng : Bool) (b c z : Nat) : Prop where
  P : FS w' p 53 0 1 ng (.slice (some ⟨b, 0, none⟩) 1 c) (L : Int)
  z : w'.cell? ⟨b, 0, none⟩ = some (.int .u64 (z : Int))
  c : 1 ≤ c
  F : Fr w w' (fun k _ => k = p)
theorem info314 : (Tryz.prog.info? 314).map (fun i => i.size) = some 7 := by kernel_rfl
theorem neq310 {p q n1 n2 : Nat} (w : World) (hne : p ≠ q) (hp : Blk w p n1) (hq : Blk w q n2) :
    (binOp .neq 310 (.pointer (some ⟨p, 0, none⟩)) (.pointer (some ⟨q, 0, none⟩))).run Tryz.prog w = .ok (.bool true) w := by
  obtain ⟨ax, tx, hx1, _⟩ := hp
  obtain ⟨ay, ty, hy1, _⟩ := hq
  obtain ⟨j, hte⟩ : ∃ j, Tryz.prog.info? 314 = some j := by
    cases h : Tryz.prog.info? 314 with
    | none => have := info314; rw [h] at this; cases this
    | some j => exact ⟨j, rfl⟩
  have hsz : j.size ≠ 0 := by
    have := info314
    rw [hte] at this
    simp only [Option.map_some, Option.some.injEq] at this
    omega
  have h : ∀ d : Nat, (Op.equalIn (d + 1) 310 (.pointer (some ⟨p, 0, none⟩)) (.pointer (some ⟨q, 0, none⟩))).run Tryz.prog w = .ok false w := fun d => by
    simp [Op.equalIn, run_underlying Tryz.underlying310, sizeOf, typeInfo, hte, hsz, run_sameAddr_other w (a := ⟨p, 0, none⟩) (b := ⟨q, 0, none⟩) (by simp [hne]) hx1 hy1]
  simp only [binOp]
  simp [Op.equal, Op.maxDepth, h 9999]
set_option maxRecDepth 100000 in
set_option maxHeartbeats 1000000 in
theorem setFl_c (p q L n bx cx ml M z : Nat) (ng : Bool) (w : World) (h : FS w p 53 0 0 false (.slice none 0 0) 0) (hq : FS w q (ml : Int) 0 1 ng (.slice (some ⟨bx, 0, none⟩) n cx) (L : Int)) (hml : 53 < ml) (hml2 : ml ≤ 3000) (hn : 1 ≤ n) (hn1 : n ≤ 40) (hX : Ws w bx 0 n M) (hne : p ≠ q) (hpb : p ≠ bx) (hlo : ∀ j, j < n - 1 → wd M j = 0) (hz : wd M (n - 1) = z) (hz0 : z % 2048 = 0) :
    Calls Tryz.prog 289 #[.pointer (some ⟨p, 0, none⟩), .pointer (some ⟨q, 0, none⟩)] w fun e w' => ∃ b c, e = .returned (.pointer (some ⟨p, 0, none⟩)) ∧ Hid (SetS w w' p L ng b c z) := by
  have hF2 : Fr w (w.setCell ⟨p, 2, none⟩ (.int .i8 0)) (fun k _ => k = p) := (FS.put 2 _).weaken (fun k j _ c => c.1)
  have hc := neq310 (w.setCell ⟨p, 2, none⟩ (.int .i8 0)) hne (h.B.fr hF2) (hq.B.fr hF2)
  have hF3 : Fr (w.setCell ⟨p, 2, none⟩ (.int .i8 0)) ((w.setCell ⟨p, 2, none⟩ (.int .i8 0)).setCell ⟨p, 3, none⟩ (.int .u8 1)) (fun k _ => k = p) := (FS.put 3 _).weaken (fun k j _ c => c.1)
  have hF4 : Fr ((w.setCell ⟨p, 2, none⟩ (.int .i8 0)).setCell ⟨p, 3, none⟩ (.int .u8 1)) (((w.setCell ⟨p, 2, none⟩ (.int .i8 0)).setCell ⟨p, 3, none⟩ (.int .u8 1)).setCell ⟨p, 4, none⟩ (.bool ng)) (fun k _ => k = p) := (FS.put 4 _).weaken (fun k j _ c => c.1)
  have hF5 : Fr (((w.setCell ⟨p, 2, none⟩ (.int .i8 0)).setCell ⟨p, 3, none⟩ (.int .u8 1)).setCell ⟨p, 4, none⟩ (.bool ng)) ((((w.setCell ⟨p, 2, none⟩ (.int .i8 0)).setCell ⟨p, 3, none⟩ (.int .u8 1)).setCell ⟨p, 4, none⟩ (.bool ng)).setCell ⟨p, 6, none⟩ (.int .i32 (L : Int))) (fun k _ => k = p) := (FS.put 6 _).weaken (fun k j _ c => c.1)
  have hF := ((hF2.trans hF3 (fun _ _ _ c => c)).trans hF4 (fun _ _ _ c => c)).trans hF5 (fun _ _ _ c => c)
  have KW := Lib.hid (And.intro ((((h.put2 0).put3 1).put4 ng).put6 (L : Int)) (And.intro (hq.fr hF (fun j c => hne c.symm)) (And.intro (hX.fr hF (fun i _ c => hpb c.symm)) hF)))
  have fz2 := h.B.fz 2
  have fz3 := h.B.fz 3
  have fz4 := h.B.fz 4
  have fz6 := h.B.fz 6
  have c2 := h.c2
  have c3 := h.c3
  have c4 := h.c4
  have c6 := h.c6
  have g3 := hq.c3
  have g4 := hq.c4
  have g6 := hq.c6
  have hne2 := hne.symm
  have KL := Lib.hid (And.intro hlo (And.intro hz (And.intro hz0 (And.intro h.B.lt (wd_lt M (n - 1))))))
  clear h hq hF2 hF3 hF4 hF5 hF hX hlo hz hz0
  go_enter Tryz.func289, Tryz.ntmps289
  go_upto_region 7 with fail
  obtain ⟨hP, hQ, hX, hF⟩ := KW.out
  clear KW fz2 fz3 fz4 fz6 c2 c3 c4 c6 g3 g4 g6 hc
  generalize World.setCell (World.setCell (World.setCell (World.setCell w _ _) _ _) _ _) _ _ = w1 at *
  have fz5 := hP.B.fz 5
  have c5 := hP.c5
  have hg := hQ.c5
  have K := Lib.hid (setF2 bx n cx M w1 hP hn (by omega) hX)
  have KP := Lib.hid hP
  have KQ := Lib.hid hQ
  have KW := Lib.hid hF
  clear hP hX hF hQ
  go_cut [4] (fun s4 wx => s4 = .pointer none ∧ ∃ b c, Hid (SetG w1 wx p 53 0 1 ng (L : Int) b n c M))
  case first =>
    go_region_with (go_at_call 108; with_reducible refine K.out.mono ?_; rintro e w2 ⟨b, c, rfl, HH, fz, hv0⟩; have KS := Lib.hid HH; clear HH)
    all_goals
      go_wp2_with fail
      go_meet
      case rel =>
        refine ⟨rfl, b, c, Lib.hid ?_⟩
        first
          | exact KS.out.put KP.out (Fr.refl _ _)
          | exact KS.out.put KP.out ((Fr.refl _ _).drew)
          | exact KS.out.put KP.out (((Fr.refl _ _).drew).drew)
  case rest =>
    obtain ⟨rfl, b, c, KG⟩ := hcut
    have d0 := KG.out.P.c0
    have g0 := (KQ.out.fr KG.out.F (fun j c => hne c.symm)).c0
    have KR : Hid (∀ w4, Fr wc w4 No → Calls Tryz.prog 292 #[.pointer (some ⟨p, 0, none⟩), .int .u64 0] w4 fun e wz => e = .returned (.tuple #[]) ∧ SetS w wz p L ng b c z) := Lib.hid (fun w4 hr => by
      obtain ⟨l1, l2, l3, l4, l5⟩ := KL.out
      have hbn := KG.out.N
      have hsz := KW.out.size
      have hne' : p ≠ b := by omega
      have hw4 := KG.out.A.fr hr (fun _ _ c => c)
      refine (round53 p n c b z c 0 ng (L : Int) w4 (KG.out.P.fr hr (fun _ c => c)) hn hn1 KG.out.nc.1 (KG.out.B.fr hr) KG.out.nc.1 hne' (fun j hj => by
          have := hw4 j (by omega)
          rw [l1 j hj, Nat.zero_add] at this
          exact this) (by
          have := hw4 (n - 1) (by omega)
          rw [l2, Nat.zero_add] at this
          exact this) (by rw [← l2]; exact l5) l3).mono ?_
      rintro e wz ⟨rfl, hh⟩
      have hnc := KG.out.nc
      exact ⟨rfl, hh.F, hh.z, by omega, ((KW.out.trans KG.out.F (fun _ _ _ c => c)).trans (hr.no (S := fun k _ => k = p)) (fun _ _ _ c => c)).trans hh.f (fun k j hk c => by rcases c with c | c; exact c; omega)⟩)
    clear KL KW KP KQ K fz5 c5 hg
    have q1 : ¬ (53 : Int) = 0 := by decide
    have q2 : (53 : Int) < (ml : Int) := by omega
    go_upto_region 10 with fail
    go_region
    all_goals
      go_wp2_with fail
      with_reducible refine (KR.out _ (by first | exact Fr.refl _ _ | exact (Fr.refl _ _).drew | exact ((Fr.refl _ _).drew).drew)).mono ?_
      rintro e w5 ⟨rfl, hI⟩
      have KI := Lib.hid hI
      clear hI
      go_wp2_with fail
      go_returns
      exact ⟨b, c, rfl, KI⟩
end Go.Proofs.YtldejfallphhbaaGreatDoor
namespace Go.Proofs.YtldejfallphhbaaGreatDoor
set_option linter.unusedVariables false
open Go.RowKit
set_option maxRecDepth 100000 in
theorem msb_c (b c z : Nat) (w : World) (hz : w.cell? ⟨b, 0, none⟩ = some (.int .u64 (z : Int))) :
    Calls Tryz.prog 290 #[.slice (some ⟨b, 0, none⟩) 1 c] w fun e w' => e = .returned (.int .u64 (z : Int)) ∧ w' = w := by
  go_enter Tryz.func290, Tryz.ntmps290
  go_wp2_with fail
  go_returns
  exact ⟨rfl, rfl⟩
def sgw (ng : Bool) : Nat := if ng then 9223372036854775808 else 0
theorem or_sign (ng : Bool) (E : Nat) (hE : E < 2048) : bits .or .u64 ((sgw ng : Nat) : Int) ((E * 4503599627370496 : Nat) : Int) = ((sgw ng + E * 4503599627370496 : Nat) : Int) := by
  have hs : sgw ng < 18446744073709551616 := by unfold sgw; split <;> decide
  have h := bits_or_u64_nat (sgw ng) (E * 4503599627370496) hs (by omega)
  rw [h]
  have hlt : E * 4503599627370496 < 2 ^ 63 := by omega
  have e : sgw ng = 2 ^ 63 * (if ng then 1 else 0) := by unfold sgw; split <;> rfl
  rw [e, ← Nat.two_pow_add_eq_or_of_lt hlt]
theorem or_mant (S E F : Nat) (hS : S % 9223372036854775808 = 0) (hS2 : S < 18446744073709551616) (hE : E < 2048) (hF : F < 4503599627370496) : bits .or .u64 ((S + E * 4503599627370496 : Nat) : Int) (F : Int) = ((S + E * 4503599627370496 + F : Nat) : Int) := by
  have h := bits_or_u64_nat (S + E * 4503599627370496) F (by omega) (by omega)
  rw [h]
  obtain ⟨a, ha⟩ : ∃ a, S + E * 4503599627370496 = 2 ^ 52 * a := ⟨(S + E * 4503599627370496) / 2 ^ 52, by omega⟩
  rw [ha, ← Nat.two_pow_add_eq_or_of_lt (show F < 2 ^ 52 from hF)]
def f0 (pr : Int) : Array Value := #[.int .u32 pr, .int .u8 0, .int .i8 0, .int .u8 0, .bool false, .slice none 0 0, .int .i32 0]
theorem fs_new (pr : Int) (w : World) : FS (w.alloc (.cells (f0 pr) 314)) w.heap.size pr 0 0 false (.slice none 0 0) 0 :=
  ⟨Blk.new w (f0 pr) 314 7 rfl, cell_new w (f0 pr) 314 0 _ rfl, cell_new w (f0 pr) 314 1 _ rfl, cell_new w (f0 pr) 314 2 _ rfl, cell_new w (f0 pr) 314 3 _ rfl, cell_new w (f0 pr) 314 4 _ rfl, cell_new w (f0 pr) 314 5 _ rfl, cell_new w (f0 pr) 314 6 _ rfl⟩
set_option maxRecDepth 100000 in
set_option maxHeartbeats 1000000 in
theorem float64_c (q L n bx cx ml M z R : Nat) (ng : Bool) (w : World) (hq : FS w q (ml : Int) 0 1 ng (.slice (some ⟨bx, 0, none⟩) n cx) (L : Int)) (hml : 53 < ml) (hml2 : ml ≤ 3000) (hL : 1 ≤ L) (hL2 : L ≤ 1024) (hn : 1 ≤ n) (hn1 : n ≤ 40) (hX : Ws w bx 0 n M) (hlo : ∀ j, j < n - 1 → wd M j = 0) (hz : wd M (n - 1) = z) (hz0 : z % 2048 = 0) (hR : R = sgw ng + (L + 1022) * 4503599627370496 + z / 2048 % 4503599627370496) :
    Calls Tryz.prog 285 #[.pointer (some ⟨q, 0, none⟩)] w fun e w' => e = .returned (.tuple #[.float .f64 R, .int .i8 0]) ∧ Hid (Fr w w' No) := by
  have hF := new40 w (f0 53) 314
  have hp := fs_new 53 w
  have hqs := hq.B.lt
  have hbx : bx < w.heap.size := cell_lt (hX 0 (by omega))
  have K := Lib.hid (setFl_c w.heap.size q L n bx cx ml M z ng _ hp (hq.fr hF (fun _ c => c)) hml hml2 hn hn1 (hX.fr hF (fun _ _ c => c)) (by omega) (by omega) hlo hz hz0)
  have KF := Lib.hid (And.intro hF (And.intro hq hqs))
  have g3 := hq.c3
  have g6 := hq.c6
  have h4 := e4
  have hzl : z < 18446744073709551616 := by rw [← hz]; exact wd_lt _ _
  obtain ⟨E, hE⟩ : ∃ E, E = L + 1022 := ⟨_, rfl⟩
  obtain ⟨y, hy⟩ : ∃ y, y = z / 2048 := ⟨_, rfl⟩
  have q1 : (z : Int) / 2048 = (y : Int) := by omega
  obtain ⟨Fm, hFm⟩ : ∃ Fm, Fm = y % 4503599627370496 := ⟨_, rfl⟩
  have q2 : bits .and .u64 (y : Int) 4503599627370495 = (Fm : Int) := by rw [u64_and52]; omega
  obtain ⟨L1, hL1⟩ : ∃ L1, L1 = L - 1 := ⟨_, rfl⟩
  have q3 : (L : Int) - 1 = (L1 : Int) := by omega
  have q4 : (L1 : Int) + 1023 = (E : Int) := by omega
  have q5 : ¬ 1023 < (L1 : Int) := by omega
  have q6 : L1 ≤ 1023 := by omega
  have q7 : E ≤ 2046 := by omega
  obtain ⟨R1, hR1⟩ : ∃ R1, R1 = sgw ng + E * 4503599627370496 := ⟨_, rfl⟩
  have ks := or_sign ng E (by omega)
  have ko := or_mant (sgw ng) E Fm (by unfold sgw; split <;> rfl) (by unfold sgw; split <;> decide) (by omega) (by omega)
  rw [← hE, ← hy, ← hFm, ← hR1] at hR
  rw [← hR1] at ks ko
  rw [← hR] at ko
  rw [Int.natCast_mul] at ks
  have hRl : R < 18446744073709551616 := by
    have : sgw ng ≤ 9223372036854775808 := by unfold sgw; split <;> decide
    omega
  unfold f0 at *
  clear hp hF hqs hbx hX hlo hz hz0 hL hL2 hE hy hL1 hq hFm hR hR1
  have KH : Hid ((bits .or .u64 (bits .or .u64 ((sgw ng : Nat) : Int) ((E : Int) * 4503599627370496)) (Fm : Int)).toNat = R) := Lib.hid (by
    have e : ((4503599627370496 : Nat) : Int) = 4503599627370496 := rfl
    rw [e] at ks
    rw [ks, ko]; exact Int.toNat_natCast R)
  clear ks ko
  cases ng
  all_goals
    go_enter Tryz.func285, Tryz.ntmps285
    go_wp2_with fail
    with_reducible refine K.out.mono ?_
    rintro e w5 ⟨b, c, rfl, HS⟩
    have HQ := KF.out.2.1.fr (KF.out.1.trans HS.out.F (fun k j hk cc => by have : k = w.heap.size := cc; omega)) (fun _ c => c)
    have g4 := HQ.c4
    have d3 := HS.out.P.c3
    have d5 := HS.out.P.c5
    have d6 := HS.out.P.c6
    have d2 := HS.out.P.c2
    have KM := Lib.hid (msb_c b c z w5 HS.out.z)
    have KG := Lib.hid (KF.out.1.trans HS.out.F (fun k j hk cc => by have : k = w.heap.size := cc; omega))
    clear HQ
    go_wp2_with fail
    with_reducible refine KM.out.mono ?_
    rintro e w6 ⟨rfl, rfl⟩
    go_wp2_with fail
    go_quiet (fail)
    go_wp2_with fail
    go_returns
    exact ⟨by simp; exact KH.out, Lib.hid (KG.out.drewN _)⟩
end Go.Proofs.YtldejfallphhbaaGreatDoor
namespace Go.Proofs.YtldejfallphhbaaGreatDoor
set_option linter.unusedVariables false
set_option exponentiation.threshold 3000
open Go.RowKit
namespace Fl
theorem rep_big (X r : Nat) (hX : 9223372036854775808 ≤ X) (hr : r < 9218868437227405312) (hU : U r = X * B) : ∃ Q t, X = Q * 2 ^ t ∧ 4503599627370496 ≤ Q ∧ Q < 9007199254740992 ∧ t ≤ 971 ∧ r = (t + 1074) * 4503599627370496 + Q := by
  have hBp := B_pos
  by_cases hs : r < 4503599627370496
  · exfalso
    unfold U at hU
    rw [if_pos hs] at hU
    have h1 : 9223372036854775808 * 1 ≤ X * B := Nat.mul_le_mul hX hBp
    omega
  · unfold U at hU
    rw [if_neg hs] at hU
    obtain ⟨j, hj⟩ : ∃ j, j = r / 4503599627370496 - 1 := ⟨_, rfl⟩
    obtain ⟨Q, hQ⟩ : ∃ Q, Q = 4503599627370496 + r % 4503599627370496 := ⟨_, rfl⟩
    rw [← hj, ← hQ] at hU
    have hQ1 : 4503599627370496 ≤ Q := by omega
    have hQ2 : Q < 9007199254740992 := by omega
    have hrr : r = j * 4503599627370496 + Q := by omega
    have hj2 : j ≤ 2045 := by omega
    have hj1 : 1074 ≤ j := by
      refine Nat.le_of_not_lt (fun hlt => ?_)
      have hjB : 2 ^ j ≤ B := by unfold B; exact Nat.pow_le_pow_right (by decide) (Nat.le_of_lt hlt)
      have h1 : Q * 2 ^ j ≤ 9007199254740992 * B := Nat.mul_le_mul (Nat.le_of_lt hQ2) hjB
      have h2 : 9223372036854775808 * B ≤ X * B := Nat.mul_le_mul_right _ hX
      rw [hU] at h1
      have h3 : 9223372036854775808 * B ≤ 9007199254740992 * B := Nat.le_trans h2 h1
      have h4 := Nat.le_of_mul_le_mul_right h3 hBp
      exact absurd h4 (by decide)
    refine ⟨Q, j - 1074, ?_, hQ1, hQ2, by omega, by rw [show j - 1074 + 1074 = j from by omega]; exact hrr⟩
    have h1 : Q * 2 ^ j = (Q * 2 ^ (j - 1074)) * B := by
      unfold B
      rw [Nat.mul_assoc, ← Nat.pow_add, show j - 1074 + 1074 = j from by omega]
    rw [h1] at hU
    exact (Nat.eq_of_mul_eq_mul_right hBp hU).symm
end Fl
theorem len_one {X L L' : Nat} (h1 : 2 ^ (L - 1) ≤ X) (h2 : X < 2 ^ L) (hL : 1 ≤ L) (g1 : 2 ^ (L' - 1) ≤ X) (g2 : X < 2 ^ L') (hL' : 1 ≤ L') : L = L' := by
  rcases Nat.lt_trichotomy L L' with h | h | h
  · have : 2 ^ L ≤ 2 ^ (L' - 1) := Nat.pow_le_pow_right (by decide) (by omega)
    omega
  · exact h
  · have : 2 ^ L' ≤ 2 ^ (L - 1) := Nat.pow_le_pow_right (by decide) (by omega)
    omega
theorem len_of (Q t : Nat) (h1 : 4503599627370496 ≤ Q) (h2 : Q < 9007199254740992) : 2 ^ (t + 53 - 1) ≤ Q * 2 ^ t ∧ Q * 2 ^ t < 2 ^ (t + 53) := by
  have hp : 0 < 2 ^ t := Nat.pow_pos (by decide)
  constructor
  · rw [show t + 53 - 1 = 52 + t from by omega, Nat.pow_add]
    exact Nat.mul_le_mul_right _ h1
  · rw [Nat.add_comm, Nat.pow_add]
    exact Nat.mul_lt_mul_of_pos_right h2 hp
theorem words_len {X n L : Nat} (hn : 1 ≤ n) (hN : Nrm X n) (h1 : 2 ^ (L - 1) ≤ X) (h2 : X < 2 ^ L) (hL : 1 ≤ L) : 64 * (n - 1) < L ∧ L ≤ 64 * n := by
  have g1 := hN.1
  have g2 := hN.2 hn
  rw [pow64] at g1 g2
  constructor
  · refine Nat.lt_of_not_le (fun h => ?_)
    have : 2 ^ L ≤ 2 ^ (64 * (n - 1)) := Nat.pow_le_pow_right (by decide) h
    omega
  · refine Nat.le_of_not_lt (fun h => ?_)
    have : 2 ^ (64 * n) ≤ 2 ^ (L - 1) := Nat.pow_le_pow_right (by decide) (by omega)
    omega
theorem words_top (Q n : Nat) (hn : 1 ≤ n) (hQ : Q < 9007199254740992) : (∀ j, j < n - 1 → wd (Q * 2 ^ (64 * (n - 1) + 11)) j = 0) ∧ wd (Q * 2 ^ (64 * (n - 1) + 11)) (n - 1) = Q * 2048 := by
  constructor
  · intro j hj
    unfold wd
    rw [pow64, show 64 * (n - 1) + 11 = (64 * (n - 1) + 11 - 64 - 64 * j) + 64 + 64 * j from by omega, Nat.pow_add, ← Nat.mul_assoc, Nat.mul_div_cancel _ (Nat.pow_pos (by decide)), Nat.pow_add, ← Nat.mul_assoc]
    exact Nat.mul_mod_left _ _
  · unfold wd
    rw [pow64, Nat.add_comm, Nat.pow_add, ← Nat.mul_assoc, Nat.mul_div_cancel _ (Nat.pow_pos (by decide))]
    omega
theorem bitLen2 (p X L : Nat) (neg : Bool) (v : Value) (w : World) (h : Bi w p neg v) (hv : Abs w v X) (h1 : 2 ^ (L - 1) ≤ X) (h2 : X < 2 ^ L) (hL : 1 ≤ L) :
    Calls Tryz.prog 109 #[.pointer (some ⟨p, 0, none⟩)] w fun e w' => e = .returned (.int .i64 (L : Int)) ∧ w' = w := by
  refine (BitLen_c p X neg v w h hv).mono ?_
  rintro e w' ⟨L', rfl, _, g, g2, _, rfl⟩
  have hX : 1 ≤ X := Nat.le_trans (Nat.pow_pos (by decide)) h1
  rw [len_one h1 h2 hL (g hX).1 g2 (g hX).2]
  exact ⟨rfl, rfl⟩
def Gives (w w' : World) (p R : Nat) : Prop := Fr w w' No ∧ Calls Tryz.prog 285 #[.pointer (some ⟨p, 0, none⟩)] w' fun e w'' => e = .returned (.tuple #[.float .f64 R, .int .i8 0]) ∧ Hid (Fr w' w'' No)
theorem path_c (q Q t r : Nat) (ng : Bool) (v : Value) (w : World) (hq : Bi w q ng v) (hv : Abs w v (Q * 2 ^ t)) (hQ1 : 4503599627370496 ≤ Q) (hQ2 : Q < 9007199254740992) (ht : t ≤ 971) (hr : r = (t + 1074) * 4503599627370496 + Q) :
    Calls Tryz.prog 284 #[.pointer (some ⟨w.heap.size, 0, none⟩), .pointer (some ⟨q, 0, none⟩)] (w.alloc (.cells (f0 0) 314)) fun e w' => e = .returned (.pointer (some ⟨w.heap.size, 0, none⟩)) ∧ Gives w w' w.heap.size (Fl.wordOf ng r) := by
  have hp : 0 < 2 ^ t := Nat.pow_pos (by decide)
  obtain ⟨l1, l2⟩ := len_of Q t hQ1 hQ2
  have f1 := new40 w (f0 0) 314
  have hqs := hq.B.lt
  have hBl := bitLen2 q _ (t + 53) ng v _ (hq.fr f1 (fun _ c => c)) (hv.no f1) l1 l2 (by omega)
  rcases hv with ⟨_, hx0⟩ | ⟨b, n, cc, rfl, h1, h2, h3, h4, h5, h6, h7, h8⟩
  · exact absurd hx0 (Nat.ne_of_gt (Nat.mul_pos (by omega) hp))
  · obtain ⟨g1, g2⟩ := words_len h1 h6 l1 l2 (by omega)
    have hbs := h8.lt
    obtain ⟨s, hs⟩ : ∃ s, s = 64 * n - (t + 53) := ⟨_, rfl⟩
    have hM : Q * 2 ^ t * 2 ^ s = Q * 2 ^ (64 * (n - 1) + 11) := by rw [Nat.mul_assoc, ← Nat.pow_add, show t + s = 64 * (n - 1) + 11 from by omega]
    obtain ⟨m1, m2⟩ := words_top Q n h1 hQ2
    refine (setInt_c w.heap.size q (Q * 2 ^ t) (t + 53) n b cc s (max (t + 53) 64) ng _ (fs_new 0 w) (hq.fr f1 (fun _ c => c)) h1 h2 (h7.fr f1 (fun _ _ c => c)) hBl rfl (by omega) (by omega) (by omega) h6 l1 l2 g1 (by omega)).mono ?_
    rintro e w' ⟨b2, c2, rfl, H⟩
    have HI := H.out
    refine ⟨rfl, f1.trans HI.F (fun k j hk (c : k = w.heap.size) => by omega), ?_⟩
    have hA := HI.A
    rw [hM] at hA
    refine float64_c w.heap.size (t + 53) n b2 c2 (max (t + 53) 64) _ (Q * 2048) (Fl.wordOf ng r) ng w' HI.P (by omega) (by omega) (by omega) (by omega) h1 h2 hA m1 m2 (Nat.mul_mod_left _ _) ?_
    rw [Nat.mul_div_cancel _ (by decide), hr]
    unfold Fl.wordOf sgw
    cases ng
    · simp only [Bool.false_eq_true, if_false]
      omega
    · simp only [if_true]
      omega
set_option maxRecDepth 100000 in
set_option maxHeartbeats 1000000 in
theorem float_big (q X r : Nat) (ng : Bool) (x : Int) (v : Value) (w : World) (hq : Bi w q ng v) (hv : Abs w v X) (hX : 1 ≤ X) (hr : r < 9218868437227405312) (hU : Fl.U r = X * Fl.B) :
    Calls Tryz.prog 281 #[.agg #[.int .i64 x, .pointer (some ⟨q, 0, none⟩)]] w fun e w' => e = .returned (.float .f64 (Fl.wordOf ng r)) ∧ Fr w w' No := by
  have KA := Lib.hid (new40 w #[.int .i64 x, .pointer (some ⟨q, 0, none⟩)] 74)
  have KG := Lib.hid (get_c x (some ⟨q, 0, none⟩) (w.alloc (.cells #[.int .i64 x, .pointer (some ⟨q, 0, none⟩)] 74)))
  have KU := Lib.hid (fun wx (hf : Fr w wx No) => isU_c q X ng v wx (hq.fr hf (fun _ c => c)) (hv.no hf))
  have KI := Lib.hid (fun wx (hf : Fr w wx No) => isI_c q X ng v wx (hq.fr hf (fun _ c => c)) (hv.no hf))
  have hfl := fl_int ng X r (fun _ => by omega) hr hU
  obtain ⟨R, hR⟩ : ∃ R, R = Fl.wordOf ng r := ⟨_, rfl⟩
  rw [← hR] at hfl ⊢
  by_cases c1 : ng = false ∧ X < 18446744073709551616
  · have KV := Lib.hid (fun wx (hf : Fr w wx No) => uint64_c q X ng v wx (hq.fr hf (fun _ c => c)) (hv.no hf) c1.2)
    rw [c1.1] at hfl
    rw [show (!ng && decide (X < 18446744073709551616)) = true from by simp [c1]] at KU
    have hfl2 : floatOfInt .f64 (X : Int) = R := hfl
    have KR := Lib.hid hfl2
    clear hq hv hX hr hU hfl hfl2 c1 KI hR
    go_enter Tryz.func281, Tryz.ntmps281
    go_wp2_with fail
    with_reducible refine KG.out.mono ?_
    rintro e w2 ⟨rfl, hF⟩
    have KF := Lib.hid (KA.out.trans hF (fun _ _ _ c => c))
    clear hF
    go_wp2_with fail
    refine (KU.out _ KF.out).mono ?_
    rintro e w3 ⟨rfl, rfl⟩
    go_wp2_with fail
    refine (KV.out _ KF.out).mono ?_
    rintro e w3 ⟨rfl, rfl⟩
    go_wp2_with fail
    go_returns
    exact ⟨by rw [KR.out]; rfl, KF.out⟩
  · rw [show (!ng && decide (X < 18446744073709551616)) = false from by cases ng <;> simp_all] at KU
    by_cases c2 : X < 9223372036854775808 ∨ (ng = true ∧ X = 9223372036854775808)
    · have KV := Lib.hid (fun wx (hf : Fr w wx No) => int64g_c q X ng v wx (hq.fr hf (fun _ c => c)) (hv.no hf) c2)
      rw [show decide (X < 9223372036854775808 ∨ (ng = true ∧ X = 9223372036854775808)) = true from by simp [c2]] at KI
      have KR := Lib.hid hfl
      generalize (if ng = true then -(X : Int) else (X : Int)) = xx at *
      clear hq hv hX hr hU hfl c1 c2 hR
      go_enter Tryz.func281, Tryz.ntmps281
      go_wp2_with fail
      with_reducible refine KG.out.mono ?_
      rintro e w2 ⟨rfl, hF⟩
      have KF := Lib.hid (KA.out.trans hF (fun _ _ _ c => c))
      clear hF
      go_wp2_with fail
      refine (KU.out _ KF.out).mono ?_
      rintro e w3 ⟨rfl, rfl⟩
      go_wp2_with fail
      refine (KI.out _ KF.out).mono ?_
      rintro e w3 ⟨rfl, rfl⟩
      go_wp2_with fail
      refine (KV.out _ KF.out).mono ?_
      rintro e w3 ⟨rfl, rfl⟩
      go_wp2_with fail
      go_returns
      exact ⟨by rw [KR.out]; rfl, KF.out⟩
    · rw [show decide (X < 9223372036854775808 ∨ (ng = true ∧ X = 9223372036854775808)) = false from by simp [c2]] at KI
      obtain ⟨Q, t, rfl, hQ1, hQ2, ht, hrt⟩ := Fl.rep_big X r (by omega) hr hU
      obtain ⟨l1, l2⟩ := len_of Q t hQ1 hQ2
      have KB := Lib.hid (fun wx (hf : Fr w wx No) => bitLen2 q _ (t + 53) ng v wx (hq.fr hf (fun _ c => c)) (hv.no hf) l1 l2 (by omega))
      have KP := Lib.hid (fun wx (hf : Fr w wx No) => path_c q Q t r ng v wx (hq.fr hf (fun _ c => c)) (hv.no hf) hQ1 hQ2 ht hrt)
      rw [← hR] at KP
      unfold f0 at KP
      obtain ⟨L, hL⟩ : ∃ L, L = t + 53 := ⟨_, rfl⟩
      rw [← hL] at KB
      have q1 : ¬ (1024 : Int) < (L : Int) := by omega
      clear hq hv hX hr hU hfl c1 c2 hR hQ1 hQ2 ht hrt l1 l2 hL
      go_enter Tryz.func281, Tryz.ntmps281
      go_wp2_with fail
      with_reducible refine KG.out.mono ?_
      rintro e w2 ⟨rfl, hF⟩
      have KF := Lib.hid (KA.out.trans hF (fun _ _ _ c => c))
      clear hF
      go_wp2_with fail
      refine (KU.out _ KF.out).mono ?_
      rintro e w3 ⟨rfl, rfl⟩
      go_wp2_with fail
      refine (KI.out _ KF.out).mono ?_
      rintro e w3 ⟨rfl, rfl⟩
      go_wp2_with fail
      refine (KB.out _ KF.out).mono ?_
      rintro e w3 ⟨rfl, rfl⟩
      go_wp2_with fail
      with_reducible refine (KP.out _ KF.out).mono ?_
      rintro e w4 ⟨rfl, h4⟩
      have K4 := Lib.hid h4.2
      have KF4 := Lib.hid (KF.out.trans h4.1 (fun _ _ _ c => c))
      clear h4
      go_wp2_with fail
      with_reducible refine K4.out.mono ?_
      rintro e w5 ⟨rfl, h5⟩
      have KF5 := Lib.hid (KF4.out.trans h5.out (fun _ _ _ c => c))
      clear h5
      go_wp2_with fail
      go_returns
      exact ⟨rfl, KF5.out⟩
theorem float_c (X r : Nat) (ng : Bool) (x : Int) (y : Option Addr) (w : World) (hI : IntV w (.agg #[.int .i64 x, .pointer y]) ng X) (h0 : ng = true → 1 ≤ X) (hr : r < 9218868437227405312) (hU : Fl.U r = X * Fl.B) :
    Calls Tryz.prog 281 #[.agg #[.int .i64 x, .pointer y]] w fun e w' => e = .returned (.float .f64 (Fl.wordOf ng r)) ∧ Fr w w' No := by
  rcases hI with ⟨hs, he⟩ | ⟨hs, p, v, he, hb, ha⟩
  · unfold smallV at he
    simp only [Value.agg.injEq, Array.mk.injEq, List.cons.injEq, Value.int.injEq, Value.pointer.injEq, and_true, true_and] at he
    obtain ⟨rfl, rfl⟩ := he
    exact float_small _ _ (fl_int ng X r h0 hr hU) w
  · unfold bigV at he
    simp only [Value.agg.injEq, Array.mk.injEq, List.cons.injEq, Value.int.injEq, Value.pointer.injEq, and_true, true_and] at he
    obtain ⟨rfl, rfl⟩ := he
    exact float_big p X r ng _ v w hb ha (sml_ge hs) hr hU
theorem takes_i (X r : Nat) (ng : Bool) (x : Int) (y : Option Addr) (w : World) (hI : IntV w (.agg #[.int .i64 x, .pointer y]) ng X) (h0 : ng = true → 1 ≤ X) (hr : r < 9218868437227405312) (hU : Fl.U r = X * Fl.B) : Takes 74 (.agg #[.int .i64 x, .pointer y]) (Fl.wordOf ng r) w :=
  fun p w1 h1 hB => unpack_i x y (Fl.wordOf ng r) p w1 hB (fun w2 h2 => float_c X r ng x y w2 (hI.no (h1.trans h2 (fun _ _ _ c => c))) h0 hr hU)
end Go.Proofs.YtldejfallphhbaaGreatDoor
