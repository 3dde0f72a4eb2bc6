/-
  A part of the proof of FnIntText: itoa.
-/
import Derived.Test.YtdidglfaogmnfaaGreatDoorZ
import Derived.Test.YtdidglfaogmnfaaGreatDoorU
import Derived.Test.YtdidglfaogmnfaaGreatDoorLg
namespace Go.Proofs.YtdidglfaogmnfaaGreatDoor
open Go.RowKit

theorem free_in (a b l c : Nat) (w : World) (h : w.cell? ⟨a, 0, none⟩ = some (.slice (some ⟨b, 0, none⟩) l c)) (hB : Blk w a 1) :
    Calls Tryz.prog 53 #[.pointer (some ⟨a, 0, none⟩)] w fun e w' => e = .returned (.tuple #[]) ∧ Fr w w' (fun k _ => k = a) := by
  have fz := hB.fz 0
  have KF : Hid (Fr w (w.setCell ⟨a, 0, none⟩ (.slice (some ⟨b, 0, none⟩) 0 c)) (fun k _ => k = a)) := Lib.hid ((Fr.refl _ _).set _ _ _ (fun _ => rfl))
  clear hB
  go_enter Tryz.func53, Tryz.ntmps53
  go_wp2_with fail
  go_end0
  exact ⟨rfl, KF.out⟩
theorem free_c (p a b l : Nat) (u : FrameMode) (w : World) (h : Stk w p a b l) :
    CallsD Tryz.prog 38 #[.pointer (some ⟨p, 0, none⟩)] u w fun e u' w' => u' = u ∧ (e = .returned (.tuple #[]) ∧ Fr w w' (fun k _ => k = a)) := by
  obtain ⟨hp, h | ⟨c, g1, g2, g3, g4, g5, g6, g7⟩⟩ := h
  · obtain ⟨rfl, rfl, rfl, hc⟩ := h
    clear hp
    go_enter_d Tryz.func38, Tryz.ntmps38
    go_wp2_with fail
    go_returns
    exact ⟨rfl, Fr.refl _ _⟩
  · have K := Lib.hid (free_in a b l c w g3 g2)
    clear g2 g3 g4 g5 g6 g7 hp
    go_enter_d Tryz.func38, Tryz.ntmps38
    go_wp2_with fail
    refine K.out.mono ?_
    rintro e w' ⟨rfl, hF⟩
    have KF := Lib.hid hF
    clear hF
    go_wp2_with fail
    go_returns
    exact ⟨rfl, KF.out⟩
theorem info5 : (Tryz.prog.info? 5).map (fun i => (i.zero, i.size, i.bytes)) = some (some (.int .u8 0), 1, 1) := by kernel_rfl
def mkb (c : Nat) : Array Value := madeCells (Value.cells (.int .u8 0)) c
theorem mkb_size (c : Nat) : (mkb c).size = c := size_madeCells _ _
theorem mkb_c (n : Nat) (hn : n ≤ 4000) (w : World) : (Instr.makeSlice 22 (.int .i64 n) (.int .i64 n)).run Tryz.prog w = .ok (.slice (some ⟨w.heap.size, 0, none⟩) n n) (w.alloc (.cells (mkb n) 5)) := by
  obtain ⟨i0, hi, hz0, hz1, hz2⟩ := info_parts info5
  have h := run_make (P := Tryz.prog) w 22 5 i0 (.int .u8 0) Tryz.underlying22 hi hz0 .i64 .i64 n n (by omega) (by omega) (by rw [hz2]; omega) (by omega)
  rw [hz1, Int.toNat_natCast, Nat.mul_one] at h
  exact h
theorem stack_c (w : World) : Calls Tryz.prog 37 #[] w fun e w' => e = .returned (.pointer (some ⟨w.heap.size, 0, none⟩)) ∧ w' = w.alloc (.cells #[.pointer none] 89) := by
  go_enter Tryz.func37, Tryz.ntmps37
  go_wp2_with fail
  go_returns
  exact ⟨rfl, rfl⟩
theorem divisors_small (p m : Nat) (w : World) (hG : Gl w) (hm : m ≤ 8) :
    Calls Tryz.prog 40 #[.pointer (some ⟨p, 0, none⟩), .int .i64 m, .int .u64 10, .int .i64 19, .int .u64 10000000000000000000] w fun e w' => e = .returned (.slice none 0 0) ∧ w' = w := by
  have l8 := hG.1
  have h8 : decide (m ≤ 8) = true := by simp; omega
  have h8' : decide ((m : Int) ≤ 8) = true := by simp; omega
  clear hG
  go_enter Tryz.func40, Tryz.ntmps40
  go_wp2_with fail
  go_returns
  exact ⟨rfl, rfl⟩
/-- what divisors hands on -/
structure DvOut (w w' : World) (n t : Nat) (tv : Value) (bt e0 g0 e1 g1 : Nat) : Prop where
  tv : (tv = .slice none 0 0 ∧ t = 0) ∨ (tv = .slice (some ⟨bt, 0, none⟩) t t ∧ t ≤ t)
  tab : Tab w' t bt e0 g0 e1 g1
  t2 : t ≤ 2
  z0 : t = 0 → n ≤ 8
  z1 : t = 1 → n ≤ 17
  z2 : t = 2 → n ≤ 8 ∨ (18 ≤ n ∧ n ≤ 19)
  n0 : 1 ≤ t → (w.heap.size ≤ bt ∧ bt < w'.heap.size) ∧ (w.heap.size ≤ e0 ∧ e0 < w'.heap.size)
  n1 : 2 ≤ t → w.heap.size ≤ e1 ∧ e1 < w'.heap.size
  f : Fr w w' No
theorem divisors_c (p n : Nat) (w : World) (hG : Gl w) (hn : n ≤ 19) :
    Calls Tryz.prog 40 #[.pointer (some ⟨p, 0, none⟩), .int .i64 n, .int .u64 10, .int .i64 19, .int .u64 10000000000000000000] w fun e w' => ∃ t tv bt e0 g0 e1 g1, e = .returned tv ∧ DvOut w w' n t tv bt e0 g0 e1 g1 := by
  by_cases h8 : n ≤ 8
  · refine (divisors_small p n w hG h8).mono ?_
    rintro e w' ⟨rfl, rfl⟩
    exact ⟨0, _, 0, 0, 0, 0, 0, rfl, ⟨Or.inl ⟨rfl, rfl⟩, ⟨fun h => absurd h (by omega), fun h => absurd h (by omega)⟩, by omega, fun _ => h8, fun h => absurd h (by omega), fun h => absurd h (by omega), fun h => absurd h (by omega), fun h => absurd h (by omega), Fr.refl _ _⟩⟩
  · by_cases h17 : n ≤ 17
    · refine (divisors_big p n 1 w hG (Or.inl ⟨rfl, by omega, h17⟩)).mono ?_
      rintro e w' ⟨bt, rfl, hT⟩
      obtain ⟨e0, g0, k1, k2, k3, k4, _⟩ := hT.r0 (by omega)
      exact ⟨1, _, bt, e0, g0, 0, 0, rfl, ⟨Or.inr ⟨rfl, Nat.le_refl _⟩, ⟨fun _ => k1, fun h => absurd h (by omega)⟩, by omega, fun h => absurd h (by omega), fun _ => h17, fun h => absurd h (by omega), fun _ => ⟨⟨hT.n, hT.b.lt⟩, ⟨k4, k2.lt⟩⟩, fun h => absurd h (by omega), hT.f⟩⟩
    · refine (divisors_big p n 2 w hG (Or.inr ⟨rfl, by omega, hn⟩)).mono ?_
      rintro e w' ⟨bt, rfl, hT⟩
      obtain ⟨e0, g0, k1, k2, k3, k4, _⟩ := hT.r0 (by omega)
      obtain ⟨e1, g1, m1, m2, m3⟩ := hT.r1 (by omega)
      exact ⟨2, _, bt, e0, g0, e1, g1, rfl, ⟨Or.inr ⟨rfl, Nat.le_refl _⟩, ⟨fun _ => k1, fun _ => m1⟩, by omega, fun h => absurd h (by omega), fun h => absurd h (by omega), fun _ => Or.inr ⟨by omega, hn⟩, fun _ => ⟨⟨hT.n, hT.b.lt⟩, ⟨k4, k2.lt⟩⟩, fun _ => ⟨m3, cell_lt (m1.ws 0 (by omega))⟩, hT.f⟩⟩
/-- what convertWords wants, out of what itoa has made -/
theorem itoa_pre {w w2 w3 w4 : World} {n t bt e0 g0 e1 g1 bs M p X bq cq : Nat} {tv : Value} (hG : Gl w) (hF2 : Fr w w2 No) (hbs : bs = w.heap.size) (hp : p = w.heap.size + 1) (hsz : w2.heap.size = w.heap.size + 2) (hBs : Blk w2 bs M) (hS : Stk w2 p p p 0) (hM : M ≤ 400)
    (hD : DvOut w2 w3 n t tv bt e0 g0 e1 g1) (hW : Whr w3 w4 bq 0 (.slice none 0 0)) (hB : Blk w4 bq cq) (hc : n ≤ cq ∧ cq ≤ 4000) (hV : Ws w4 bq 0 n X) (hN : Nrm X n) (hF4 : Fr w3 w4 (fun q _ => q = 0 ∧ (.slice none 0 0 : Value) ≠ .slice none 0 0)) (hX : X < 10 ^ M) :
    CvPre w4 t tv bt t e0 g0 e1 g1 p p p 0 bq n cq bs 0 M M M X ∧ Fr w w4 No ∧ w.heap.size ≤ bq := by
  have hF4' : Fr w3 w4 No := hF4.weaken (fun q j _ c => absurd rfl c.2)
  have hF24 : Fr w2 w4 No := hD.f.trans hF4' (fun _ _ _ c => c)
  have s3 := hD.f.size
  have s4 := hF4'.size
  have hg := cell_lt hG.2.2.2
  have hbq : w3.heap.size ≤ bq := by
    rcases hW with e | e
    · exact absurd rfl e.2
    · exact e.1
  have tab4 : Tab w4 t bt e0 g0 e1 g1 := hD.tab.fr hF4' (fun _ c => c) (fun _ c => c) (fun _ c => c)
  have d1 : bq ≠ p ∧ bq ≠ p ∧ bq ≠ p ∧ bq ≠ bs := by omega
  have d2 : bs ≠ p ∧ bs ≠ p ∧ bs ≠ p := by omega
  refine ⟨⟨hD.tv, tab4, hB, hc, hV, hN, hBs.fr hF24, ⟨by omega, hM, Nat.le_refl _⟩, hG.fr (hF2.trans hF24 (fun _ _ _ c => c)) (fun _ _ c => c), hS.fr hF24 (fun c => c) (fun c => c), by omega, hX, hD.z0, hD.z1, hD.z2, d1, d2, ⟨by omega, by omega, by omega, by omega, by omega⟩, fun h => ?_, fun h => ?_, fun h => ?_⟩, hF2.trans hF24 (fun _ _ _ c => c), by omega⟩
  · have := (hD.n0 h).1; exact ⟨by omega, by omega, by omega, by omega, by omega, by omega⟩
  · have := (hD.n0 h).2; exact ⟨by omega, by omega, by omega, by omega, by omega, by omega⟩
  · have := hD.n1 h; exact ⟨by omega, by omega, by omega, by omega, by omega, by omega⟩
/-- the decimal text of X, a sign ahead if neg -/
def sg (neg : Bool) : Nat := if neg then 1 else 0
/-- the row of bytes holds the sign and the nd digits of X -/
def Txt (w : World) (b o : Nat) (neg : Bool) (nd X : Nat) : Prop := (neg = true → w.cell? ⟨b, o, none⟩ = some (.int .u8 45)) ∧ ∀ k, k < nd → w.cell? ⟨b, o + sg neg + (nd - 1 - k), none⟩ = some (.int .u8 ((48 + dg X k : Nat) : Int))
theorem dg_top {X k : Nat} (h : X < 10 ^ (k + 1)) : (dg X k = 0 → X < 10 ^ k) ∧ (dg X k ≠ 0 → 10 ^ k ≤ X) := by
  have hp : 0 < 10 ^ k := Nat.pow_pos (by decide)
  have h1 : X / 10 ^ k < 10 := (Nat.div_lt_iff_lt_mul hp).2 (by rwa [Nat.pow_succ, Nat.mul_comm] at h)
  have e : dg X k = X / 10 ^ k := by unfold dg; exact Nat.mod_eq_of_lt h1
  rw [e]
  constructor
  · intro h0
    rcases Nat.div_eq_zero_iff.1 h0 with f | f
    · omega
    · exact f
  · intro h0
    exact (Nat.div_pos_iff.1 (Nat.pos_of_ne_zero h0)).2
theorem itoa_far {w w2 w4 w5 : World} {bs p a' bq M : Nat} (hB : Blk w4 bs M) (hF : Fr w w4 No) (ha : Nw w4 w5 a' p) (h5 : Fr w4 w5 (fun k j => k = p ∨ k = p ∨ (k = p ∧ 0 ≤ j) ∨ k = bq ∨ (k = bs ∧ 0 ≤ j ∧ j < 0 + M))) (h : w2.heap.size = bs + 2 ∧ bs = w.heap.size ∧ p = bs + 1) (hq : w.heap.size ≤ bq) :
    bs ≠ a' ∧ Fr w w5 No ∧ ∀ k (_ : Nat), k < w.heap.size → k = a' → No k 0 := by
  have hs := hF.size
  have hb := hB.lt
  have ha2 : a' = p ∨ w4.heap.size ≤ a' := by rcases ha with f | f; exact Or.inl f; exact Or.inr f.1
  refine ⟨by omega, hF.trans h5 (fun k j hk c => ?_), fun k _ hk e => by omega⟩
  rcases c with c | c | c | c | c <;> omega
theorem conv_any {w : World} {t : Nat} {tv : Value} {bt ct e0 g0 e1 g1 p a b l bq nq cq bs os n cs N X : Nat} (ht : t ≤ 2) (h : CvPre w t tv bt ct e0 g0 e1 g1 p a b l bq nq cq bs os n cs N X) :
    Calls Tryz.prog 41 #[.slice (some ⟨bq, 0, none⟩) nq cq, .pointer (some ⟨p, 0, none⟩), .slice (some ⟨bs, os, none⟩) n cs, .int .u64 10, .int .i64 19, .int .u64 10000000000000000000, tv] w fun e w' => e = .returned (.tuple #[]) ∧ CvPost w w' p a b l bq bs os n X := by
  have : t = 0 ∨ t = 1 ∨ t = 2 := by omega
  rcases this with rfl | rfl | rfl
  · exact conv0 _ _ _ _ _ _ _ _ _ _ _ _ _ _ _ _ _ _ _ _ _ h
  · exact conv1 _ _ _ _ _ _ _ _ _ _ _ _ _ _ _ _ _ _ _ _ _ h
  · exact conv2 _ _ _ _ _ _ _ _ _ _ _ _ _ _ _ _ _ _ _ _ _ h
theorem itoa_mem (w : World) (M : Nat) : let w2 := (w.alloc (.cells (mkb M) 5)).alloc (.cells #[.pointer none] 89)
    Blk w2 w.heap.size M ∧ Stk w2 (w.heap.size + 1) (w.heap.size + 1) (w.heap.size + 1) 0 ∧ Fr w w2 No ∧ w2.heap.size = w.heap.size + 2 := by
  intro w2
  have h1 : (w.alloc (.cells (mkb M) 5)).heap.size = w.heap.size + 1 := by show (w.heap.push _).size = _; simp
  have hB := Blk.new w (mkb M) 5 M (mkb_size M)
  have hF : Fr (w.alloc (.cells (mkb M) 5)) w2 No := (Fr.refl _ _).alloc _
  have hB2 : Blk w2 (w.heap.size + 1) 1 := by rw [← h1]; exact Blk.new _ #[.pointer none] 89 1 rfl
  refine ⟨hB.fr hF, ⟨hB2, Or.inl ⟨rfl, rfl, rfl, ?_⟩⟩, ((Fr.refl w No).alloc _).alloc _, ?_⟩
  · have := cell_of_row w2 (w.alloc (.cells (mkb M) 5)).heap.size 0 #[.pointer none] 89 (0, 0) (heap_alloc_new _ _)
    rw [h1] at this
    exact this
  · show ((w.alloc (.cells (mkb M) 5)).heap.push _).size = _
    simp [h1]
set_option maxRecDepth 100000 in
set_option maxHeartbeats 2000000 in
theorem itoa_c (bx n cx X : Nat) (neg : Bool) (w : World) (hX : Ws w bx 0 n X) (hN : Nrm X n) (hn : 1 ≤ n) (hn1 : n ≤ 19) (hG : Gl w) :
    Calls Tryz.prog 26 #[.slice (some ⟨bx, 0, none⟩) n cx, .bool neg, .int .i64 10] w fun e w' => ∃ b o nd c, e = .returned (.slice (some ⟨b, o, none⟩) (nd + sg neg) c) ∧ 1 ≤ nd ∧ nd ≤ 400 ∧ 10 ^ (nd - 1) ≤ X ∧ X < 10 ^ nd ∧ Txt w' b o neg nd X ∧ Fr w w' No := by
  have KB := Lib.hid (bitLen_c bx n cx X w hX hn (by omega) hN)
  have K0 := Lib.hid (And.intro hX (And.intro hN hG))
  have h0 : ((n : Int) == 0) = false := by simp; omega
  have f10 : floatOfInt .f64 10 = 4621819117588971520 := by decide +kernel
  clear hX hN hG
  go_enter_defers Tryz.func26, Tryz.ntmps26
  go_wp2_with fail
  refine KB.out.mono ?_
  rintro e w0 ⟨L, rfl, hL1, hL2, hL3, hL4, rfl⟩
  obtain ⟨r, i, d1, d2, d3, d4⟩ := digits_run L (by omega)
  have KX : Hid (X < 10 ^ (i + 1)) := Lib.hid (Nat.lt_of_lt_of_le hL3 d4)
  clear hL1 hL2 hL3 hL4 d4 KB
  go_wp2_with fail
  refine (log2_10 _).mono ?_
  rintro e w0' ⟨rfl, rfl⟩
  go_upto_if 41 with fail
  go_cut [7] from 20 (fun v7 wx => v7 = .int .i64 ((i + 1 + sg neg : Nat) : Int) ∧ wx = w0')
  case first =>
    cases neg
    · go_wp2_with fail
      go_meet
      case rel => exact ⟨rfl, rfl⟩
    · go_wp2_with fail
      go_meet
      case rel => exact ⟨by go_num, rfl⟩
  case rest =>
    obtain ⟨rfl, rfl⟩ := hcut
    have hsg : sg neg ≤ 1 := by unfold sg; split <;> omega
    obtain ⟨M, hM⟩ : ∃ M, M = i + 1 + sg neg := ⟨_, rfl⟩
    rw [← hM]
    have KM := Lib.hid hM
    have hM4 : M ≤ 400 := by omega
    have hmk := mkb_c M (by omega)
    have u1 : IntKind.u64.wrap (-10) = 18446744073709551606 := by decide
    have u2 : bits .and .u64 10 18446744073709551606 = 2 := by decide +kernel
    clear hM d1 d2
    go_wp2_with fail
    refine (stack_c _).mono ?_
    rintro e wy ⟨rfl, rfl⟩
    obtain ⟨m1, m2, m3, m4⟩ := itoa_mem wc M
    go_wp2_with fail
    generalize ((wc.alloc (.cells (mkb M) 5)).alloc (.cells #[.pointer none] 89)) = w2 at *
    obtain ⟨bs, hbs⟩ : ∃ bs, bs = wc.heap.size := ⟨_, rfl⟩
    simp only [← hbs] at m1 m2 m4 ⊢
    obtain ⟨p, hp⟩ : ∃ p, p = bs + 1 := ⟨_, rfl⟩
    simp only [← hp] at m2 ⊢
    have Km := Lib.hid (And.intro m1 (And.intro m2 (And.intro m3 (And.intro m4 (And.intro hbs hp)))))
    have hG2 : Gl w2 := K0.out.2.2.fr m3 (fun _ _ c => c)
    have KD := Lib.hid (divisors_c p n w2 hG2 hn1)
    clear m1 m2 m3 m4 hbs hp hG2 hmk u1 u2
    refine (maxPow_c _).mono ?_
    rintro e wz ⟨rfl, rfl⟩
    go_wp2_with fail
    refine KD.out.mono ?_
    rintro e w3 ⟨t, tv, bt, e0, g0, e1, g1, rfl, hD⟩
    have hX3 : Ws w3 bx 0 n X := (K0.out.1.fr Km.out.2.2.1 (fun _ _ c => c)).fr hD.f (fun _ _ c => c)
    have KS := Lib.hid (set_c (.slice none 0 0) 0 bx 0 n cx X hn (by omega) w3 (Or.inl rfl) hX3 (fun h => absurd rfl h))
    have Kdv := Lib.hid hD
    clear hD hX3 KD
    go_wp2_with fail
    refine KS.out.mono ?_
    rintro e w4 ⟨bq, cq, rfl, q1, q2, q3, q4, q5, q6⟩
    have hXM : X < 10 ^ M := Nat.lt_of_lt_of_le KX.out (Nat.pow_le_pow_right (by decide) (by have := KM.out; omega))
    obtain ⟨hpre, hF4, hqn⟩ := itoa_pre K0.out.2.2 Km.out.2.2.1 Km.out.2.2.2.2.1 (by have := Km.out.2.2.2.2; omega) (by have := Km.out.2.2.2; omega) Km.out.1 Km.out.2.1 hM4 Kdv.out q3 q4 ⟨q1, q2⟩ q5 K0.out.2.1 q6 hXM
    have KC := Lib.hid (conv_any Kdv.out.t2 hpre)
    have Kb := Lib.hid (And.intro hpre.ks (And.intro hF4 hqn))
    clear q1 q2 q3 q4 q5 q6 hpre hF4 hqn KS Kdv
    go_wp2_with fail
    refine KC.out.mono ?_
    rintro e w5 ⟨rfl, a', b', r1, r2, r3, r4, r5⟩
    obtain ⟨s1, s2, s3⟩ := itoa_far (w := wc) Kb.out.1 Kb.out.2.1 r2 r5 Km.out.2.2.2 Kb.out.2.2
    have KB5 := Lib.hid (Kb.out.1.fr r5)
    have K5 := Lib.hid (And.intro r1 (And.intro r4 (And.intro s1 (And.intro s2 s3))))
    clear r1 r2 r3 r4 r5 s1 s2 s3 KC
    have hM0 : 0 < M := by have := KM.out; omega
    go_wp2_with fail
    go_loopw [7] (fun v7 wr => wr = w5 ∧ ∃ j : Nat, v7 = .int .i64 j ∧ j < M ∧ Hid (X < 10 ^ (M - j))) (fun v7 _ => M - (intOf v7).toNat)
    case atStart => exact ⟨rfl, 0, rfl, hM0, Lib.hid hXM⟩
    case round =>
      obtain ⟨rfl, j, rfl, hj, HX⟩ := hrel
      have hc := K5.out.2.1 (M - 1 - j) (by omega)
      rw [show 0 + (M - 1 - (M - 1 - j)) = j from by omega] at hc
      have hd := dg_lt X (M - 1 - j)
      have hz := dg_top (X := X) (k := M - 1 - j) (by rw [show M - 1 - j + 1 = M - j from by omega]; exact HX.out)
      by_cases h00 : dg X (M - 1 - j) = 0
      · have hjM : j + 1 < M := by
          refine Nat.lt_of_not_le (fun h => ?_)
          have h1 := hz.1 h00
          rw [show M - 1 - j = 0 from by omega, Nat.pow_zero] at h1
          have h2 := K0.out.2.1.2 (by omega)
          have h3 := bp_pos (n - 1)
          omega
        have KN : Hid (X < 10 ^ (M - (j + 1))) := Lib.hid (by rw [show M - (j + 1) = M - 1 - j from by omega]; exact hz.1 h00)
        rw [h00] at hc
        have hc' : wr.cell? ⟨bs, j, none⟩ = some (.int .u8 48) := hc
        clear hc hz h00 hd HX hXM
        go_wp2_with fail
        go_roundw
        case rel => exact ⟨trivial, j + 1, by go_num, hjM, KN⟩
        case measure => simp [intOf]; omega
      · have hlow := hz.2 h00
        have hb : (((48 + dg X (M - 1 - j) : Nat) : Int) == 48) = false := by simp; omega
        obtain ⟨dgt, hdg⟩ : ∃ dgt : Nat, dgt = 48 + dg X (M - 1 - j) := ⟨_, rfl⟩
        rw [← hdg] at hc hb
        have K9 := Lib.hid (And.intro hlow hdg)
        clear hz h00 hd hlow hdg hXM
        cases neg with
        | false =>
          have KF := Lib.hid (free_c p a' b' 0 .returning wr K5.out.1)
          go_wp2_with fail
          refine leaves_cons (f := 38) (args := #[.pointer (some ⟨p, 0, none⟩)]) (by simp) (by simp [go_sem]) ?_
          refine KF.out.mono ?_
          rintro e u' w8 ⟨rfl, rfl, hF8⟩
          refine ⟨_, results_tmp (t := 6) (by kernel_rfl) _ _ _, bs, j, M - j, M - j, rfl, by omega, by omega, ?_, HX.out, ⟨fun h => absurd h (by simp), fun k hk => ?_⟩, K5.out.2.2.2.1.trans hF8 K5.out.2.2.2.2⟩
          · rw [show M - j - 1 = M - 1 - j from by omega]; exact K9.out.1
          · have := K5.out.2.1 k (by omega)
            rw [show j + sg false + (M - j - 1 - k) = 0 + (M - 1 - k) from by show j + 0 + _ = _; omega]
            exact hF8.keep this K5.out.2.2.1
        | true =>
          have hM2 : M = i + 2 := KM.out
          have hj1 : 1 ≤ j := by
            refine Nat.le_of_not_lt (fun h => ?_)
            have h1 := K9.out.1
            have h2 : 10 ^ (i + 1) ≤ 10 ^ (M - 1 - j) := Nat.pow_le_pow_right (by decide) (by omega)
            have h3 := KX.out
            omega
          obtain ⟨j0, rfl⟩ : ∃ j0, j = j0 + 1 := ⟨j - 1, by omega⟩
          have hB5 : Blk wr bs M := KB5.out
          have fz := hB5.fz j0
          obtain ⟨z, hz0⟩ := hB5.here j0 (by omega)
          have hF6 : Fr wr (wr.setCell ⟨bs, j0, none⟩ (.int .u8 45)) (fun q k => q = bs ∧ k = j0) := (Fr.refl _ _).set _ _ _ (fun _ => ⟨rfl, rfl⟩)
          have hbsn := Km.out.2.2.2.2
          have KF := Lib.hid (free_c p a' b' 0 .returning _ (K5.out.1.fr hF6 (fun c => by omega) (fun c => K5.out.2.2.1 c.1.symm)))
          have K6 := Lib.hid (And.intro hF6 (hB5.get j0 (by omega) (.int .u8 45)))
          have Kbs := Lib.hid hbsn
          have e1 : ((j0 + 1 : Nat) : Int) - 1 = (j0 : Int) := by omega
          clear hB5 hF6 hbsn hM2
          go_wp2_with fail
          refine leaves_cons (f := 38) (args := #[.pointer (some ⟨p, 0, none⟩)]) (by simp) (by simp [go_sem]) ?_
          refine KF.out.mono ?_
          rintro e u' w8 ⟨rfl, rfl, hF8⟩
          refine ⟨_, results_tmp (t := 6) (by kernel_rfl) _ _ _, bs, j0, M - (j0 + 1), M - j0, ?_, by omega, by omega, ?_, HX.out, ⟨fun _ => ?_, fun k hk => ?_⟩, ((K5.out.2.2.2.1).trans K6.out.1 (fun q k hq c => by have := Kbs.out.1; omega)).trans hF8 K5.out.2.2.2.2⟩
          · rw [show M - (j0 + 1) + sg true = M - j0 from by show _ + 1 = _; omega]; rfl
          · rw [show M - (j0 + 1) - 1 = M - 1 - (j0 + 1) from by omega]; exact K9.out.1
          · exact hF8.keep K6.out.2 K5.out.2.2.1
          · have := K5.out.2.1 k (by omega)
            rw [show j0 + sg true + (M - (j0 + 1) - 1 - k) = 0 + (M - 1 - k) from by show j0 + 1 + _ = _; omega]
            exact hF8.keep (K6.out.1.keep this (by omega)) K5.out.2.2.1
end Go.Proofs.YtdidglfaogmnfaaGreatDoor
