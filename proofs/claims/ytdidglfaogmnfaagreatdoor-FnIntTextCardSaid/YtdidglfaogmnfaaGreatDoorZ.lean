/-
  A part of the proof of FnIntText: the table of divisors.
-/
import Derived.Test.YtdidglfaogmnfaaGreatDoorY
import Derived.Deep.CutBlock
namespace Go.Proofs.YtdidglfaogmnfaaGreatDoor
open Go.RowKit

/-- the cells of a new table -/
def tbl (k : Nat) : Array Value := if k = 1 then #[.slice none 0 0, .int .i64 0, .int .i64 0] else #[.slice none 0 0, .int .i64 0, .int .i64 0, .slice none 0 0, .int .i64 0, .int .i64 0]
theorem mktab1 (w : World) : (Instr.makeSlice 75 (.int .i64 1) (.int .i64 1)).run Tryz.prog w = .ok (.slice (some ⟨w.heap.size, 0, none⟩) 1 1) (w.alloc (.cells #[.slice none 0 0, .int .i64 0, .int .i64 0] 91)) := by kernel_rfl
theorem mktab2 (w : World) : (Instr.makeSlice 75 (.int .i64 2) (.int .i64 2)).run Tryz.prog w = .ok (.slice (some ⟨w.heap.size, 0, none⟩) 2 2) (w.alloc (.cells #[.slice none 0 0, .int .i64 0, .int .i64 0, .slice none 0 0, .int .i64 0, .int .i64 0] 91)) := by kernel_rfl
theorem mktab (k : Nat) (hk : 1 ≤ k) (hk1 : k ≤ 2) (w : World) : (Instr.makeSlice 75 (.int .i64 k) (.int .i64 k)).run Tryz.prog w = .ok (.slice (some ⟨w.heap.size, 0, none⟩) k k) (w.alloc (.cells (tbl k) 91)) := by
  have : k = 1 ∨ k = 2 := by omega
  rcases this with rfl | rfl
  · exact mktab1 w
  · exact mktab2 w
theorem tbl_size (k : Nat) (hk : 1 ≤ k) (hk1 : k ≤ 2) : (tbl k).size = 3 * k := by
  have : k = 1 ∨ k = 2 := by omega
  rcases this with rfl | rfl <;> rfl
theorem mul10 {n V c R : Nat} (hV : V < 18446744073709551616 ^ n) (hR : R < 18446744073709551616 ^ n) (he : R + c * 18446744073709551616 ^ n = V % 18446744073709551616 ^ n * 10 + 0) :
    (V * 10 < 18446744073709551616 ^ n → c = 0 ∧ R = V * 10) ∧ (18446744073709551616 ^ n ≤ V * 10 → c ≠ 0) := by
  rw [Nat.mod_eq_of_lt hV, Nat.add_zero] at he
  generalize 18446744073709551616 ^ n = P at *
  constructor
  · intro h
    rcases Nat.eq_zero_or_pos c with e | e
    · subst e; exact ⟨rfl, by omega⟩
    · have : P ≤ c * P := Nat.le_mul_of_pos_left _ e
      omega
  · rintro h rfl
    omega
theorem nrm_eq {V k n : Nat} (hN : Nrm V k) (h1 : 18446744073709551616 ^ n ≤ V) (h2 : V < 18446744073709551616 ^ (n + 1)) : k = n + 1 := by
  have := nrm_le hN h2
  refine Nat.le_antisymm this (Nat.le_of_not_lt (fun h => ?_))
  have h3 := hN.1
  have h4 : 18446744073709551616 ^ k ≤ 18446744073709551616 ^ n := Nat.pow_le_pow_right (by decide) (by omega)
  omega
/-- the table so far: i rows are done -/
structure TabS (w wr : World) (k bt i : Nat) : Prop where
  b : Blk wr bt (3 * k)
  n : w.heap.size ≤ bt
  f : Fr w wr No
  r0 : 1 ≤ i → ∃ e g, DivRow wr bt 0 e 8 g D154 512 154 ∧ Blk wr e g ∧ e ≠ bt ∧ w.heap.size ≤ e ∧ 8 ≤ g ∧ g ≤ 4000
  r1 : 2 ≤ i → ∃ e g, DivRow wr bt 3 e 16 g D308 1024 308 ∧ e ≠ bt ∧ w.heap.size ≤ e
  z : ∀ j, i ≤ j → j < k → wr.cell? ⟨bt, 3 * j + 2, none⟩ = some (.int .i64 0)
theorem TabS.start (w : World) (k : Nat) (hk : 1 ≤ k) (hk1 : k ≤ 2) : TabS w (w.alloc (.cells (tbl k) 91)) k w.heap.size 0 := by
  refine ⟨Blk.new w _ 91 _ (tbl_size k hk hk1), Nat.le_refl _, (Fr.refl _ _).alloc _, fun h => absurd h (by omega), fun h => absurd h (by omega), fun j _ hj => ?_⟩
  rw [cell_of_row _ _ _ (tbl k) 91 (0, 0) (heap_alloc_new w _)]
  have : (k = 1 ∧ j = 0) ∨ (k = 2 ∧ j = 0) ∨ (k = 2 ∧ j = 1) := by omega
  rcases this with ⟨rfl, rfl⟩ | ⟨rfl, rfl⟩ | ⟨rfl, rfl⟩ <;> rfl
/-- what is kept beside the row at o: the blocks below B -/
def Oth (w wr : World) (k bt o B : Nat) : Prop := (o = 0 → 2 ≤ k → wr.cell? ⟨bt, 5, none⟩ = some (.int .i64 0)) ∧ (o = 3 → ∃ e g, DivRow wr bt 0 e 8 g D154 512 154 ∧ Blk wr e g ∧ e ≠ bt ∧ w.heap.size ≤ e ∧ e < B ∧ 8 ≤ g ∧ g ≤ 4000)
theorem Oth.fr {w wr w2 : World} {S : Nat → Nat → Prop} {k bt o B : Nat} (h : Oth w wr k bt o B) (hf : Fr wr w2 S) (hb : bt < B) (hS : ∀ q j, q < B → ¬ S q j) : Oth w w2 k bt o B := by
  refine ⟨fun ho hk => hf.keep (h.1 ho hk) (hS _ _ hb), fun ho => ?_⟩
  obtain ⟨e, g, h1, h2, h3, h4, h5, h6⟩ := h.2 ho
  exact ⟨e, g, h1.fr hf (fun _ => hS _ _ hb) (fun _ => hS _ _ h5), h2.fr hf, h3, h4, h5, h6⟩
theorem Oth.set {w wr : World} {k bt o B j : Nat} (h : Oth w wr k bt o B) (v : Value) (hj : j < 3) : Oth w (wr.setCell ⟨bt, o + j, none⟩ v) k bt o B := by
  refine ⟨fun ho hk => ?_, fun ho => ?_⟩
  · rw [cell_set_ne _ _ _ _ _ _ (by omega)]; exact h.1 ho hk
  · obtain ⟨e, g, h1, h2, h3, h4, h5, h6⟩ := h.2 ho
    have hf : Fr wr (wr.setCell ⟨bt, o + j, none⟩ v) (fun q i => q = bt ∧ i = o + j) := (Fr.refl _ _).set _ _ _ (fun _ => ⟨rfl, rfl⟩)
    exact ⟨e, g, ⟨hf.keep h1.c0 (by omega), hf.keep h1.c1 (by omega), hf.keep h1.c2 (by omega), h1.ws.fr hf (fun _ _ c => h3 c.1)⟩, h2.fr hf, h3, h4, h5, h6⟩
/-- the row at o while it is made: the divisor V of n words, nd digits -/
structure RowS (w wr : World) (k bt o B e n g V nd : Nat) : Prop where
  b : Blk wr bt (3 * k)
  bn : w.heap.size ≤ bt ∧ bt < B
  f : Fr w wr No
  c0 : wr.cell? ⟨bt, o, none⟩ = some (.slice (some ⟨e, 0, none⟩) n g)
  c2 : wr.cell? ⟨bt, o + 2, none⟩ = some (.int .i64 nd)
  be : Blk wr e g
  ws : Ws wr e 0 n V
  en : B ≤ e
  hg : n ≤ g ∧ g ≤ 4000
  ot : Oth w wr k bt o B
theorem row_put {w w2 : World} {k bt o B e n g V nd : Nat} (hB : Blk w2 bt (3 * k)) (hbn : w.heap.size ≤ bt ∧ bt < B) (hF : Fr w w2 No) (ho : o = 0 ∨ (o = 3 ∧ k = 2)) (hk : 1 ≤ k) (he : Blk w2 e g) (hw : Ws w2 e 0 n V) (hen : B ≤ e) (hg : n ≤ g ∧ g ≤ 4000) (hot : Oth w w2 k bt o B) :
    RowS w ((w2.setCell ⟨bt, o, none⟩ (.slice (some ⟨e, 0, none⟩) n g)).setCell ⟨bt, o + 2, none⟩ (.int .i64 (nd : Nat))) k bt o B e n g V nd := by
  have h1 : Fr w2 (w2.setCell ⟨bt, o, none⟩ (.slice (some ⟨e, 0, none⟩) n g)) (fun q _ => q = bt) := (Fr.refl _ _).set _ _ _ (fun _ => rfl)
  have h2 : Fr w2 ((w2.setCell ⟨bt, o, none⟩ (.slice (some ⟨e, 0, none⟩) n g)).setCell ⟨bt, o + 2, none⟩ (.int .i64 (nd : Nat))) (fun q _ => q = bt) := h1.set _ _ _ (fun _ => rfl)
  have hne : e ≠ bt := by omega
  refine ⟨hB.fr h2, hbn, hF.trans h2 (fun q j hq c => by omega), ?_, (hB.fr h1).get _ (by omega) _, he.fr h2, hw.fr h2 (fun _ _ c => hne c), hen, hg, (hot.set (j := 0) _ (by omega)).set (j := 2) _ (by omega)⟩
  rw [cell_set_ne _ _ _ _ _ _ (by omega)]
  exact hB.get _ (by omega) _
/-- the row with its last cell -/
theorem row_end0 {w wr : World} {k bt B e g : Nat} (h : RowS w wr k bt 0 B e 8 g D154 154) (hk : 1 ≤ k) (hk2 : k ≤ 2) : TabS w (wr.setCell ⟨bt, 1, none⟩ (.int .i64 512)) k bt 1 := by
  have hb := h.bn
  have hen := h.en
  have h2 : Fr wr (wr.setCell ⟨bt, 1, none⟩ (.int .i64 512)) (fun q i => q = bt ∧ i = 1) := (Fr.refl _ _).set _ _ _ (fun _ => ⟨rfl, rfl⟩)
  refine ⟨h.b.fr h2, hb.1, h.f.trans h2 (fun q j hq c => by omega), fun _ => ⟨e, g, ⟨h2.keep h.c0 (by omega), h.b.get 1 (by omega) _, h2.keep h.c2 (by omega), h.ws.fr h2 (fun _ _ c => by omega)⟩, h.be.fr h2, by omega, by omega, h.hg.1, h.hg.2⟩, fun c => absurd c (by omega), fun j hj hjk => ?_⟩
  obtain rfl : j = 1 := by omega
  exact h2.keep (h.ot.1 rfl (by omega)) (by omega)
theorem row_end1 {w wr : World} {k bt B e g : Nat} (h : RowS w wr k bt 3 B e 16 g D308 308) (hk2 : k = 2) : TabS w (wr.setCell ⟨bt, 4, none⟩ (.int .i64 1024)) k bt 2 := by
  subst hk2
  have hb := h.bn
  have hen := h.en
  have h2 : Fr wr (wr.setCell ⟨bt, 4, none⟩ (.int .i64 1024)) (fun q i => q = bt ∧ i = 4) := (Fr.refl _ _).set _ _ _ (fun _ => ⟨rfl, rfl⟩)
  obtain ⟨e0, g0, k1, k2, k3, k4, k5, k6, k7⟩ := h.ot.2 rfl
  refine ⟨h.b.fr h2, hb.1, h.f.trans h2 (fun q j hq c => by omega), fun _ => ⟨e0, g0, ⟨h2.keep k1.c0 (by omega), h2.keep k1.c1 (by omega), h2.keep k1.c2 (by omega), k1.ws.fr h2 (fun _ _ c => k3 c.1)⟩, k2.fr h2, k3, k4, k6, k7⟩,
    fun _ => ⟨e, g, ⟨h2.keep h.c0 (by omega), h.b.get 4 (by omega) _, h2.keep h.c2 (by omega), h.ws.fr h2 (fun _ _ c => by omega)⟩, by omega, by omega⟩, fun j hj hjk => by omega⟩
theorem bits_eq {V L t : Nat} (h1 : 2 ^ (L - 1) ≤ V) (h2 : V < 2 ^ L) (g1 : 2 ^ t ≤ V) (g2 : V < 2 ^ (t + 1)) : L = t + 1 := by
  have a1 := (Nat.pow_lt_pow_iff_right (show 1 < 2 by decide)).1 (Nat.lt_of_le_of_lt g1 h2)
  have a2 := (Nat.pow_lt_pow_iff_right (show 1 < 2 by decide)).1 (Nat.lt_of_le_of_lt h1 g2)
  omega
/-- a copy of the divisor, to try the next one -/
structure Lrg (wr : World) (B bt e bl gl n V : Nat) : Prop where
  b : Blk wr bl gl
  w : Ws wr bl 0 n V
  g : n ≤ gl ∧ gl ≤ 4000
  n : B ≤ bl ∧ bl ≠ e ∧ bl ≠ bt
theorem lrg_new {w wr w2 : World} {k bt o B e n g V nd bl gl : Nat} (h : RowS w wr k bt o B e n g V nd) (hn : n ≤ gl) (hg : gl ≤ 4000) (hW : Whr wr w2 bl 0 (.slice none 0 0)) (hB : Blk w2 bl gl) (hV : Ws w2 bl 0 n V) (hF : Fr wr w2 (fun q _ => q = 0 ∧ (.slice none 0 0 : Value) ≠ .slice none 0 0)) :
    RowS w w2 k bt o B e n g V nd ∧ Lrg w2 B bt e bl gl n V := by
  have hF' : Fr wr w2 No := hF.weaken (fun q j _ c => absurd rfl c.2)
  have h1 := h.b.lt
  have h2 := h.be.lt
  have h3 := h.bn
  have h4 := h.en
  have hbl : wr.heap.size ≤ bl := by
    rcases hW with e | e
    · exact absurd rfl e.2
    · exact e.1
  exact ⟨⟨h.b.fr hF', h.bn, h.f.trans hF' (fun _ _ _ c => c), hF'.keep h.c0 (fun c => c), hF'.keep h.c2 (fun c => c), h.be.fr hF', h.ws.fr hF' (fun _ _ c => c), h.en, h.hg, h.ot.fr hF' h3.2 (fun _ _ _ c => c)⟩, ⟨hB, hV, ⟨hn, hg⟩, by omega⟩⟩
/-- times ten, in place, in the copy -/
theorem lrg_mul {w wr w2 : World} {k bt o B e n g V nd bl gl R : Nat} (h : RowS w wr k bt o B e n g V nd) (hL : Lrg wr B bt e bl gl n V) (hW : Ws w2 bl 0 n R) (hF : Fr wr w2 (Rg bl 0 n)) : RowS w w2 k bt o B e n g V nd ∧ Lrg w2 B bt e bl gl n R := by
  have h3 := h.bn
  have h4 := hL.n
  have hne : ∀ q j, (q = bt ∨ q = e) → ¬ Rg bl 0 n q j := fun q j hq c => by
    have := c.1
    rcases hq with e | e <;> omega
  exact ⟨⟨h.b.fr hF, h.bn, h.f.trans hF (fun q j hq c => by have := c.1; omega), hF.keep h.c0 (hne _ _ (Or.inl rfl)), hF.keep h.c2 (hne _ _ (Or.inl rfl)), h.be.fr hF, h.ws.fr hF (fun _ _ => hne _ _ (Or.inr rfl)), h.en, h.hg, h.ot.fr hF h3.2 (fun q j hq c => by have := c.1; omega)⟩, ⟨hL.b.fr hF, hW, hL.g, hL.n⟩⟩
theorem two_set (w : World) (b i j : Nat) (v u : Value) : Fr w ((w.setCell ⟨b, i, none⟩ v).setCell ⟨b, j, none⟩ u) (fun q _ => q = b) := by
  have h1 : Fr w (w.setCell ⟨b, i, none⟩ v) (fun q _ => q = b) := (Fr.refl _ _).set _ _ _ (fun _ => rfl)
  exact h1.set _ _ _ (fun _ => rfl)
/-- the copy becomes the divisor -/
theorem lrg_set {w wr w2 : World} {k bt o B e n g V V2 nd bl gl e2 g2 : Nat} (h : RowS w wr k bt o B e n g V nd) (hL : Lrg wr B bt e bl gl n V2) (ho : o = 0 ∨ (o = 3 ∧ k = 2)) (hk : 1 ≤ k) (hn : n ≤ g2) (hg : g2 ≤ 4000)
    (hW : Whr wr w2 e2 e (.slice (some ⟨e, 0, none⟩) n g)) (hB : Blk w2 e2 g2) (hV : Ws w2 e2 0 n V2) (hF : Fr wr w2 (fun q _ => q = e ∧ (.slice (some ⟨e, 0, none⟩) n g : Value) ≠ .slice none 0 0)) :
    (RowS w ((w2.setCell ⟨bt, o, none⟩ (.slice (some ⟨e2, 0, none⟩) n g2)).setCell ⟨bt, o + 2, none⟩ (.int .i64 ((nd + 1 : Nat) : Int))) k bt o B e2 n g2 V2 (nd + 1) ∧ Lrg ((w2.setCell ⟨bt, o, none⟩ (.slice (some ⟨e2, 0, none⟩) n g2)).setCell ⟨bt, o + 2, none⟩ (.int .i64 ((nd + 1 : Nat) : Int))) B bt e2 bl gl n V2) ∧
      Blk w2 bt (3 * k) ∧ w2.cell? ⟨bt, o + 2, none⟩ = some (.int .i64 nd) := by
  have h3 := h.bn
  have h4 := hL.n
  have h5 := h.en
  have hbt := h.b.lt
  have hbl := hL.b.lt
  have hFs : Fr wr w2 (fun q _ => q = e) := hF.weaken (fun q j _ c => c.1)
  have he2 : B ≤ e2 ∧ bl ≠ e2 ∧ e2 ≠ bt := by
    have hs := h.f.size
    rcases hW with f | f
    · rw [f.1]; omega
    · have := h.be.lt; omega
  have hb2 := h.b.fr hFs
  have hle : w.heap.size ≤ e := by omega
  have hr := row_put (nd := nd + 1) hb2 h3 (h.f.trans hFs (fun q j hq c => absurd (show q = e from c) (by omega))) ho hk hB hV he2.1 ⟨hn, hg⟩ (h.ot.fr hFs h3.2 (fun q j hq c => absurd (show q = e from c) (by omega)))
  have hbe : bt ≠ e := by omega
  refine ⟨⟨hr, ?_⟩, hb2, hFs.keep h.c2 (fun c => hbe c)⟩
  have hf2 : Fr w2 ((w2.setCell ⟨bt, o, none⟩ (.slice (some ⟨e2, 0, none⟩) n g2)).setCell ⟨bt, o + 2, none⟩ (.int .i64 ((nd + 1 : Nat) : Int))) (fun q _ => q = bt) := two_set w2 bt o (o + 2) _ _
  exact ⟨(hL.b.fr hFs).fr hf2, (hL.w.fr hFs (fun _ _ c => h4.2.1 c)).fr hf2 (fun _ _ c => h4.2.2 c), hL.g, ⟨h4.1, he2.2.1, h4.2.2⟩⟩
theorem made_row {wr w2 : World} {V e k0 g0 n : Nat} (hM : Made wr w2 (.slice none 0 0) 0 V e k0 g0) (h1 : 18446744073709551616 ^ n ≤ V) (h2 : V < 18446744073709551616 ^ (n + 1)) : k0 = n + 1 ∧ wr.heap.size ≤ e ∧ Fr wr w2 No := by
  refine ⟨nrm_eq hM.n h1 h2, ?_, hM.fr.weaken (fun q j _ c => absurd rfl c.2)⟩
  rcases hM.wh with f | f
  · exact absurd rfl f.2
  · exact f.1
set_option exponentiation.threshold 2000 in
theorem dsq : D154 * D154 = D308 := by rw [D154_e, D308_e, ← Nat.pow_add]
set_option exponentiation.threshold 2000 in
theorem dbig : 18446744073709551616 ^ 16 ≤ D308 * 10 := by decide +kernel
set_option exponentiation.threshold 2000 in
theorem two1023 : 2 ^ 1023 ≤ D308 ∧ D308 < 2 ^ (1023 + 1) := by decide +kernel
/-- ten to the 152nd, 153rd, 154th -/
def T (j : Nat) : Nat := 10 ^ (152 + j)
theorem T_fact (j : Nat) (hj : j ≤ 2) : 18446744073709551616 ^ 7 ≤ T j ∧ T j < 18446744073709551616 ^ 8 ∧ (j < 2 → T j * 10 < 18446744073709551616 ^ 8) ∧ (j = 2 → 18446744073709551616 ^ 8 ≤ T j * 10) := by
  have : j = 0 ∨ j = 1 ∨ j = 2 := by omega
  rcases this with rfl | rfl | rfl <;> decide +kernel
theorem T_succ (j : Nat) : T j * 10 = T (j + 1) := by unfold T; rw [← Nat.pow_succ]; rfl
set_option maxRecDepth 100000 in
set_option maxHeartbeats 2000000 in
theorem divisors_big (p m k : Nat) (w : World) (hG : Gl w) (hm : (k = 1 ∧ 9 ≤ m ∧ m ≤ 17) ∨ (k = 2 ∧ 18 ≤ m ∧ m ≤ 19)) :
    Calls Tryz.prog 40 #[.pointer (some ⟨p, 0, none⟩), .int .i64 m, .int .u64 10, .int .i64 19, .int .u64 10000000000000000000] w fun e w' => ∃ bt, e = .returned (.slice (some ⟨bt, 0, none⟩) k k) ∧ TabS w w' k bt k := by
  have l8 := hG.1
  have KG := Lib.hid hG
  have hk : 1 ≤ k := by omega
  have hk2 : k ≤ 2 := by omega
  have h8 : decide ((m : Int) ≤ 8) = false := by simp; omega
  have hmk := mktab k hk hk2
  have KS := Lib.hid (TabS.start w k hk hk2)
  have hz := KS.out.z (k - 1) (by omega) (by omega)
  rw [Nat.mul_comm] at hz
  have Km := Lib.hid hm
  clear hG hm
  go_enter Tryz.func40, Tryz.ntmps40
  go_upto_block 0 with fail
  go_cut [11, 12] from 24 (fun v11 _ wx => v11 = .int .i64 k ∧ wx = w)
  case first =>
    rcases Km.out with ⟨rfl, m1, m2⟩ | ⟨rfl, m1, m2⟩
    · have hd : ¬ (8 < (m : Int) / 2) := by omega
      go_wp2_with fail
      refine wp_loop_rounds 1 ?_
      rw [rounds_succ]
      go_wp2_with fail
      go_meet
      case rel => exact ⟨rfl, rfl⟩
    · have hd : (8 < (m : Int) / 2) := by omega
      have hd2 : ¬ (16 < (m : Int) / 2) := by omega
      have hdd : decide (8 < (m : Int) / 2) = true := by simp; omega
      go_wp2_with fail
      refine wp_loop_rounds 2 ?_
      rw [rounds_succ]
      go_wp2_with fail
      rw [rounds_succ]
      go_wp2_with fail
      go_meet
      case rel => exact ⟨rfl, rfl⟩
  case rest =>
    obtain ⟨rfl, rfl⟩ := hcut
    go_wp2_with fail
    generalize hbt : wc.heap.size = bt at *
    generalize wc.alloc (.cells (tbl k) 91) = w1 at *
    clear hmk hbt hz
    go_loopw [14, 15] (fun _ v15 wr => ∃ i : Nat, i ≤ k ∧ v15 = .int .i64 i ∧ Hid (TabS wc wr k bt i)) (fun _ v15 _ => k - (intOf v15).toNat)
    case atStart => exact ⟨0, by omega, rfl, KS⟩
    case round =>
      clear KS
      obtain ⟨i, hi, rfl, HR⟩ := hrel
      have hG : Gl wr := KG.out.fr HR.out.f (fun _ _ c => c)
      have l8r := hG.1
      have hcase : i = k ∨ (i = 0 ∧ 0 < k) ∨ (i = 1 ∧ k = 2) := by omega
      rcases hcase with rfl | ⟨rfl, hk0⟩ | ⟨rfl, hk2e⟩
      · go_wp2_with fail
        go_returns
        exact ⟨bt, rfl, HR.out⟩
      · have hz := HR.out.z 0 (by omega) hk0
        have hB := HR.out.b
        have KE := Lib.hid (expWW_c p wr hG)
        have hk0' : (0 : Int) < (k : Int) := by omega
        clear hG
        go_wp2_with fail
        refine KE.out.mono ?_
        rintro e w2 ⟨e0, k0, g0, rfl, hM⟩
        rw [show (10 : Nat) ^ 152 = T 0 from rfl] at hM
        obtain ⟨hk8, hge, hF2⟩ := made_row hM (n := 7) (by decide +kernel) (by decide +kernel)
        have hk8' : k0 = 8 := hk8
        subst hk8'
        have hB2 := hB.fr hF2
        have f0 := hB2.fz 0
        have f2 := hB2.fz 2
        obtain ⟨z0, y0⟩ := hB2.here 0 (by omega)
        obtain ⟨z2, y2⟩ := hB2.here 2 (by omega)
        have l82 : w2.cell? ⟨1, 0, none⟩ = some (.int .i64 8) := hF2.keep l8r (fun c => c)
        have KR : Hid (RowS wc ((w2.setCell ⟨bt, 0, none⟩ (.slice (some ⟨e0, 0, none⟩) 8 g0)).setCell ⟨bt, 2, none⟩ (.int .i64 152)) k bt 0 wr.heap.size e0 8 g0 (T 0) 152) := Lib.hid (row_put (o := 0) (B := wr.heap.size) (nd := 152) hB2 ⟨HR.out.n, hB.lt⟩ (HR.out.f.trans hF2 (fun _ _ _ c => c)) (Or.inl rfl) hk hM.bk hM.ws hge ⟨hM.hk.1, hM.hk.2.1⟩ ⟨fun _ h2 => hF2.keep (HR.out.z 1 (by omega) (by omega)) (fun c => c), fun h => absurd h (by omega)⟩)
        have hbt1 : bt ≠ 1 := by have := cell_lt KG.out.2.2.2; have := HR.out.n; omega
        obtain ⟨B, hBd⟩ : ∃ B, B = wr.heap.size := ⟨_, rfl⟩
        rw [← hBd] at KR
        clear hM hF2 hB2 hB hge hBd
        go_wp2_with fail
        generalize (w2.setCell ⟨bt, 0, none⟩ (.slice (some ⟨e0, 0, none⟩) 8 g0)).setCell ⟨bt, 2, none⟩ (.int .i64 152) = w4 at *
        refine (set_c (.slice none 0 0) 0 e0 0 8 g0 (T 0) (by omega) (by omega) w4 (Or.inl rfl) KR.out.ws (fun h => absurd rfl h)).mono ?_
        rintro e w5 ⟨bl, gl, rfl, q1, q2, q3, q4, q5, q6⟩
        obtain ⟨r1, r2⟩ := lrg_new KR.out q1 q2 q3 q4 q5 q6
        have KX := Lib.hid (And.intro r1 r2)
        clear q2 q3 q4 q5 q6 r1 r2 KR
        go_wp2_with fail
        obtain ⟨wo, rfl⟩ : ∃ wo : World, wo = wr := ⟨_, rfl⟩
        go_loopg [] 2 (fun gk wy => ∃ j : Nat, j + gk = 2 ∧ Hid (∃ e g, RowS wc wy k bt 0 B e 8 g (T j) (152 + j) ∧ Lrg wy B bt e bl gl 8 (T j)))
        case atStart => exact ⟨0, rfl, Lib.hid ⟨e0, g0, KX.out⟩⟩
        case round =>
          clear KX
          obtain ⟨j, hj, HL⟩ := hrel
          obtain ⟨e1, g1, hR, hL⟩ := HL.out
          have km := mulAddV_c bl 0 bl 0 8 gl 10 0 (T j) gl gl wr hL.b (by omega) (by omega) hL.w (by omega) (by omega) (fun x y h1 h2 h3 => by omega)
          rw [show ((10 : Nat) : Int) = 10 from rfl, show ((0 : Nat) : Int) = 0 from rfl] at km
          have KM := Lib.hid km
          have KL := Lib.hid (And.intro hR hL)
          have Kj := Lib.hid hj
          obtain ⟨t1, t2, t3, t4⟩ := T_fact j (by omega)
          have KT := Lib.hid (And.intro t1 (And.intro t2 (And.intro t3 t4)))
          clear km hR hL HL t1 t2 t3 t4 hj
          go_wp2_with fail
          refine KM.out.mono ?_
          rintro e w6 ⟨c, R, rfl, hc, hRl, he, hW, hF⟩
          obtain ⟨n1, n2⟩ := mul10 KT.out.2.1 hRl he
          by_cases h2 : j < 2
          · obtain ⟨rfl, rfl⟩ := n1 (KT.out.2.2.1 h2)
            rw [T_succ] at hW
            obtain ⟨m1, m2⟩ := lrg_mul KL.out.1 KL.out.2 hW hF
            have c0 := m1.c0
            have hne : e1 ≠ bl := fun h => m2.n.2.1 h.symm
            have K7 := Lib.hid (set_c (.slice (some ⟨e1, 0, none⟩) 8 g1) e1 bl 0 8 gl (T (j + 1)) (by omega) (by omega) w6 (Or.inr ⟨8, g1, rfl, m1.hg.1, m1.hg.2, m1.be⟩) m2.w (fun _ => hne))
            have K6 := Lib.hid (And.intro m1 m2)
            clear hc hRl he hW hF n1 n2 m1 m2 hne
            go_wp2_with fail
            refine K7.out.mono ?_
            rintro e w7 ⟨e2, g2, rfl, q1, q2, q3, q4, q5, q6⟩
            obtain ⟨m3, m4, m5⟩ := lrg_set K6.out.1 K6.out.2 (Or.inl rfl) hk q1 q2 q3 q4 q5 q6
            have m5' : w7.cell? ⟨bt, 2, none⟩ = some (.int .i64 ((152 + j : Nat) : Int)) := m5
            have f0 := m4.fz 0
            have f2 := m4.fz 2
            obtain ⟨z0, y0⟩ := m4.here 0 (by omega)
            rw [show ((152 + j + 1 : Nat) : Int) = 152 + (j : Int) + 1 from by omega] at m3
            have K8 := Lib.hid m3
            clear q2 q3 q4 q5 q6 m3 m4 m5
            go_wp2_with fail
            go_roundg (gk - 1)
            case measure => have := Kj.out; omega
            case rel => exact ⟨j + 1, by have := Kj.out; omega, Lib.hid ⟨e2, g2, K8.out.1, K8.out.2⟩⟩
          · obtain rfl : j = 2 := by have := Kj.out; omega
            have hc0 := n2 (KT.out.2.2.2 rfl)
            have hcb : ((c : Int) == 0) = false := by simp; omega
            obtain ⟨m1, m2⟩ := lrg_mul KL.out.1 KL.out.2 hW hF
            have c0 := m1.c0
            have K7 := Lib.hid (bitLen_c e1 8 g1 (T 2) w6 m1.ws (by omega) (by omega) ⟨KT.out.2.1, fun _ => KT.out.1⟩)
            have K6 := Lib.hid m1
            have f1 := m1.b.fz 1
            obtain ⟨z1, y1⟩ := m1.b.here 1 (by omega)
            clear hc hRl he hW hF n1 n2 m1 m2 hc0
            go_wp2_with fail
            refine K7.out.mono ?_
            rintro e w7 ⟨L, rfl, _, hL2, hL3, _, rfl⟩
            have hL : L = 512 := bits_eq (t := 511) hL2 hL3 (by decide +kernel) (by decide +kernel)
            subst hL
            have K9 := Lib.hid (row_end0 K6.out hk hk2)
            clear hL2 hL3
            go_wp2_with fail
            go_roundw
            case rel => exact ⟨1, by omega, rfl, K9⟩
            case measure => simp [intOf] <;> omega
      · have K2e := Lib.hid hk2e
        have h1k : (1 : Int) < (k : Int) := by omega
        have hz := HR.out.z 1 (by omega) (by omega)
        have hz5 : wr.cell? ⟨bt, 5, none⟩ = some (.int .i64 0) := hz
        obtain ⟨e0, g0, d0, d1, d2, d3, d4, d5⟩ := HR.out.r0 (by omega)
        have hB := HR.out.b
        have c0 := d0.c0
        have KE := Lib.hid (sqr_c (.slice none 0 0) 0 e0 8 g0 D154 p wr (by omega) (by omega) (Or.inl rfl) d0.ws d154.2.1 d1 d4 d5 (fun h => absurd rfl h) hG (fun h => absurd rfl h))
        have KD := Lib.hid (And.intro d0 (And.intro d1 (And.intro d2 (And.intro d3 (And.intro d4 d5)))))
        clear hG d0 d1 d2 d3 d4 d5 hz hk2e
        go_wp2_with fail
        refine KE.out.mono ?_
        rintro e w2 ⟨e1, k1, g1, rfl, hM⟩
        rw [show D154 * D154 = D308 from dsq] at hM
        obtain ⟨hk16, hge, hF2⟩ := made_row hM (n := 15) (Nat.le_trans (Nat.le_mul_of_pos_left _ (by decide)) d308.1) d308.2.1
        have hk16' : k1 = 16 := hk16
        subst hk16'
        have hB2 := hB.fr hF2
        have f3 := hB2.fz 3
        have f5 := hB2.fz 5
        obtain ⟨z3, y3⟩ := hB2.here 3 (by have := K2e.out; omega)
        obtain ⟨z5, y5⟩ := hB2.here 5 (by have := K2e.out; omega)
        have c22 : w2.cell? ⟨bt, 2, none⟩ = some (.int .i64 154) := hF2.keep KD.out.1.c2 (fun c => c)
        have KR : Hid (RowS wc ((w2.setCell ⟨bt, 3, none⟩ (.slice (some ⟨e1, 0, none⟩) 16 g1)).setCell ⟨bt, 5, none⟩ (.int .i64 308)) k bt 3 wr.heap.size e1 16 g1 D308 308) := Lib.hid (row_put (o := 3) (B := wr.heap.size) (nd := 308) hB2 ⟨HR.out.n, hB.lt⟩ (HR.out.f.trans hF2 (fun _ _ _ c => c)) (Or.inr ⟨rfl, K2e.out⟩) hk hM.bk hM.ws hge ⟨hM.hk.1, hM.hk.2.1⟩
          ⟨fun h => absurd h (by omega), fun _ => ⟨e0, g0, KD.out.1.fr hF2 (fun _ c => c) (fun _ c => c), KD.out.2.1.fr hF2, KD.out.2.2.1, KD.out.2.2.2.1, KD.out.2.1.lt, KD.out.2.2.2.2⟩⟩)
        obtain ⟨B, hBd⟩ : ∃ B, B = wr.heap.size := ⟨_, rfl⟩
        rw [← hBd] at KR
        clear hM hF2 hB2 hB hge hBd c0
        go_wp2_with fail
        generalize (w2.setCell ⟨bt, 3, none⟩ (.slice (some ⟨e1, 0, none⟩) 16 g1)).setCell ⟨bt, 5, none⟩ (.int .i64 308) = w4 at *
        refine (set_c (.slice none 0 0) 0 e1 0 16 g1 D308 (by omega) (by omega) w4 (Or.inl rfl) KR.out.ws (fun h => absurd rfl h)).mono ?_
        rintro e w5 ⟨bl, gl, rfl, q1, q2, q3, q4, q5, q6⟩
        obtain ⟨r1, r2⟩ := lrg_new KR.out q1 q2 q3 q4 q5 q6
        have km := mulAddV_c bl 0 bl 0 16 gl 10 0 D308 gl gl w5 r2.b (by omega) (by omega) r2.w (by omega) (by omega) (fun x y h1 h2 h3 => by omega)
        rw [show ((10 : Nat) : Int) = 10 from rfl, show ((0 : Nat) : Int) = 0 from rfl] at km
        have KM := Lib.hid km
        have KX := Lib.hid (And.intro r1 r2)
        clear q2 q3 q4 q5 q6 r1 r2 KR km
        go_wp2_with fail
        refine wp_loop_rounds 1 ?_
        rw [rounds_succ]
        go_wp2_with fail
        refine KM.out.mono ?_
        rintro e w6 ⟨c, R, rfl, hc, hRl, he, hW, hF⟩
        have hc0 := (mul10 d308.2.1 hRl he).2 dbig
        have hcb : ((c : Int) == 0) = false := by simp; omega
        obtain ⟨m1, m2⟩ := lrg_mul KX.out.1 KX.out.2 hW hF
        have c3 := m1.c0
        have K7 := Lib.hid (bitLen_c e1 16 g1 D308 w6 m1.ws (by omega) (by omega) ⟨d308.2.1, fun _ => Nat.le_trans (Nat.le_mul_of_pos_left _ (by decide)) d308.1⟩)
        have K6 := Lib.hid m1
        have f4 := m1.b.fz 4
        obtain ⟨z4, y4⟩ := m1.b.here 4 (by have := K2e.out; omega)
        clear hc hRl he hW hF m1 m2 hc0 KX KM
        go_wp2_with fail
        refine K7.out.mono ?_
        rintro e w7 ⟨L, rfl, _, hL2, hL3, _, rfl⟩
        have hL : L = 1024 := bits_eq (t := 1023) hL2 hL3 two1023.1 two1023.2
        subst hL
        have K9 := Lib.hid (row_end1 K6.out K2e.out)
        clear hL2 hL3
        go_wp2_with fail
        go_roundw
        case rel => exact ⟨2, by have := K2e.out; omega, rfl, K9⟩
        case measure => simp [intOf] <;> omega
end Go.Proofs.YtdidglfaogmnfaaGreatDoor
