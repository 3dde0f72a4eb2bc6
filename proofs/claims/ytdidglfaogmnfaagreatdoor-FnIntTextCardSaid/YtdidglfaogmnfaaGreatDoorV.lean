/-
  A part of the proof of FnIntText: convertWords: the table of divisors, the loop that divides.
-/
import Derived.Test.YtdidglfaogmnfaaGreatDoorT
namespace Go.Proofs.YtdidglfaogmnfaaGreatDoor
open Go.RowKit

def D154 : Nat := 10 ^ 154
set_option exponentiation.threshold 2000 in
def D308 : Nat := 10 ^ 308
theorem D154_e : D154 = 10 ^ 154 := by unfold D154; rfl
set_option exponentiation.threshold 2000 in
theorem D308_e : D308 = 10 ^ 308 := by unfold D308; rfl
theorem d154 : 9223372036854775808 * 18446744073709551616 ^ (8 - 1) ≤ D154 ∧ D154 < 18446744073709551616 ^ 8 ∧ Dv (wd D154 (8 - 1)) 6286296073600901791 := by
  refine ⟨by decide +kernel, by decide +kernel, ?_⟩
  rw [show wd D154 (8 - 1) = 13758210268297397763 from by decide +kernel]
  exact dv_b
set_option exponentiation.threshold 2000 in
theorem d308 : 9223372036854775808 * 18446744073709551616 ^ (16 - 1) ≤ D308 ∧ D308 < 18446744073709551616 ^ 16 ∧ Dv (wd D308 (16 - 1)) 14714841108160220095 := by
  refine ⟨by decide +kernel, by decide +kernel, ?_⟩
  rw [show wd D308 (16 - 1) = 10261342003245940623 from by decide +kernel]
  exact dv_c
/-- a row of the table: the divisor D of nw words, its length in bits, in digits -/
structure DivRow (w : World) (bt i bd nw cd D nb nd : Nat) : Prop where
  c0 : w.cell? ⟨bt, i, none⟩ = some (.slice (some ⟨bd, 0, none⟩) nw cd)
  c1 : w.cell? ⟨bt, i + 1, none⟩ = some (.int .i64 nb)
  c2 : w.cell? ⟨bt, i + 2, none⟩ = some (.int .i64 nd)
  ws : Ws w bd 0 nw D
theorem DivRow.fr {w w' : World} {S : Nat → Nat → Prop} {bt i bd nw cd D nb nd : Nat} (h : DivRow w bt i bd nw cd D nb nd) (hf : Fr w w' S) (h1 : ∀ j, ¬ S bt j) (h2 : ∀ j, ¬ S bd j) : DivRow w' bt i bd nw cd D nb nd :=
  ⟨hf.keep h.c0 (h1 _), hf.keep h.c1 (h1 _), hf.keep h.c2 (h1 _), h.ws.fr hf (fun _ _ => h2 _)⟩
/-- the table of t rows -/
structure Tab (w : World) (t bt e0 g0 e1 g1 : Nat) : Prop where
  r0 : 1 ≤ t → DivRow w bt 0 e0 8 g0 D154 512 154
  r1 : 2 ≤ t → DivRow w bt 3 e1 16 g1 D308 1024 308
theorem Tab.fr {w w' : World} {S : Nat → Nat → Prop} {t bt e0 g0 e1 g1 : Nat} (h : Tab w t bt e0 g0 e1 g1) (hf : Fr w w' S) (h1 : ∀ j, ¬ S bt j) (h2 : ∀ j, ¬ S e0 j) (h3 : ∀ j, ¬ S e1 j) : Tab w' t bt e0 g0 e1 g1 :=
  ⟨fun k => (h.r0 k).fr hf h1 h2, fun k => (h.r1 k).fr hf h1 h3⟩
/-- the loop that divides: what holds ahead of a round -/
structure CvLoop (w wr : World) (p a b l bq bs os n N X : Nat) (rv : Value) (br a' b' b1 c1 y n1 Y : Nat) : Prop where
  st : Stk wr p a' b' l
  na : Nw w wr a' a
  nb : Nw w wr b' b
  kq : Blk wr b1 c1
  hc : y ≤ c1 ∧ c1 ≤ 4000
  kw : Ws wr b1 0 y Y
  kn : Nrm Y y
  w1 : b1 = bq ∨ (w.heap.size ≤ b1 ∧ b1 < wr.heap.size)
  sr : Sto wr rv br
  rn : rv ≠ .slice none 0 0 → w.heap.size ≤ br
  d1 : b1 ≠ p ∧ b1 ≠ a' ∧ b1 ≠ b' ∧ b1 ≠ bs
  dr : rv ≠ .slice none 0 0 → br ≠ p ∧ br ≠ a' ∧ br ≠ b' ∧ br ≠ b1
  ks : Blk wr bs N
  ds : Ds wr bs os n (n - n1) X
  he : ∀ k, k < n1 → dg Y k = dg X (n - n1 + k)
  hlt : Y < 10 ^ n1
  hn1 : n1 ≤ n
  fr : Fr w wr (fun k j => k = p ∨ k = a ∨ (k = b ∧ l ≤ j) ∨ k = bq ∨ (k = bs ∧ os ≤ j ∧ j < os + n))
theorem CvLoop.start {w : World} {p a b l bq nq cq bs os n N X : Nat} (hS : Stk w p a b l) (hB : Blk w bq cq) (hc : nq ≤ cq ∧ cq ≤ 4000) (hX : Ws w bq 0 nq X) (hN : Nrm X nq) (hd : bq ≠ p ∧ bq ≠ a ∧ bq ≠ b ∧ bq ≠ bs) (hs : Blk w bs N) (hlt : X < 10 ^ n) :
    CvLoop w w p a b l bq bs os n N X (.slice none 0 0) 0 a b bq cq nq n X :=
  ⟨hS, Or.inl rfl, Or.inl rfl, hB, hc, hX, hN, Or.inl rfl, Or.inl rfl, fun h => absurd rfl h, hd, fun h => absurd rfl h, hs, fun k hk => absurd hk (by omega), fun k _ => by rw [Nat.sub_self, Nat.zero_add], hlt, Nat.le_refl _, Fr.refl _ _⟩
/-- one round -/
theorem CvLoop.step {w wr w2 w3 : World} {p a b l bq bs os n N X : Nat} {rv : Value} {br a' b' b1 c1 y n1 Y D d b2 kq cq r2 kr cr a2 b2' a3 b3 : Nat} (h : CvLoop w wr p a b l bq bs os n N X rv br a' b' b1 c1 y n1 Y)
    (hold : p < w.heap.size ∧ a < w.heap.size ∧ b < w.heap.size ∧ bq < w.heap.size ∧ bs < w.heap.size) (hsn : bs ≠ p ∧ bs ≠ a ∧ bs ≠ b) (hD : D = 10 ^ d) (hd : d ≤ n1)
    (hP : DivPost wr w2 (.slice (some ⟨b1, 0, none⟩) y c1) rv p a' b' l b1 br (Y / D) (Y % D) b2 kq cq r2 kr cr a2 b2')
    (hS3 : Stk w3 p a3 b3 l) (hna : Nw w2 w3 a3 a2) (hnb : Nw w2 w3 b3 b2') (hDs : Ds w3 bs (os + (n1 - d)) d d (Y % D))
    (hF : Fr w2 w3 (fun k j => k = p ∨ k = a2 ∨ (k = b2' ∧ l ≤ j) ∨ k = r2 ∨ (k = bs ∧ os + (n1 - d) ≤ j ∧ j < os + (n1 - d) + d))) :
    CvLoop w w3 p a b l bq bs os n N X (.slice (some ⟨r2, 0, none⟩) kr cr) r2 a3 b3 b2 cq kq (n1 - d) (Y / D) := by
  have hz : (Value.slice (some ⟨b1, 0, none⟩) y c1) ≠ .slice none 0 0 := by simp
  have s1 := h.fr.size
  have s2 := hP.fr.size
  have s3 := hF.size
  have w1 := h.w1
  have hd1 := h.d1
  have nwa : a2 = a ∨ (w.heap.size ≤ a2 ∧ a2 < w2.heap.size) := by
    rcases hP.na with e | e <;> rcases h.na with f | f <;> first | (left; omega) | (right; omega)
  have nwb : b2' = b ∨ (w.heap.size ≤ b2' ∧ b2' < w2.heap.size) := by
    rcases hP.nb with e | e <;> rcases h.nb with f | f <;> first | (left; omega) | (right; omega)
  have nwa' : a' = a ∨ (w.heap.size ≤ a' ∧ a' < wr.heap.size) := h.na
  have nwb' : b' = b ∨ (w.heap.size ≤ b' ∧ b' < wr.heap.size) := h.nb
  have hb2 : b2 = b1 ∨ (wr.heap.size ≤ b2 ∧ b2 < w2.heap.size) := by
    rcases hP.whq with e | e
    · exact Or.inl e.1
    · exact Or.inr e
  have hr2 : w.heap.size ≤ r2 ∧ r2 < w2.heap.size := by
    refine ⟨?_, hP.bkr.lt⟩
    rcases hP.whr with e | e
    · rw [e.1]; exact h.rn e.2
    · omega
  have hb2s : b2 ≠ bs := by
    rcases hb2 with e | e
    · rw [e]; exact hd1.2.2.2
    · omega
  have hbd : ∀ k j, k < w.heap.size → (k = p ∨ k = a2 ∨ (k = b2' ∧ l ≤ j) ∨ k = r2 ∨ (k = bs ∧ os + (n1 - d) ≤ j ∧ j < os + (n1 - d) + d)) → (k = p ∨ k = a ∨ (k = b ∧ l ≤ j) ∨ k = bq ∨ (k = bs ∧ os ≤ j ∧ j < os + n)) := by
    intro k j hk c
    have := h.hn1
    rcases c with c | c | c | c | c
    · exact Or.inl c
    · rcases nwa with e | e
      · exact Or.inr (Or.inl (by omega))
      · omega
    · rcases nwb with e | e
      · exact Or.inr (Or.inr (Or.inl ⟨by omega, c.2⟩))
      · omega
    · omega
    · exact Or.inr (Or.inr (Or.inr (Or.inr ⟨c.1, by omega, by omega⟩)))
  have hF2 : Fr w w2 (fun k j => k = p ∨ k = a ∨ (k = b ∧ l ≤ j) ∨ k = bq ∨ (k = bs ∧ os ≤ j ∧ j < os + n)) := h.fr.trans hP.fr (fun k j hk c => by
    rcases c with c | c | c | c | c
    · exact Or.inl c
    · rcases nwa' with e | e
      · exact Or.inr (Or.inl (by omega))
      · omega
    · rcases nwb' with e | e
      · exact Or.inr (Or.inr (Or.inl ⟨by omega, c.2⟩))
      · omega
    · rcases w1 with e | e
      · exact Or.inr (Or.inr (Or.inr (Or.inl (by omega))))
      · omega
    · have := h.rn c.2; omega)
  have hsa : bs ≠ a' ∧ bs ≠ b' ∧ bs ≠ a2 ∧ bs ≠ b2' := by omega
  have hap := hP.apq
  have har := hP.apr
  have hn1 := h.hn1
  refine ⟨hS3, ?_, ?_, hP.bkq.fr hF, ⟨hP.hkq.1, hP.hkq.2.1⟩, hP.wq.fr hF (fun i _ c => ?_), hP.nq, ?_, Or.inr ⟨kr, cr, rfl, hP.hkr.1, hP.hkr.2.1, hP.bkr.fr hF⟩, fun _ => hr2.1, ⟨hap.1, ?_, ?_, hb2s⟩, fun _ => ⟨har.1, ?_, ?_, fun e => hP.ne e.symm⟩, ?_, ?_, ?_, ?_, by omega, hF2.trans hF hbd⟩
  · rcases hna with e | e <;> rcases nwa with f | f <;> first | (left; omega) | (right; omega)
  · rcases hnb with e | e <;> rcases nwb with f | f <;> first | (left; omega) | (right; omega)
  · rcases c with c | c | c | c | c
    · exact hap.1 c
    · exact hap.2.1 c
    · exact hap.2.2 c.1
    · exact hP.ne c
    · exact hb2s c.1
  · rcases hb2 with e | e
    · rcases w1 with f | f
      · exact Or.inl (by omega)
      · exact Or.inr (by omega)
    · exact Or.inr (by omega)
  · rcases hna with e | e
    · rw [e]; exact hap.2.1
    · have := hP.bkq.lt; omega
  · rcases hnb with e | e
    · rw [e]; exact hap.2.2
    · have := hP.bkq.lt; omega
  · rcases hna with e | e
    · rw [e]; exact har.2.1
    · have := hP.bkr.lt; omega
  · rcases hnb with e | e
    · rw [e]; exact har.2.2
    · have := hP.bkr.lt; omega
  · exact (h.ks.fr hP.fr).fr hF
  · have hold2 : Ds w2 bs os n (n - n1) X := h.ds.fr hP.fr (fun k hk c => by
      rcases c with c | c | c | c | c
      · exact hsn.1 c
      · exact hsa.1 c
      · exact hsa.2.1 c.1
      · exact hd1.2.2.2 c.1.symm
      · have := h.rn c.2; omega)
    have hold3 : Ds w3 bs os n (n - n1) X := hold2.fr hF (fun k hk c => by
      clear hDs hD hP h
      rcases c with c | c | c | c | c
      · exact hsn.1 c
      · exact hsa.2.2.1 c
      · exact hsa.2.2.2 c.1
      · omega
      · have := c.2.2; omega)
    intro k hk
    by_cases hk1 : k < n - n1
    · exact hold3 k hk1
    · have h1 := hDs (k - (n - n1)) (by omega)
      rw [hD, dg_mod _ _ _ (by omega), h.he _ (by omega), show n - n1 + (k - (n - n1)) = k from by omega, show os + (n1 - d) + (d - 1 - (k - (n - n1))) = os + (n - 1 - k) from by omega] at h1
      exact h1
  · intro k hk
    rw [hD, dg_div, h.he _ (by omega), show n - (n1 - d) + k = n - n1 + (d + k) from by omega]
  · rw [hD]
    refine (Nat.div_lt_iff_lt_mul (Nat.pow_pos (by decide))).2 ?_
    rw [← Nat.pow_add, show n1 - d + d = n1 from by omega]
    exact h.hlt
/-- what convertWords wants -/
structure CvPre (w : World) (t : Nat) (tv : Value) (bt ct e0 g0 e1 g1 p a b l bq nq cq bs os n cs N X : Nat) : Prop where
  tv : (tv = .slice none 0 0 ∧ t = 0) ∨ (tv = .slice (some ⟨bt, 0, none⟩) t ct ∧ t ≤ ct)
  tab : Tab w t bt e0 g0 e1 g1
  kq : Blk w bq cq
  hc : nq ≤ cq ∧ cq ≤ 4000
  kw : Ws w bq 0 nq X
  kn : Nrm X nq
  ks : Blk w bs N
  hs : os + n ≤ N ∧ n ≤ 400 ∧ n ≤ cs
  gl : Gl w
  st : Stk w p a b l
  hl : l ≤ 40
  hlt : X < 10 ^ n
  z0 : t = 0 → nq ≤ 8
  z1 : t = 1 → nq ≤ 17
  z2 : t = 2 → nq ≤ 8 ∨ (18 ≤ nq ∧ nq ≤ 19)
  dq : bq ≠ p ∧ bq ≠ a ∧ bq ≠ b ∧ bq ≠ bs
  ds : bs ≠ p ∧ bs ≠ a ∧ bs ≠ b
  lo : 8 ≤ p ∧ 8 ≤ a ∧ 8 ≤ b ∧ 8 ≤ bq ∧ 8 ≤ bs
  ft : 1 ≤ t → bt ≠ p ∧ bt ≠ a ∧ bt ≠ b ∧ bt ≠ bq ∧ bt ≠ bs ∧ bt < w.heap.size
  f0 : 1 ≤ t → e0 ≠ p ∧ e0 ≠ a ∧ e0 ≠ b ∧ e0 ≠ bq ∧ e0 ≠ bs ∧ e0 < w.heap.size
  f1 : 2 ≤ t → e1 ≠ p ∧ e1 ≠ a ∧ e1 ≠ b ∧ e1 ≠ bq ∧ e1 ≠ bs ∧ e1 < w.heap.size
def CvPost (w w' : World) (p a b l bq bs os n X : Nat) : Prop := ∃ a' b', Stk w' p a' b' l ∧ Nw w w' a' a ∧ Nw w w' b' b ∧ Ds w' bs os n n X ∧ Fr w w' (fun k j => k = p ∨ k = a ∨ (k = b ∧ l ≤ j) ∨ k = bq ∨ (k = bs ∧ os ≤ j ∧ j < os + n))
def ConvSpec (t : Nat) : Prop := ∀ (tv : Value) (bt ct e0 g0 e1 g1 p a b l bq nq cq bs os n cs N X : Nat) (w : World), CvPre w t tv bt ct e0 g0 e1 g1 p a b l bq nq cq bs os n cs N X →
  Calls Tryz.prog 41 #[.slice (some ⟨bq, 0, none⟩) nq cq, .pointer (some ⟨p, 0, none⟩), .slice (some ⟨bs, os, none⟩) n cs, .int .u64 10, .int .i64 19, .int .u64 10000000000000000000, tv] w fun e w' => e = .returned (.tuple #[]) ∧ CvPost w w' p a b l bq bs os n X
theorem nw_far {w w' : World} {a a' e : Nat} (h : Nw w w' a' a) (h1 : e ≠ a) (h2 : e < w.heap.size) : e ≠ a' := by rcases h with f | f <;> omega
/-- the division of a round -/
theorem cv_div {w wr : World} {t : Nat} {tv rv : Value} {bt ct e0 g0 e1 g1 p a b l bq nq cq bs os n cs N X br a' b' b1 c1 y n1 Y e g nw D rc nb nd i : Nat} (h0 : CvPre w t tv bt ct e0 g0 e1 g1 p a b l bq nq cq bs os n cs N X)
    (h : CvLoop w wr p a b l bq bs os n N X rv br a' b' b1 c1 y n1 Y) (hr : DivRow wr bt i e nw g D nb nd) (fe : e ≠ p ∧ e ≠ a ∧ e ≠ b ∧ e ≠ bq ∧ e ≠ bs ∧ e < w.heap.size) (hnw : 5 ≤ nw ∧ nw ≤ 36) (hy : nw < y ∧ y ≤ 49)
    (hD : 9223372036854775808 * 18446744073709551616 ^ (nw - 1) ≤ D ∧ D < 18446744073709551616 ^ nw ∧ Dv (wd D (nw - 1)) rc) :
    Calls Tryz.prog 58 #[.slice (some ⟨b1, 0, none⟩) y c1, .pointer (some ⟨p, 0, none⟩), rv, .slice (some ⟨b1, 0, none⟩) y c1, .slice (some ⟨e, 0, none⟩) nw g] wr fun e' w' => ∃ b2 kq cq2 r2 kr cr a2 b2',
      e' = .returned (.tuple #[.slice (some ⟨b2, 0, none⟩) kq cq2, .slice (some ⟨r2, 0, none⟩) kr cr]) ∧ DivPost wr w' (.slice (some ⟨b1, 0, none⟩) y c1) rv p a' b' l b1 br (Y / D) (Y % D) b2 kq cq2 r2 kr cr a2 b2' := by
  have hs := h.fr.size
  have hg := cell_lt h0.gl.2.2.2
  have hlo := h0.lo
  have na := h.na
  have nb := h.nb
  have w1 := h.w1
  have la : 8 ≤ a' := by rcases na with f | f <;> omega
  have lb : 8 ≤ b' := by rcases nb with f | f <;> omega
  have l1 : 8 ≤ b1 := by rcases w1 with f | f <;> omega
  have hG : Gl wr := h0.gl.fr h.fr (fun k hk c => by omega)
  have fa := nw_far na fe.2.1 fe.2.2.2.2.2
  have fb := nw_far nb fe.2.2.1 fe.2.2.2.2.2
  have hd1 := h.d1
  exact div_c _ rv p a' b' l b1 br b1 0 y c1 e 0 nw g Y D rc wr (Or.inr ⟨y, c1, rfl, h.hc.1, h.hc.2, h.kq⟩) h.sr h.kw hr.ws hG h.st h0.hl
    ⟨fun _ => ⟨hd1.1, hd1.2.1, hd1.2.2.1⟩, fun hn => by have := h.dr hn; have := h.rn hn; omega, fun _ hn => fun f => (h.dr hn).2.2.2 f.symm, ⟨hd1.1, hd1.2.1, hd1.2.2.1⟩, ⟨fe.1, fa, fb⟩⟩
    ⟨hlo.1, la, lb, fun _ => l1, fun hn => by have := h.rn hn; omega⟩ hnw.1 hnw.2 hy.1 hy.2 h.kn.1 hD.1 hD.2.1 hD.2.2
theorem nf {x a a2 s r : Nat} (h : a2 = a ∨ (s ≤ a2 ∧ a2 < r)) (h1 : x ≠ a) (h2 : x < s) : x ≠ a2 := by rcases h with e | e <;> omega
theorem nn {a a1 a2 s1 s2 s : Nat} (h1 : a1 = a ∨ (s ≤ a1 ∧ a1 < s1)) (h2 : a2 = a1 ∨ (s1 ≤ a2 ∧ a2 < s2)) (hs : s ≤ s1) (hs2 : s1 ≤ s2) : a2 = a ∨ (s ≤ a2 ∧ a2 < s2) := by
  rcases h1 with e | e <;> rcases h2 with f | f <;> first | (left; omega) | (right; omega)
theorem nl {a a2 s r m : Nat} (h : a2 = a ∨ (s ≤ a2 ∧ a2 < r)) (h1 : m ≤ a) (h2 : m ≤ s) : m ≤ a2 := by rcases h with e | e <;> omega
theorem nd {k a a2 s r : Nat} (h : a2 = a ∨ (s ≤ a2 ∧ a2 < r)) (h1 : k = a2) (h2 : k < s) : k = a := by rcases h with e | e <;> omega
/-- what the inner call wants -/
theorem cv_sub {w wr w2 : World} {t : Nat} {tv rv : Value} {bt ct e0 g0 e1 g1 p a b l bq nq cq bs os n cs N X br a' b' b1 c1 y n1 Y D d b2 kq cq2 r2 kr cr a2 b2' : Nat} (h0 : CvPre w (t + 1) tv bt ct e0 g0 e1 g1 p a b l bq nq cq bs os n cs N X)
    (h : CvLoop w wr p a b l bq bs os n N X rv br a' b' b1 c1 y n1 Y) (hD : D = 10 ^ d) (hd : d ≤ n1) (hd1 : 1 ≤ d) (hz0 : t = 0 → kr ≤ 8) (hz1 : t = 1 → kr ≤ 17) (ht : t ≤ 1) (hct : t ≤ ct)
    (hP : DivPost wr w2 (.slice (some ⟨b1, 0, none⟩) y c1) rv p a' b' l b1 br (Y / D) (Y % D) b2 kq cq2 r2 kr cr a2 b2') :
    CvPre w2.drew t (.slice (some ⟨bt, 0, none⟩) t ct) bt ct e0 g0 e1 g1 p a2 b2' l r2 kr cr bs (os + (n1 - d)) d (cs - (n1 - d)) N (Y % D) := by
  have hlt : Y % D < 10 ^ d := by rw [hD]; exact Nat.mod_lt _ (Nat.pow_pos (by decide))
  have s1 := h.fr.size
  have s2 := hP.fr.size
  have s12 := Nat.le_trans s1 s2
  have nwa := nn h.na hP.na s1 s2
  have nwb := nn h.nb hP.nb s1 s2
  have hr2 : w.heap.size ≤ r2 := by
    rcases hP.whr with e | e
    · rw [e.1]; exact h.rn e.2
    · exact Nat.le_trans s1 e.1
  have nr : ∀ x, x < w.heap.size → x ≠ r2 := fun x hx e => by omega
  have hF2 : Fr w w2 (fun k j => k = p ∨ k = a ∨ k = b ∨ k = bq ∨ k = bs) := (h.fr.weaken (fun k j _ c => by
      rcases c with c | c | c | c | c
      · exact Or.inl c
      · exact Or.inr (Or.inl c)
      · exact Or.inr (Or.inr (Or.inl c.1))
      · exact Or.inr (Or.inr (Or.inr (Or.inl c)))
      · exact Or.inr (Or.inr (Or.inr (Or.inr c.1))))).trans hP.fr (fun k j hk c => by
    rcases c with c | c | c | c | c
    · exact Or.inl c
    · exact Or.inr (Or.inl (nd h.na c hk))
    · exact Or.inr (Or.inr (Or.inl (nd h.nb c.1 hk)))
    · exact Or.inr (Or.inr (Or.inr (Or.inl (nd h.w1 c.1 hk))))
    · have h1 := h.rn c.2
      have h2 := c.1
      omega)
  have hF3 := hF2.drew
  have hg := cell_lt h0.gl.2.2.2
  have nfar : ∀ x, (x ≠ p ∧ x ≠ a ∧ x ≠ b ∧ x ≠ bq ∧ x ≠ bs) → ¬ (x = p ∨ x = a ∨ x = b ∨ x = bq ∨ x = bs) := fun x hx c => by
    rcases c with c | c | c | c | c
    · exact hx.1 c
    · exact hx.2.1 c
    · exact hx.2.2.1 c
    · exact hx.2.2.2.1 c
    · exact hx.2.2.2.2 c
  have hlo := h0.lo
  have ft := h0.ft (by omega)
  have f0 := h0.f0 (by omega)
  have hds := h0.ds
  have hqs := h0.ks.lt
  have har := hP.apr
  have hsum : os + (n1 - d) + d ≤ N ∧ d ≤ 400 ∧ d ≤ cs - (n1 - d) := by
    have hhn := h.hn1
    have hhs := h0.hs
    clear hlt hD hlo ft f0 hds hqs har
    omega
  refine ⟨Or.inr ⟨rfl, hct⟩, ⟨fun k => (h0.tab.r0 (by omega)).fr hF3 (fun j => nfar bt ⟨ft.1, ft.2.1, ft.2.2.1, ft.2.2.2.1, ft.2.2.2.2.1⟩) (fun j => nfar e0 ⟨f0.1, f0.2.1, f0.2.2.1, f0.2.2.2.1, f0.2.2.2.2.1⟩), fun k => absurd k (by omega)⟩, hP.bkr, ⟨hP.hkr.1, hP.hkr.2.1⟩, hP.wr, hP.nr, h.ks.fr hP.fr.drew, hsum,
    h0.gl.fr hF3 (fun k hk c => ?_), hP.st, h0.hl, hlt, hz0, hz1, fun k => absurd k (by omega), ⟨har.1, har.2.1, har.2.2, (nr bs hqs).symm⟩, ⟨hds.1, nf nwa hds.2.1 hqs, nf nwb hds.2.2 hqs⟩, ⟨hlo.1, nl nwa hlo.2.1 (by omega), nl nwb hlo.2.2.1 (by omega), by omega, hlo.2.2.2.2⟩,
    fun _ => ⟨ft.1, nf nwa ft.2.1 ft.2.2.2.2.2, nf nwb ft.2.2.1 ft.2.2.2.2.2, nr bt ft.2.2.2.2.2, ft.2.2.2.2.1, Nat.lt_of_lt_of_le ft.2.2.2.2.2 hF3.size⟩, fun _ => ⟨f0.1, nf nwa f0.2.1 f0.2.2.2.2.2, nf nwb f0.2.2.1 f0.2.2.2.2.2, nr e0 f0.2.2.2.2.2, f0.2.2.2.2.1, Nat.lt_of_lt_of_le f0.2.2.2.2.2 hF3.size⟩, fun k => absurd k (by omega)⟩
  rcases c with c | c | c | c | c <;> omega
theorem cv_post {w wc wy : World} {p a b l bq bs os n N X br a' b' b1 c1 y n1 Y : Nat} {rv : Value} (h : CvLoop w wc p a b l bq bs os n N X rv br a' b' b1 c1 y n1 Y) (hsn : bs ≠ p ∧ bs ≠ a ∧ bs ≠ b) (hs : bs < w.heap.size)
    (hD : Ds wy bs os n n X) (hF : Fr wc wy (fun k j => k = b1 ∨ (k = bs ∧ os ≤ j ∧ j < os + n1))) : CvPost w wy p a b l bq bs os n X := by
  have s1 := h.fr.size
  have s2 := hF.size
  have hd1 := h.d1
  have hn1 := h.hn1
  refine ⟨a', b', h.st.fr hF (fun c => ?_) (fun c => ?_), ?_, ?_, hD, h.fr.trans hF (fun k j hk c => ?_)⟩
  · rcases c with c | c
    · exact hd1.1 c.symm
    · exact hsn.1 c.1.symm
  · rcases c with c | c
    · exact hd1.2.1 c.symm
    · exact nf h.na hsn.2.1 hs c.1.symm
  · rcases h.na with e | e
    · exact Or.inl e
    · exact Or.inr ⟨e.1, by omega⟩
  · rcases h.nb with e | e
    · exact Or.inl e
    · exact Or.inr ⟨e.1, by omega⟩
  · rcases c with c | c
    · exact Or.inr (Or.inr (Or.inr (Or.inl (nd h.w1 c hk))))
    · exact Or.inr (Or.inr (Or.inr (Or.inr ⟨c.1, c.2.1, by omega⟩)))
theorem cv_old {w wr : World} {t : Nat} {tv rv : Value} {bt ct e0 g0 e1 g1 p a b l bq nq cq bs os n cs N X br a' b' b1 c1 y n1 Y : Nat} (_h0 : CvPre w t tv bt ct e0 g0 e1 g1 p a b l bq nq cq bs os n cs N X)
    (h : CvLoop w wr p a b l bq bs os n N X rv br a' b' b1 c1 y n1 Y) : Fr w wr (fun k _ => k = p ∨ k = a ∨ k = b ∨ k = bq ∨ k = bs) := h.fr.weaken (fun k j _ c => by
  rcases c with c | c | c | c | c
  · exact Or.inl c
  · exact Or.inr (Or.inl c)
  · exact Or.inr (Or.inr (Or.inl c.1))
  · exact Or.inr (Or.inr (Or.inr (Or.inl c)))
  · exact Or.inr (Or.inr (Or.inr (Or.inr c.1))))
theorem cv_gl {w wr : World} {t : Nat} {tv rv : Value} {bt ct e0 g0 e1 g1 p a b l bq nq cq bs os n cs N X br a' b' b1 c1 y n1 Y : Nat} (h0 : CvPre w t tv bt ct e0 g0 e1 g1 p a b l bq nq cq bs os n cs N X)
    (h : CvLoop w wr p a b l bq bs os n N X rv br a' b' b1 c1 y n1 Y) : wr.cell? ⟨1, 0, none⟩ = some (.int .i64 8) := by
  have hlo := h0.lo
  exact (h0.gl.fr (cv_old h0 h) (fun k hk c => by rcases c with c | c | c | c | c <;> omega)).1
theorem far5 {x p a b bq bs s : Nat} (hx : x ≠ p ∧ x ≠ a ∧ x ≠ b ∧ x ≠ bq ∧ x ≠ bs ∧ x < s) : ¬ (x = p ∨ x = a ∨ x = b ∨ x = bq ∨ x = bs) := fun c => by
  rcases c with c | c | c | c | c
  · exact hx.1 c
  · exact hx.2.1 c
  · exact hx.2.2.1 c
  · exact hx.2.2.2.1 c
  · exact hx.2.2.2.2.1 c
theorem cv_tab {w wr : World} {t : Nat} {tv rv : Value} {bt ct e0 g0 e1 g1 p a b l bq nq cq bs os n cs N X br a' b' b1 c1 y n1 Y : Nat} (h0 : CvPre w t tv bt ct e0 g0 e1 g1 p a b l bq nq cq bs os n cs N X)
    (h : CvLoop w wr p a b l bq bs os n N X rv br a' b' b1 c1 y n1 Y) : Tab wr t bt e0 g0 e1 g1 :=
  ⟨fun k => (h0.tab.r0 k).fr (cv_old h0 h) (fun _ => far5 (h0.ft k)) (fun _ => far5 (h0.f0 k)), fun k => (h0.tab.r1 k).fr (cv_old h0 h) (fun _ => far5 (h0.ft (by omega))) (fun _ => far5 (h0.f1 k))⟩
/-- the row's last cell behind the division -/
theorem cv_row2 {w wr w2 : World} {t : Nat} {tv rv : Value} {bt ct e0 g0 e1 g1 p a b l bq nq cq bs os n cs N X br a' b' b1 c1 y n1 Y Q R b2 kq cq2 r2 kr cr a2 b2' i nd : Nat} (h0 : CvPre w t tv bt ct e0 g0 e1 g1 p a b l bq nq cq bs os n cs N X)
    (h : CvLoop w wr p a b l bq bs os n N X rv br a' b' b1 c1 y n1 Y) (hP : DivPost wr w2 (.slice (some ⟨b1, 0, none⟩) y c1) rv p a' b' l b1 br Q R b2 kq cq2 r2 kr cr a2 b2') (ht : 1 ≤ t) (hc : wr.cell? ⟨bt, i, none⟩ = some (.int .i64 nd)) : w2.cell? ⟨bt, i, none⟩ = some (.int .i64 nd) := by
  have f := h0.ft ht
  refine hP.fr.keep hc (fun c => ?_)
  rcases c with c | c | c | c | c
  · exact f.1 c
  · exact nf h.na f.2.1 f.2.2.2.2.2 c
  · exact nf h.nb f.2.2.1 f.2.2.2.2.2 c.1
  · exact nf h.w1 f.2.2.2.1 f.2.2.2.2.2 c.1
  · have := h.rn c.2; omega
theorem cv_bs {w wr w2 : World} {t : Nat} {tv rv : Value} {bt ct e0 g0 e1 g1 p a b l bq nq cq bs os n cs N X br a' b' b1 c1 y n1 Y Q R b2 kq cq2 r2 kr cr a2 b2' : Nat} (h0 : CvPre w t tv bt ct e0 g0 e1 g1 p a b l bq nq cq bs os n cs N X)
    (h : CvLoop w wr p a b l bq bs os n N X rv br a' b' b1 c1 y n1 Y) (hP : DivPost wr w2 (.slice (some ⟨b1, 0, none⟩) y c1) rv p a' b' l b1 br Q R b2 kq cq2 r2 kr cr a2 b2') : b2 ≠ bs := by
  have hs := h0.ks.lt
  have s1 := h.fr.size
  rcases hP.whq with e | e
  · rw [e.1]; exact h.d1.2.2.2
  · have := e.1; omega
theorem cv_step {w wr w2 w3 : World} {t : Nat} {tv rv : Value} {bt ct e0 g0 e1 g1 p a b l bq nq cq bs os n cs N X br a' b' b1 c1 y n1 Y D d b2 kq cq2 r2 kr cr a2 b2' : Nat} (h0 : CvPre w t tv bt ct e0 g0 e1 g1 p a b l bq nq cq bs os n cs N X)
    (h : CvLoop w wr p a b l bq bs os n N X rv br a' b' b1 c1 y n1 Y) (hD : D = 10 ^ d) (hd : d ≤ n1) (hP : DivPost wr w2 (.slice (some ⟨b1, 0, none⟩) y c1) rv p a' b' l b1 br (Y / D) (Y % D) b2 kq cq2 r2 kr cr a2 b2')
    (hpo : CvPost w2.drew w3 p a2 b2' l r2 bs (os + (n1 - d)) d (Y % D)) : ∃ br a' b', CvLoop w w3 p a b l bq bs os n N X (.slice (some ⟨r2, 0, none⟩) kr cr) br a' b' b2 cq2 kq (n1 - d) (Y / D) := by
  obtain ⟨a3, b3, k1, k2, k3, k4, k5⟩ := hpo
  have hold := h0.st.lt
  exact ⟨r2, a3, b3, h.step ⟨hold.1, hold.2.1, hold.2.2, h0.kq.lt, h0.ks.lt⟩ h0.ds hD hd hP k1 k2 k3 k4 (((Fr.refl w2 _).drew).trans k5 (fun _ _ _ c => c))⟩
/-- a number of more than k words has more than 64k bits -/
theorem bits_gt {Y y L k : Nat} (hN : Nrm Y y) (hk : k < y) (hL : Y < 2 ^ L) : 64 * k < L := by
  have h1 : 18446744073709551616 ^ k ≤ Y := Nat.le_trans (Nat.pow_le_pow_right (by decide) (by omega)) (hN.2 (by omega))
  rw [pow64] at h1
  exact (Nat.pow_lt_pow_iff_right (by decide)).1 (Nat.lt_of_le_of_lt h1 hL)
theorem nrm_le {Y k m : Nat} (hN : Nrm Y k) (h : Y < 18446744073709551616 ^ m) : k ≤ m := by
  refine Nat.le_of_not_lt (fun hlt => ?_)
  have h1 := hN.2 (by omega)
  have h2 : 18446744073709551616 ^ m ≤ 18446744073709551616 ^ (k - 1) := Nat.pow_le_pow_right (by decide) (by omega)
  omega
theorem digits_ge {Y n y d k : Nat} (hN : Nrm Y y) (hk : k < y) (h10 : 10 ^ d ≤ 18446744073709551616 ^ k) (hlt : Y < 10 ^ n) : d < n := by
  have h1 : 18446744073709551616 ^ k ≤ Y := Nat.le_trans (Nat.pow_le_pow_right (by decide) (by omega)) (hN.2 (by omega))
  exact (Nat.pow_lt_pow_iff_right (by decide)).1 (Nat.lt_of_le_of_lt (Nat.le_trans h10 h1) hlt)
theorem ten154 : 10 ^ 154 ≤ 18446744073709551616 ^ 8 := by decide +kernel
set_option exponentiation.threshold 2000 in
theorem ten308 : 10 ^ 308 ≤ 18446744073709551616 ^ 17 := by decide +kernel
theorem pos154 : 0 < D154 := by decide +kernel
theorem pos308 : 0 < D308 := by decide +kernel
theorem two154 : 2 ≤ D154 := by decide +kernel
theorem two308 : 2 ≤ D308 := by decide +kernel
theorem div_less {Y y D : Nat} (hN : Nrm Y y) (hy : 0 < y) (hD : 2 ≤ D) : Y / D < Y := by
  have h1 := hN.2 hy
  have h2 := bp_pos (y - 1)
  exact Nat.div_lt_self (by omega) hD
end Go.Proofs.YtdidglfaogmnfaaGreatDoor
