/-
  A part of the proof of FnIntText: long division: what divLarge lays ahead.
-/
import Derived.Test.YtdidglfaogmnfaaGreatDoorP
namespace Go.Proofs.YtdidglfaogmnfaaGreatDoor
open Go.RowKit

/-- which blocks are apart: the stack's, the two storages', the two numbers' -/
structure Apart (z z2 : Value) (p a b bz bz2 bx bv : Nat) : Prop where
  az : z ≠ .slice none 0 0 → bz ≠ p ∧ bz ≠ a ∧ bz ≠ b
  az2 : z2 ≠ .slice none 0 0 → bz2 ≠ p ∧ bz2 ≠ a ∧ bz2 ≠ b ∧ bz2 ≠ bx ∧ bz2 ≠ bv
  azz : z ≠ .slice none 0 0 → z2 ≠ .slice none 0 0 → bz ≠ bz2
  ax : bx ≠ p ∧ bx ≠ a ∧ bx ≠ b
  av : bv ≠ p ∧ bv ≠ a ∧ bv ≠ b
/-- behind the stack's words for v -/
theorem dl_a {w w1 : World} {z z2 : Value} {p a b l bz bz2 bx ox lu bv ov n X v a1 b1 : Nat} (hz : Sto w z bz) (hz2 : Sto w z2 bz2) (hX : Ws w bx ox lu X) (hV : Ws w bv ov n v) (hG : Gl w) (hA : Apart z z2 p a b bz bz2 bx bv)
    (hlo : 8 ≤ p ∧ 8 ≤ a ∧ 8 ≤ b) (hlu : 1 ≤ lu) (hn : 1 ≤ n) (h6 : Nw w w1 a1 a) (h7 : Nw w w1 b1 b) (h8 : Fr w w1 (fun k j => k = p ∨ k = a ∨ (k = b ∧ l ≤ j))) :
    Sto w1 z bz ∧ Sto w1 z2 bz2 ∧ Ws w1 bx ox lu X ∧ Ws w1 bv ov n v ∧ Gl w1 ∧ Apart z z2 p a1 b1 bz bz2 bx bv := by
  have k1 := cell_lt (hX 0 (by omega))
  have k2 := cell_lt (hV 0 (by omega))
  have hx := hA.ax
  have hv := hA.av
  have hs := h8.size
  have na : ∀ k, k < w.heap.size → k ≠ a → k ≠ a1 := fun k h1 h2 => by rcases h6 with e | e <;> omega
  have nb : ∀ k, k < w.heap.size → k ≠ b → k ≠ b1 := fun k h1 h2 => by rcases h7 with e | e <;> omega
  refine ⟨hz.fr h8, hz2.fr h8, hX.fr h8 (fun i _ c => by omega), hV.fr h8 (fun i _ c => by omega), hG.fr h8 (fun k hk c => by omega), ⟨fun h => ?_, fun h => ?_, hA.azz, ?_, ?_⟩⟩
  · have := hA.az h
    have hl := hz.lt h
    exact ⟨this.1, na _ hl this.2.1, nb _ hl this.2.2⟩
  · have := hA.az2 h
    have hl := hz2.lt h
    exact ⟨this.1, na _ hl this.2.1, nb _ hl this.2.2.1, this.2.2.2⟩
  · exact ⟨hx.1, na _ k1 hx.2.1, nb _ k1 hx.2.2⟩
  · exact ⟨hv.1, na _ k2 hv.2.1, nb _ k2 hv.2.2⟩
theorem dl_lo {w w1 : World} {z z2 : Value} {p a b bz bz2 a1 b1 : Nat} (h : 8 ≤ p ∧ 8 ≤ a ∧ 8 ≤ b ∧ (z ≠ .slice none 0 0 → 8 ≤ bz) ∧ (z2 ≠ .slice none 0 0 → 8 ≤ bz2)) (hG : Gl w) (h6 : Nw w w1 a1 a) (h7 : Nw w w1 b1 b) :
    8 ≤ p ∧ 8 ≤ a1 ∧ 8 ≤ b1 ∧ (z2 ≠ .slice none 0 0 → 8 ≤ bz2) :=
  have := cell_lt hG.2.2.2
  ⟨h.1, by have := h.2.1; rcases h6 with e | e <;> omega, by have := h.2.2.1; rcases h7 with e | e <;> omega, h.2.2.2.2⟩
theorem dl_z {w w1 : World} {z : Value} {p a b bz a1 b1 : Nat} (hz : Sto w z bz) (h : bz ≠ p ∧ bz ≠ a ∧ bz ≠ b) (h9 : 8 ≤ bz) (hn : z ≠ .slice none 0 0) (h6 : Nw w w1 a1 a) (h7 : Nw w w1 b1 b) : bz ≠ p ∧ bz ≠ a1 ∧ bz ≠ b1 ∧ 8 ≤ bz := by
  have := hz.lt hn
  exact ⟨h.1, by rcases h6 with e | e <;> omega, by rcases h7 with e | e <;> omega, h9⟩
theorem dl_w {w5 w6 : World} {bq bz q : Nat} {z : Value} (h : Whr (w5.drewN q) w6 bq bz z) : Whr w5 w6 bq bz z := h
/-- behind the copies -/
theorem dl_b {w1 w2 : World} {z z2 : Value} {p a1 b1 l bz bz2 bx ox lu bv ov n X v c1 L bu cu cx cv : Nat} (hz : Sto w1 z bz) (hX : Ws w1 bx ox lu X) (hV : Ws w1 bv ov n v) (hG : Gl w1) (hA : Apart z z2 p a1 b1 bz bz2 bx bv)
    (hlo : 8 ≤ p ∧ 8 ≤ a1 ∧ 8 ≤ b1 ∧ (z2 ≠ .slice none 0 0 → 8 ≤ bz2)) (hlu : 1 ≤ lu) (hn : 1 ≤ n) (hXl : X < 18446744073709551616 ^ lu) (hS : Stk w1 p a1 b1 L) (hl : l + n ≤ L) (hL : L ≤ c1) (hB1 : Blk w1 b1 c1)
    (hW : Whr w1 w2 bu bz2 z2) (hBu : Blk w2 bu cu) (hcu : lu + 1 ≤ cu) (hF : Fr w1 w2 No) :
    let w3 := w2.setCells b1 l (wvs v n)
    let w4 := w3.setCells bu 0 (wvs X lu)
    let w5 := w4.setCell ⟨bu, lu, none⟩ (.int .u64 0)
    (∀ ty, (Builtin.copy_ #[45, 45] ty #[.slice (some ⟨b1, l, none⟩) n n, .slice (some ⟨bv, ov, none⟩) n cv]).run Tryz.prog w2 = .ok (.int .i64 n) w3) ∧
      (∀ ty, (Builtin.copy_ #[45, 45] ty #[.slice (some ⟨bu, 0, none⟩) lu cu, .slice (some ⟨bx, ox, none⟩) lu cx]).run Tryz.prog w3 = .ok (.int .i64 lu) w4) ∧
      w4.frozen? ⟨bu, lu, none⟩ = false ∧ (∃ u, w4.cell? ⟨bu, lu, none⟩ = some u) ∧
      (Ws w5 bu 0 (lu + 1) X ∧ Ws w5 b1 l n v ∧ Stk w5 p a1 b1 L ∧ Blk w5 bu cu ∧ Gl w5 ∧ Sto w5 z bz ∧ Fr w1 w5 (fun k j => (k = b1 ∧ l ≤ j) ∨ (k = bz2 ∧ z2 ≠ .slice none 0 0)) ∧ bu ≠ p ∧ bu ≠ a1 ∧ bu ≠ b1 ∧ 8 ≤ bu ∧ (z ≠ .slice none 0 0 → bz ≠ bu) ∧ Whr w1 w5 bu bz2 z2) := by
  intro w3 w4 w5
  have hlt := hS.lt
  have k1 := cell_lt (hX 0 (by omega))
  have k2 := cell_lt (hV 0 (by omega))
  have hax := hA.ax
  have hav := hA.av
  have hne := hS.ne (by omega)
  have hh := hG.1
  have hg := cell_lt hh
  have hsz := hF.size
  have hg7 := cell_lt hG.2.2.2
  have hbu : bu ≠ p ∧ bu ≠ a1 ∧ bu ≠ b1 ∧ bu ≠ bx ∧ bu ≠ bv ∧ 8 ≤ bu := by
    rcases hW with ⟨e, h⟩ | ⟨h1, h2⟩
    · have := hA.az2 h
      have := hlo.2.2.2 h
      omega
    · omega
  have hzb : z ≠ .slice none 0 0 → bz ≠ bu := fun h => by
    rcases hW with ⟨e, h2⟩ | ⟨h1, h2⟩
    · rw [e]; exact hA.azz h h2
    · have := hz.lt h; omega
  have hB12 := hB1.fr hF
  obtain ⟨c11, c12, c13⟩ := copy_o b1 l n bv ov n cv c1 v w2 hB12 (by omega) (hV.fr hF (fun _ _ c => c))
  have hF3 : Fr w2 w3 (fun k j => k = b1 ∧ l ≤ j) := c13 w2 _ (Fr.refl _ _) (fun j _ _ => ⟨rfl, by omega⟩)
  have hX3 : Ws w3 bx ox lu X := (hX.fr hF (fun _ _ c => c)).fr hF3 (fun i _ c => by omega)
  have hBu3 := hBu.fr hF3
  obtain ⟨c21, c22, c23⟩ := copy_o bu 0 cu bx ox lu cx cu X w3 hBu3 (by omega) hX3
  have hF4 : Fr w3 w4 (fun k _ => k = bu) := c23 w3 _ (Fr.refl _ _) (fun j _ _ => rfl)
  have hBu4 := hBu3.fr hF4
  have hF5 : Fr w4 w5 (fun k _ => k = bu) := (Fr.refl _ _).set _ _ _ (fun _ => rfl)
  have hF45 : Fr w3 w5 (fun k _ => k = bu) := hF4.trans hF5 (fun _ _ _ c => c)
  have hF15 : Fr w1 w5 (fun k j => (k = b1 ∧ l ≤ j) ∨ k = bu) := (hF.no.trans hF3 (fun k j _ c => Or.inl c)).trans hF45 (fun k j _ c => Or.inr c)
  refine ⟨c11, c21, hBu4.fz _, hBu4.here _ (by omega), ?_, ?_, hS.fr hF15 (fun c => by omega) (fun c => by omega), hBu4.fr hF5, hG.fr hF15 (fun k hk c => by omega), hz.fr hF15, hF15.weaken (fun k j hk c => ?_), hbu.1, hbu.2.1, hbu.2.2.1, hbu.2.2.2.2.2, hzb, ?_⟩
  · have := c22.next hBu4 (by omega) hXl (r := 0) (by decide)
    rw [Nat.zero_mul, Nat.add_zero, Nat.zero_add] at this
    exact this
  · exact c12.fr hF45 (fun i _ c => hbu.2.2.1 c.symm)
  · rcases c with c | c
    · exact Or.inl c
    · rcases hW with ⟨e, h2⟩ | ⟨h1, h2⟩
      · exact Or.inr ⟨by omega, h2⟩
      · omega
  · rcases hW with h | ⟨h1, h2⟩
    · exact Or.inl h
    · exact Or.inr ⟨h1, (hBu4.fr hF5).lt⟩
/-- behind the storage of the quotient -/
theorem dl_c {w w1 w5 w6 : World} {z z2 : Value} {p a b a1 b1 l bz bz2 n X v L bu cu bq lu : Nat}
    (h6 : Nw w w1 a1 a) (h7 : Nw w w1 b1 b) (h8 : Fr w w1 (fun k j => k = p ∨ k = a ∨ (k = b ∧ l ≤ j)))
    (hzd : z ≠ .slice none 0 0 → bz ≠ p ∧ bz ≠ a1 ∧ bz ≠ b1 ∧ 8 ≤ bz)
    (h5 : Ws w5 bu 0 (lu + 1) X ∧ Ws w5 b1 l n v ∧ Stk w5 p a1 b1 L ∧ Blk w5 bu cu ∧ Gl w5 ∧ Sto w5 z bz ∧ Fr w1 w5 (fun k j => (k = b1 ∧ l ≤ j) ∨ (k = bz2 ∧ z2 ≠ .slice none 0 0)) ∧ bu ≠ p ∧ bu ≠ a1 ∧ bu ≠ b1 ∧ 8 ≤ bu ∧ (z ≠ .slice none 0 0 → bz ≠ bu) ∧ Whr w1 w5 bu bz2 z2)
    (hW : Whr w5 w6 bq bz z) (hF : Fr w5 w6 No) :
    Ws w6 bu 0 (lu + 1) X ∧ Ws w6 b1 l n v ∧ Stk w6 p a1 b1 L ∧ Blk w6 bu cu ∧ Gl w6 ∧ Fr w w6 (fun k j => k = p ∨ k = a ∨ (k = b ∧ l ≤ j) ∨ (k = bz2 ∧ z2 ≠ .slice none 0 0)) ∧ (bu ≠ p ∧ bu ≠ a1 ∧ bu ≠ b1) ∧ (bq ≠ p ∧ bq ≠ a1 ∧ bq ≠ b1) ∧ bu ≠ bq ∧ Nw w w6 a1 a ∧ Nw w w6 b1 b ∧ Whr w w6 bu bz2 z2 ∧ Whr w w6 bq bz z := by
  obtain ⟨k1, k2, k3, k4, k5, k6, k7, k8, k9, k10, k11, k12, k13⟩ := h5
  have hs1 := h8.size
  have hs5 := k7.size
  have hs6 := hF.size
  have hlt := k3.lt
  have hbl := k4.lt
  have hbq : bq ≠ p ∧ bq ≠ a1 ∧ bq ≠ b1 ∧ bu ≠ bq := by
    rcases hW with ⟨e, h⟩ | ⟨h1, h2⟩
    · have := hzd h; have := k12 h; omega
    · omega
  refine ⟨k1.fr hF (fun _ _ c => c), k2.fr hF (fun _ _ c => c), k3.fr hF (fun c => c) (fun c => c), k4.fr hF, k5.fr hF (fun _ _ c => c), ?_, ⟨k8, k9, k10⟩, ⟨hbq.1, hbq.2.1, hbq.2.2.1⟩, hbq.2.2.2, ?_, ?_, ?_, ?_⟩
  · refine ((h8.weaken (fun k j _ c => by omega)).trans k7 (fun k j hk c => ?_)).trans hF (fun _ _ _ c => c.elim)
    rcases c with c | c
    · rcases h7 with e | e
      · exact Or.inr (Or.inr (Or.inl ⟨by omega, c.2⟩))
      · omega
    · exact Or.inr (Or.inr (Or.inr c))
  · rcases h6 with e | e
    · exact Or.inl e
    · exact Or.inr ⟨e.1, by omega⟩
  · rcases h7 with e | e
    · exact Or.inl e
    · exact Or.inr ⟨e.1, by omega⟩
  · rcases k13 with e | ⟨h1, h2⟩
    · exact Or.inl e
    · exact Or.inr ⟨by omega, by omega⟩
  · rcases hW with e | ⟨h1, h2⟩
    · exact Or.inl e
    · exact Or.inr ⟨by omega, h2⟩
/-- what a division leaves -/
structure DivPost (w w' : World) (z z2 : Value) (p a b l bz bz2 Q R bq kq cq br kr cr a' b' : Nat) : Prop where
  nq : Nrm Q kq
  nr : Nrm R kr
  hkq : kq ≤ cq ∧ cq ≤ 4000 ∧ 1 ≤ cq
  hkr : kr ≤ cr ∧ cr ≤ 4000 ∧ 1 ≤ cr
  wq : Ws w' bq 0 kq Q
  wr : Ws w' br 0 kr R
  bkq : Blk w' bq cq
  bkr : Blk w' br cr
  whq : Whr w w' bq bz z
  whr : Whr w w' br bz2 z2
  ne : bq ≠ br
  st : Stk w' p a' b' l
  na : Nw w w' a' a
  nb : Nw w w' b' b
  apq : bq ≠ p ∧ bq ≠ a' ∧ bq ≠ b'
  apr : br ≠ p ∧ br ≠ a' ∧ br ≠ b'
  fr : Fr w w' (fun k j => k = p ∨ k = a ∨ (k = b ∧ l ≤ j) ∨ (k = bz ∧ z ≠ .slice none 0 0) ∨ (k = bz2 ∧ z2 ≠ .slice none 0 0))
theorem quo_lt {X v lu n : Nat} (hX : X < 18446744073709551616 ^ lu) (hv : 9223372036854775808 * 18446744073709551616 ^ (n - 1) ≤ v) (hn : 1 ≤ n) (hnl : n ≤ lu) : X / v < 18446744073709551616 ^ (lu - n + 1) := by
  have hvl : 18446744073709551616 ^ (n - 1) ≤ v := Nat.le_trans (Nat.le_mul_of_pos_left _ (by decide)) hv
  have hv0 : 0 < v := Nat.lt_of_lt_of_le (bp_pos _) hvl
  refine (Nat.div_lt_iff_lt_mul hv0).2 (Nat.lt_of_lt_of_le hX ?_)
  refine Nat.le_trans ?_ (Nat.mul_le_mul_left _ hvl)
  rw [← Nat.pow_add]
  exact Nat.pow_le_pow_right (by decide) (by omega)
theorem dl_d {w w6 w7 w8 : World} {z z2 : Value} {p a b a1 b1 a2 b2 l bz bz2 X v L bu cu bq cq kq kr m lu1 : Nat}
    (h6 : Blk w6 bu cu ∧ Fr w w6 (fun k j => k = p ∨ k = a ∨ (k = b ∧ l ≤ j) ∨ (k = bz2 ∧ z2 ≠ .slice none 0 0)) ∧ (bu ≠ p ∧ bu ≠ a1 ∧ bu ≠ b1) ∧ (bq ≠ p ∧ bq ≠ a1 ∧ bq ≠ b1) ∧ bu ≠ bq ∧ Nw w w6 a1 a ∧ Nw w w6 b1 b ∧ Whr w w6 bu bz2 z2 ∧ Whr w w6 bq bz z)
    (hBq : Blk w6 bq cq) (hlL : l ≤ L) (n2 : Nw w6 w7 a2 a1) (n3 : Nw w6 w7 b2 b1) (hQ : Ws w7 bq 0 m (X / v)) (hR : Ws w7 bu 0 lu1 (X % v))
    (hF : Fr w6 w7 (fun k i => k = p ∨ k = a1 ∨ (k = b1 ∧ L ≤ i) ∨ k = bu ∨ k = bq))
    (hkq : kq ≤ m ∧ Nrm (X / v) kq) (hkr : kr ≤ lu1 ∧ Nrm (X % v) kr) (hcq : m ≤ cq ∧ cq ≤ 4000 ∧ 1 ≤ cq) (hcu : lu1 ≤ cu ∧ cu ≤ 4000 ∧ 1 ≤ cu)
    (hS8 : Stk w8 p a2 b2 l) (hF8 : Fr w7 w8 (fun k _ => k = a2)) :
    DivPost w w8 z z2 p a b l bz bz2 (X / v) (X % v) bq kq cq bu kr cu a2 b2 := by
  obtain ⟨k1, k2, ⟨d1, d2, d3⟩, ⟨d4, d5, d6⟩, d7, k6, k7, k8, k9⟩ := h6
  have hs6 := k2.size
  have hs7 := hF.size
  have hs8 := hF8.size
  have hbu := k1.lt
  have hbq := hBq.lt
  have e1 : bq ≠ a2 ∧ bu ≠ a2 := by rcases n2 with e | e <;> omega
  have e2 : bq ≠ b2 ∧ bu ≠ b2 := by rcases n3 with e | e <;> omega
  refine ⟨hkq.2, hkr.2, ⟨by omega, hcq.2⟩, ⟨by omega, hcu.2⟩, (hQ.less hkq.1).fr hF8 (fun i _ c => e1.1 c), (hR.less hkr.1).fr hF8 (fun i _ c => e1.2 c), (hBq.fr hF).fr hF8, (k1.fr hF).fr hF8, ?_, ?_, fun e => d7 e.symm, hS8, ?_, ?_, ⟨d4, e1.1, e2.1⟩, ⟨d1, e1.2, e2.2⟩, ?_⟩
  · rcases k9 with e | e
    · exact Or.inl e
    · exact Or.inr ⟨e.1, by omega⟩
  · rcases k8 with e | e
    · exact Or.inl e
    · exact Or.inr ⟨e.1, by omega⟩
  · rcases n2 with e | e
    · rcases k6 with f | f
      · exact Or.inl (by omega)
      · exact Or.inr ⟨by omega, by omega⟩
    · exact Or.inr ⟨by omega, by omega⟩
  · rcases n3 with e | e
    · rcases k7 with f | f
      · exact Or.inl (by omega)
      · exact Or.inr ⟨by omega, by omega⟩
    · exact Or.inr ⟨by omega, by omega⟩
  · refine ((k2.weaken (fun k j _ c => by rcases c with c | c | c | c; exact Or.inl c; exact Or.inr (Or.inl c); exact Or.inr (Or.inr (Or.inl c)); exact Or.inr (Or.inr (Or.inr (Or.inr c))))).trans hF (fun k j hk c => ?_)).trans hF8 (fun k j hk c => ?_)
    · rcases c with c | c | c | c | c
      · exact Or.inl c
      · rcases k6 with f | f
        · exact Or.inr (Or.inl (by omega))
        · omega
      · rcases k7 with f | f
        · exact Or.inr (Or.inr (Or.inl ⟨by omega, by omega⟩))
        · omega
      · rcases k8 with f | f
        · exact Or.inr (Or.inr (Or.inr (Or.inr ⟨by omega, f.2⟩)))
        · omega
      · rcases k9 with f | f
        · exact Or.inr (Or.inr (Or.inr (Or.inl ⟨by omega, f.2⟩)))
        · omega
    · rcases n2 with e | e
      · rcases k6 with f | f
        · exact Or.inr (Or.inl (by omega))
        · omega
      · omega
end Go.Proofs.YtdidglfaogmnfaaGreatDoor
