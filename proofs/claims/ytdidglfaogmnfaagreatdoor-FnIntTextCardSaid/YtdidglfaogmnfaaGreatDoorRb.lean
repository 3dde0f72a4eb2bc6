/-
  A part of the proof of FnIntText: what the printed functions of the spec's integers answer: the decimal text.
-/
import Derived.Test.YtdidglfaogmnfaaGreatDoorRa
import Derived.Test.YtdidglfaogmnfaaGreatDoorPTextx
import Derived.Lib.Hide
namespace Go.Proofs.YtdidglfaogmnfaaGreatDoor.Ref
open Go.RowKit Go.Proofs.YtdidglfaogmnfaaGreatDoorW.PrintWords Go.Proofs.YtdidglfaogmnfaaGreatDoorW.PrintLast Go.Proofs.YtdidglfaogmnfaaGreatDoorW.PrintMore
open PText

theorem w64 {x : Int} (h0 : -9223372036854775808 ≤ x) (h1 : x ≤ 9223372036854775807) : wrap64 x = x := by unfold wrap64; omega
theorem wu64 {x : Int} (h0 : 0 ≤ x) (h1 : x < 18446744073709551616) : IntKind.u64.wrap x = x := by rw [IntKind.wrap_u64]; omega
theorem tmod_nat (s m : Nat) : Int.tmod (s : Int) (m : Int) = ((s % m : Nat) : Int) := by
  rw [Int.tmod_eq_emod_of_nonneg (by omega)]; rfl
theorem tdiv_nat (s m : Nat) : Int.tdiv (s : Int) (m : Int) = ((s / m : Nat) : Int) := by
  rw [Int.tdiv_eq_ediv_of_nonneg (by omega)]; rfl
theorem tmod256 (s : Nat) : Int.tmod (s : Int) 256 = ((s % 256 : Nat) : Int) := tmod_nat s 256
theorem tdiv256 (s : Nat) : Int.tdiv (s : Int) 256 = ((s / 256 : Nat) : Int) := tdiv_nat s 256
theorem mod256 (s : Nat) : ((s % 256 : Nat) : Int) % 256 = ((s % 256 : Nat) : Int) := by omega
theorem w64_succ {i : Nat} (h : i ≤ 100000000) : wrap64 ((i : Int) + 1) = ((i + 1 : Nat) : Int) := w64 (by omega) (by omega)
theorem w64_div {s : Nat} (h : s ≤ 1000000000) : wrap64 ((s / 256 : Nat) : Int) = ((s / 256 : Nat) : Int) := w64 (by omega) (by omega)
theorem rd_dg {l : List Int} (hb : Byt l) {i : Nat} (hi : i < l.length) : rd l ((l.length - 1 - i : Nat) : Int) = ((dg l i : Nat) : Int) := by
  unfold rd dg
  rw [if_pos hi, Int.toNat_natCast]
  have := hb.getD (l.length - 1 - i)
  omega
theorem drop_val {l : List Int} (i : Nat) (hi : i < l.length) (h0 : l.getD i 0 = 0) : val (l.drop (i + 1)) = val (l.drop i) := by
  rw [List.drop_eq_getElem_cons hi, val_cons]
  have : l[i] = 0 := by simpa [List.getD, hi] using h0
  rw [this]; simp
theorem cut_loop {l : List Int} (hb : Byt l) (hl : l.length ≤ 1000000) : ∀ (d i : Nat), l.length - i = d → i ≤ l.length → val (l.drop i) = val l →
    ∃ r, Ev (fun k => spec_cut.l0 k l (i : Int)) r ∧ Can r (val l) ∧ r.length ≤ l.length
  | 0, i, hd, hi, hv => by
    obtain rfl : i = l.length := by omega
    refine ⟨[], Ev.step (f := fun _ => some []) (fun k => ?_) (Ev.now _), ⟨fun _ h => (by cases h), ?_, by decide⟩, by simp⟩
    · simp only [spec_cut.l0]
      rw [if_neg (by omega)]
      simp only [Option.bind_some]
      rw [if_pos (by omega), if_pos (by omega), if_pos (by simp)]
      simp
    · rw [← hv]; simp
  | d + 1, i, hd, hi, hv => by
    have hlt : i < l.length := by omega
    by_cases h0 : l.getD i 0 = 0
    · obtain ⟨r, h1, h2, h3⟩ := cut_loop hb hl d (i + 1) (by omega) (by omega) ((drop_val i hlt h0).trans hv)
      refine ⟨r, Ev.step (fun k => ?_) h1, h2, h3⟩
      simp only [spec_cut.l0]
      rw [if_pos (by omega), if_pos (by omega), if_pos (by simpa [rd] using h0), w64 (by omega) (by omega)]
      rfl
    · refine ⟨l.drop i, Ev.step (f := fun _ => some (l.drop i)) (fun k => ?_) (Ev.now _), ⟨fun x hx => hb x (List.mem_of_mem_drop hx), hv, ?_⟩, by simp⟩
      · simp only [spec_cut.l0]
        rw [if_pos (by omega), if_pos (by omega), if_neg (by simpa [rd] using h0)]
        simp only [Option.bind_some]
        rw [if_pos (by omega), if_pos (by simp; omega)]
        simp
      · simpa [List.getD, hlt] using h0
theorem cut_ev {l : List Int} (hb : Byt l) (hl : l.length ≤ 1000000) : ∃ r, Ev (fun k => spec_cut.f k l) r ∧ Can r (val l) ∧ r.length ≤ l.length :=
  cut_loop hb hl _ 0 rfl (Nat.zero_le _) rfl

theorem w64_nat {n : Nat} (h : n ≤ 1000000000) : wrap64 (n : Int) = (n : Int) := w64 (by omega) (by omega)
theorem pred_of {K k : Nat} (h : K + 1 ≤ k) : ∃ m, k = m + 1 := ⟨k - 1, by omega⟩
/-- the sign's character -/
def sg (F : Bool) : List Int := if F = true then [45] else []
theorem val_snoc (x : Int) : ∀ l : List Int, val (l ++ [x]) = val l * 256 + x.toNat
  | [] => by rw [List.nil_append, val_cons, val_nil]; simp
  | y :: l => by
    rw [List.cons_append, val_cons, val_cons, val_snoc x l, List.length_append, List.length_singleton, Nat.pow_succ, Nat.add_mul, ← Nat.mul_assoc, Nat.add_assoc]
theorem take_set {l : List Int} {i : Nat} (hi : i < l.length) (v : Int) : (l.set i v).take (i + 1) = l.take i ++ [v] := by
  rw [List.take_succ_eq_append_getElem (by simpa using hi), List.take_set_of_le (by omega)]
  simp
theorem drop_set {l : List Int} {i : Nat} (v : Int) : (l.set i v).drop (i + 1) = l.drop (i + 1) := List.drop_set_of_lt (by omega)
/-- the digits of a number, the lowest one first -/
def dle (N : Nat) : List Int := if h : N = 0 then [] else ((48 + N % 10 : Nat) : Int) :: dle (N / 10)
termination_by N
decreasing_by omega
theorem tdiv10 (s : Nat) : Int.tdiv (s : Int) 10 = ((s / 10 : Nat) : Int) := tdiv_nat s 10
theorem tmod10 (s : Nat) : Int.tmod (s : Int) 10 = ((s % 10 : Nat) : Int) := tmod_nat s 10
theorem dig_bt (d : Nat) (h : d < 10) : bt (⟨#[48, 49, 50, 51, 52, 53, 54, 55, 56, 57, 97, 98, 99, 100, 101, 102, 103, 104, 105, 106, 107, 108, 109, 110, 111, 112, 113, 114, 115, 116, 117, 118, 119, 120, 121, 122]⟩ : ByteArray) (d : Int) = ((48 + d : Nat) : Int) := by
  match d, h with
  | 0, _ => rfl
  | 1, _ => rfl
  | 2, _ => rfl
  | 3, _ => rfl
  | 4, _ => rfl
  | 5, _ => rfl
  | 6, _ => rfl
  | 7, _ => rfl
  | 8, _ => rfl
  | 9, _ => rfl
theorem base_step {V left x s p q r N : Nat} (hs : s = left * 256 + x) (hq : q = p * 256) (h : (V * 10 + left) * q + (x * p + r) = N) : ((V * 256 + s / 10) * 10 + s % 10) * p + r = N := by
  have e : (V * 256 + s / 10) * 10 + s % 10 = (V * 10 + left) * 256 + x := by omega
  have e2 : (V * 10 + left) * 256 * p = (V * 10 + left) * q := by rw [hq, Nat.mul_assoc, Nat.mul_comm 256 p]
  rw [e, Nat.add_mul, e2]
  omega
theorem w64_mul256 {n : Nat} (h : n ≤ 1000) : wrap64 ((n : Int) * 256) = ((n * 256 : Nat) : Int) := by rw [w64 (by omega) (by omega)]; omega
theorem div10_mod (s : Nat) (h : s / 10 < 256) : ((s / 10 : Nat) : Int) % 256 = ((s / 10 : Nat) : Int) := by omega
section
variable {N : Nat} {res : ByteArray}
theorem base_row (x5 : List Int) (h5 : x5.length ≤ 100000) (F : Bool) (y : List Int) (L : Nat) (hL : L ≤ 10000)
    (next : ∀ m, Can m (N / 10) → m.length ≤ L → Ev (fun k => spec_Int_Base.l0 k 10 (x5 ++ [((48 + N % 10 : Nat) : Int)]) m F y) res) :
    ∀ (d i : Nat) (m : List Int) (left : Nat), L - i = d → i ≤ L → m.length = L → Byt m → left < 10 → (val (m.take i) * 10 + left) * 256 ^ (L - i) + val (m.drop i) = N →
      Ev (fun k => spec_Int_Base.l1 k 10 x5 m (left : Int) (i : Int) F y) res
  | 0, i, m, left, hd, hi, hm, hb, hl, h => by
    obtain rfl : i = L := by omega
    rw [List.take_of_length_le (by omega), List.drop_eq_nil_of_le (by omega), Nat.sub_self, Nat.pow_zero, Nat.mul_one, val_nil, Nat.add_zero] at h
    obtain ⟨r, ⟨K, h1⟩, h2, h3⟩ := cut_ev hb (by omega)
    have e1 : N / 10 = val m := by omega
    have e2 : N % 10 = left := by omega
    rw [e1] at next
    obtain ⟨K2, h4⟩ := next r h2 (by omega)
    refine ⟨max K K2 + 1, fun k hk => ?_⟩
    obtain ⟨k', rfl⟩ := pred_of hk
    dsimp only at h1 h4
    simp only [spec_Int_Base.l1]
    rw [if_neg (by omega), h1 k' (by omega), Option.bind_some, if_pos (by omega), if_pos (by omega), if_pos (by omega), dig_bt left hl, ← e2]
    exact h4 k' (by omega)
  | d + 1, i, m, left, hd, hi, hm, hb, hl, h => by
    have hlt : i < m.length := by omega
    have hx := hb.getD i
    obtain ⟨x, hxe⟩ : ∃ x : Nat, m.getD i 0 = (x : Int) := ⟨(m.getD i 0).toNat, by omega⟩
    rw [hxe] at hx
    have hx1 : x < 256 := by omega
    obtain ⟨s, hs⟩ : ∃ s, s = left * 256 + x := ⟨_, rfl⟩
    have hs1 : s < 2560 := by omega
    have hrd : rd m (i : Int) = (x : Int) := hxe
    have f1 : (i : Int) < (m.length : Int) := Int.ofNat_lt.2 hlt
    have f2 : (0 : Int) ≤ (i : Int) := Int.natCast_nonneg _
    have f3 : i ≤ 100000000 := by omega
    have f4 : s / 10 < 256 := by omega
    have f5 : s % 10 < 10 := by omega
    have f6 : s / 10 ≤ 1000000000 := by omega
    have f7 : L - i = (L - (i + 1)) + 1 := by omega
    have f8 : left ≤ 1000 := by omega
    have f9 : s ≤ 1000000000 := by omega
    have fa : x ≤ 1000000000 := by omega
    have fb : L - (i + 1) = d := by omega
    have fc : i + 1 ≤ L := by omega
    clear hd hi hx
    obtain ⟨K, h1⟩ := base_row x5 h5 F y L hL next d (i + 1) (m.set i ((s / 10 : Nat) : Int)) (s % 10) fb fc (by simp [hm]) (hb.set _ (Int.natCast_nonneg _) (Int.ofNat_lt.2 f4)) f5 (by
      rw [take_set hlt, drop_set, val_snoc, Int.toNat_natCast]
      rw [List.drop_eq_getElem_cons hlt, val_cons, List.length_drop, hm] at h
      rw [show m[i] = (x : Int) from by rw [← hxe]; simp [List.getD, hlt], Int.toNat_natCast] at h
      exact base_step (q := 256 ^ (L - i)) hs (by rw [show L - i = (L - (i + 1)) + 1 from f7, Nat.pow_succ]) h)
    refine ⟨K + 1, fun k hk => ?_⟩
    obtain ⟨k', rfl⟩ := pred_of hk
    dsimp only at h1
    have i1 : wrap64 ((left : Int) * 256) = ((left * 256 : Nat) : Int) := w64_mul256 f8
    have i2 : wrap64 (x : Int) = (x : Int) := w64_nat fa
    have i3 : wrap64 (((left * 256 : Nat) : Int) + (x : Int)) = (s : Int) := by rw [← Int.natCast_add, ← hs]; exact w64_nat f9
    have i4 : ((s / 10 : Nat) : Int) % 256 = ((s / 10 : Nat) : Int) := div10_mod s f4
    simp only [spec_Int_Base.l1]
    rw [if_pos f1, if_pos f2, if_neg (by decide), hrd, i1, i2, i3, tdiv10, tmod10, w64_nat f6, i4, w64_succ f3, Int.toNat_natCast]
    exact h1 k' (Nat.le_of_succ_le_succ hk)
theorem base_loop (F : Bool) (y : List Int) : ∀ (N : Nat) (x5 m : List Int), x5.length + (dle N).length ≤ 100000 → Can m N → m.length ≤ 10000 →
    Ev (fun k => spec_Int_Base.j2 k (x5 ++ dle N ++ sg F)) res → Ev (fun k => spec_Int_Base.l0 k 10 x5 m F y) res := by
  intro N
  induction N using Nat.strongRecOn with
  | _ N ih =>
    intro x5 m h5 hm hl h
    by_cases h0 : N = 0
    · obtain ⟨K, h1⟩ := h
      refine ⟨K + 1, fun k hk => ?_⟩
      obtain ⟨k', rfl⟩ := pred_of hk
      have hm0 := hm.zero_iff.2 h0
      have e : dle N = [] := by rw [dle, dif_pos h0]
      rw [e, List.append_nil] at h1
      dsimp only at h1
      simp only [spec_Int_Base.l0]
      rw [if_neg (by omega)]
      cases F
      · rw [if_neg (by decide)]
        have h2 := h1 k' (Nat.le_of_succ_le_succ hk)
        simpa [sg] using h2
      · rw [if_pos rfl, if_pos (by omega)]
        have h2 := h1 k' (Nat.le_of_succ_le_succ hk)
        simpa [sg] using h2
    · have e : dle N = ((48 + N % 10 : Nat) : Int) :: dle (N / 10) := by rw [dle, dif_neg h0]
      rw [e, List.length_cons] at h5
      have hm0 : 0 < m.length := by
        rcases Nat.eq_zero_or_pos m.length with hz | hz
        · exact absurd (hm.zero_iff.1 hz) h0
        · exact hz
      obtain ⟨K, h1⟩ := base_row (N := N) (res := res) x5 (by omega) F y m.length hl (fun m' hm' hl' => ih (N / 10) (by omega) _ m' (by simp; omega) hm' (by omega) (by
        rw [e] at h
        rw [List.append_assoc x5 [_]]
        exact h)) _ 0 m 0 rfl (Nat.zero_le _) rfl hm.byt (by decide) (by rw [List.take_zero, val_nil, List.drop_zero, hm.val]; simp)
      refine ⟨K + 1, fun k hk => ?_⟩
      obtain ⟨k', rfl⟩ := pred_of hk
      dsimp only at h1
      simp only [spec_Int_Base.l0]
      rw [if_pos (by omega)]
      exact h1 k' (Nat.le_of_succ_le_succ hk)
end
/-- turned round at both ends, i places deep -/
def turned (o : List Int) (i : Nat) (y : List Int) : Prop := y.length = o.length ∧ ∀ j, j < o.length → y.getD j 0 = if j < i ∨ o.length - 1 - i < j then o.getD (o.length - 1 - j) 0 else o.getD j 0
theorem getD_set (l : List Int) (i j : Nat) (v : Int) (hi : i < l.length) : (l.set i v).getD j 0 = if j = i then v else l.getD j 0 := by
  by_cases e : j = i
  · subst e
    rw [if_pos rfl, List.getD, List.getElem?_set_self hi]
    rfl
  · rw [if_neg e, List.getD, List.getD, List.getElem?_set_ne (by omega)]
theorem turn_loop (o : List Int) (ho : o.length ≤ 100000) (h0 : 0 < o.length) : ∀ (d i : Nat) (y : List Int), o.length - 2 * i = d → 2 * i ≤ o.length + 1 → turned o i y → Ev (fun k => spec_Int_Base.l2 k y (i : Int) ((o.length : Int) - 1 - (i : Int))) (strOfNums o.reverse) := by
  intro d
  induction d using Nat.strongRecOn with
  | _ d ih =>
    intro i y hd hi hy
    obtain ⟨hl, hy⟩ := hy
    by_cases hlt : i + 1 < o.length - i
    · have a1 : (i : Int) < ((o.length - 1 - i : Nat) : Int) := Int.ofNat_lt.2 (by omega)
      have a2 : (0 : Int) ≤ ((o.length - 1 - i : Nat) : Int) := Int.natCast_nonneg _
      have a3 : ((o.length - 1 - i : Nat) : Int) < (y.length : Int) := Int.ofNat_lt.2 (by omega)
      have a4 : (0 : Int) ≤ (i : Int) := Int.natCast_nonneg _
      have a5 : (i : Int) < (y.length : Int) := Int.ofNat_lt.2 (by omega)
      have a6 : i ≤ 100000000 := by omega
      have g1 : (o.length : Int) - 1 - (i : Int) = ((o.length - 1 - i : Nat) : Int) := by omega
      have g3 : wrap64 (((o.length - 1 - i : Nat) : Int) - 1) = (o.length : Int) - 1 - ((i + 1 : Nat) : Int) := by
        have q : ((o.length - 1 - i : Nat) : Int) - 1 = (o.length : Int) - 1 - ((i + 1 : Nat) : Int) := by omega
        rw [w64 (by omega) (by omega), q]
      have g3 := Lib.hid g3
      have e1 := hy i (by omega)
      have e2 := hy (o.length - 1 - i) (by omega)
      rw [if_neg (by omega)] at e1 e2
      obtain ⟨K, h1⟩ := ih (o.length - 2 * (i + 1)) (by omega) (i + 1) ((y.set i (o.getD (o.length - 1 - i) 0)).set (o.length - 1 - i) (o.getD i 0)) rfl (by omega) ⟨by simp [hl], fun j hj => by
        rw [getD_set _ _ _ _ (by simp; omega), getD_set _ _ _ _ (by omega), hy j hj]
        by_cases c1 : j = o.length - 1 - i
        · subst c1
          rw [if_pos rfl, if_pos (by omega), show o.length - 1 - (o.length - 1 - i) = i from by omega]
        · rw [if_neg c1]
          by_cases c2 : j = i
          · subst c2
            rw [if_pos rfl, if_pos (by omega)]
          · rw [if_neg c2]
            by_cases c3 : j < i ∨ o.length - 1 - i < j
            · rw [if_pos c3, if_pos (by omega)]
            · rw [if_neg c3, if_neg (by omega)]⟩
      refine ⟨K + 1, fun k hk => ?_⟩
      obtain ⟨k', rfl⟩ := pred_of hk
      dsimp only at h1
      have g2 : wrap64 ((i : Int) + 1) = ((i + 1 : Nat) : Int) := w64_succ a6
      have r1 : rd y ((o.length - 1 - i : Nat) : Int) = o.getD (o.length - 1 - i) 0 := e2
      have r2 : rd y (i : Int) = o.getD i 0 := e1
      show spec_Int_Base.l2 (k' + 1) y (i : Int) ((o.length : Int) - 1 - (i : Int)) = _
      rw [g1]
      simp only [spec_Int_Base.l2]
      rw [if_pos a1, if_pos a2, if_pos a3, if_pos a4, if_pos a5, r1, r2, g2, g3.out, Int.toNat_natCast, Int.toNat_natCast]
      exact h1 k' (Nat.le_of_succ_le_succ hk)
    · refine ⟨1, fun k hk => ?_⟩
      obtain ⟨k', rfl⟩ := pred_of (K := 0) hk
      simp only [spec_Int_Base.l2]
      rw [if_neg (by omega)]
      congr 2
      apply List.ext_getElem (by simp [hl])
      intro j hj1 hj2
      have hj : j < o.length := by omega
      have h := hy j hj
      rw [List.getElem_reverse]
      have e1 : y.getD j 0 = y[j] := by simp [List.getD, hj1]
      have e2 : ∀ q (hq : q < o.length), o.getD q 0 = o[q] := fun q hq => by simp [List.getD, hq]
      rw [e1] at h
      rw [h]
      split
      · exact e2 _ _
      · rw [e2 _ hj]
        congr 1
        omega
/-- the sign's character, at the end of the digits -/
theorem base_ev {m : List Int} {N : Nat} (F : Bool) (hm : Can m N) (hl : m.length ≤ 10000) (hd : (dle N).length ≤ 10000) (h0 : N ≠ 0) : Ev (fun k => spec_Int_Text.f k F m) (strOfNums (sg F ++ (dle N).reverse)) := by
  have hne : 0 < (dle N).length := by rw [dle, dif_neg h0]; simp
  have hsl : (sg F).length ≤ 1 := by cases F <;> simp [sg]
  have er : (dle N ++ sg F).reverse = sg F ++ (dle N).reverse := by cases F <;> simp [sg]
  have hL : (dle N ++ sg F).length = (dle N).length + (sg F).length := List.length_append
  obtain ⟨K, h1⟩ := turn_loop (dle N ++ sg F) (by omega) (by omega) _ 0 (dle N ++ sg F) rfl (by omega) ⟨rfl, fun j hj => by rw [if_neg (by omega)]⟩
  rw [er] at h1
  obtain ⟨K2, h2⟩ := base_loop (res := strOfNums (sg F ++ (dle N).reverse)) F m N [] m (by simp; omega) hm hl ⟨K + 1, fun k hk => by
    obtain ⟨k', rfl⟩ := pred_of hk
    have e := h1 k' (Nat.le_of_succ_le_succ hk)
    dsimp only at e
    simp only [spec_Int_Base.j2]
    rw [List.nil_append, w64 (by omega) (by omega)]
    simpa using e⟩
  refine ⟨K2, fun k hk => ?_⟩
  have hz := hm.zero_iff
  have hm0 : m.length ≠ 0 := fun h => h0 (hz.1 h)
  show spec_Int_Text.f k F m = _
  unfold spec_Int_Text.f spec_Int_Base.f spec_Int_Zero.f
  rw [Option.bind_some, if_neg (fun h => hm0 (by simpa using h)), Option.bind_some, if_pos (by simp; omega), List.nil_append]
  have e := h2 k hk
  dsimp only at e
  rw [e, Option.bind_some]
theorem base_zero (F : Bool) : ∀ k, spec_Int_Text.f k F [] = some (strOfNums [48]) := by
  intro k
  unfold spec_Int_Text.f spec_Int_Base.f spec_Int_Zero.f
  rfl
def dgl (N n : Nat) : List Int := (List.range n).map fun j => ((48 + N / 10 ^ (n - 1 - j) % 10 : Nat) : Int)
theorem dgl_len (N n : Nat) : (dgl N n).length = n := by simp [dgl]
theorem dgl_at (N n j : Nat) (h : j < n) : (dgl N n).getD j 0 = ((48 + N / 10 ^ (n - 1 - j) % 10 : Nat) : Int) := by
  simp [dgl, List.getD, h]
theorem dgl_snoc (N n : Nat) : dgl N (n + 1) = dgl (N / 10) n ++ [((48 + N % 10 : Nat) : Int)] := by
  unfold dgl
  rw [List.range_succ, List.map_append]
  congr 1
  · apply List.map_congr_left
    intro j hj
    have hj := List.mem_range.1 hj
    rw [show n + 1 - 1 - j = (n - 1 - j) + 1 from by omega, Nat.pow_succ, Nat.mul_comm, ← Nat.div_div_eq_div_mul]
  · simp
theorem dgl_tail (U n : Nat) : ∀ k, dgl (U * 10 ^ k) (n + k) = dgl U n ++ List.replicate k 48
  | 0 => by simp
  | k + 1 => by
    rw [show n + (k + 1) = (n + k) + 1 from by omega, dgl_snoc, Nat.pow_succ, ← Nat.mul_assoc, Nat.mul_div_cancel _ (by decide), Nat.mul_mod_left, dgl_tail U n k, List.append_assoc, List.replicate_succ']
    rfl
theorem dgl_zero : ∀ n, dgl 0 n = List.replicate n 48
  | 0 => rfl
  | n + 1 => by rw [dgl_snoc, Nat.zero_div, dgl_zero n, List.replicate_succ']; rfl
theorem dgl_lead (m : Nat) : ∀ (n N : Nat), N < 10 ^ n → dgl N (m + n) = List.replicate m 48 ++ dgl N n
  | 0, N, h => by
    have : N = 0 := by simpa using h
    subst this
    rw [Nat.add_zero, dgl_zero]
    simp [dgl]
  | n + 1, N, h => by
    rw [← Nat.add_assoc, dgl_snoc, dgl_snoc, dgl_lead m n (N / 10) (by rw [Nat.pow_succ] at h; omega), List.append_assoc]
theorem dle_law : ∀ (N : Nat), (dle N).reverse = dgl N (dle N).length ∧ N < 10 ^ (dle N).length ∧ (N ≠ 0 → 10 ^ ((dle N).length - 1) ≤ N ∧ 1 ≤ (dle N).length) := by
  intro N
  induction N using Nat.strongRecOn with
  | _ N ih =>
    by_cases h0 : N = 0
    · have e : dle N = [] := by rw [dle, dif_pos h0]
      rw [e]
      subst h0
      exact ⟨rfl, by decide, fun h => absurd rfl h⟩
    · have e : dle N = ((48 + N % 10 : Nat) : Int) :: dle (N / 10) := by rw [dle, dif_neg h0]
      obtain ⟨h1, h2, h3⟩ := ih (N / 10) (by omega)
      rw [e, List.reverse_cons, h1, List.length_cons]
      refine ⟨(dgl_snoc N _).symm, by rw [Nat.pow_succ]; omega, fun _ => ⟨?_, by omega⟩⟩
      rw [Nat.add_sub_cancel]
      by_cases h9 : N / 10 = 0
      · have : dle (N / 10) = [] := by rw [dle, dif_pos h9]
        rw [this, List.length_nil, Nat.pow_zero]
        omega
      · obtain ⟨h4, h5⟩ := h3 h9
        rw [show (dle (N / 10)).length = ((dle (N / 10)).length - 1) + 1 from by omega, Nat.pow_succ]
        omega
theorem len_of (N n : Nat) (h1 : 10 ^ (n - 1) ≤ N) (h2 : N < 10 ^ n) : (dle N).length = n := by
  have h0 : N ≠ 0 := by
    have : 0 < 10 ^ (n - 1) := Nat.pow_pos (by decide)
    omega
  obtain ⟨_, a1, a2⟩ := dle_law N
  obtain ⟨a2, a3⟩ := a2 h0
  obtain ⟨l, hl⟩ : ∃ l, l = (dle N).length := ⟨_, rfl⟩
  rw [← hl] at a1 a2 a3 ⊢
  rcases Nat.lt_trichotomy l n with a | a | a
  · have : 10 ^ l ≤ 10 ^ (n - 1) := Nat.pow_le_pow_right (by decide) (by omega)
    omega
  · exact a
  · have : 10 ^ n ≤ 10 ^ (l - 1) := Nat.pow_le_pow_right (by decide) (by omega)
    omega
theorem son_append (a b : List Int) : strOfNums (a ++ b) = strOfNums a ++ strOfNums b := by
  apply ByteArray.ext
  simp [strOfNums, ByteArray.data_append]
set_option exponentiation.threshold 2000 in
theorem dle_le (N : Nat) (h : N < 256 ^ 300) : (dle N).length ≤ 1000 := by
  by_cases h0 : N = 0
  · rw [h0, dle, dif_pos rfl]; decide
  · obtain ⟨_, _, a⟩ := dle_law N
    obtain ⟨a, b⟩ := a h0
    rcases Nat.lt_or_ge 1000 (dle N).length with c | c
    · exfalso
      have h1 : 10 ^ 1000 ≤ 10 ^ ((dle N).length - 1) := Nat.pow_le_pow_right (by decide) (by omega)
      have h2 : 256 ^ 300 ≤ 10 ^ 1000 := by decide +kernel
      exact absurd (Nat.lt_of_lt_of_le h (Nat.le_trans h2 h1)) (Nat.not_lt.2 a)
    · exact c
end Go.Proofs.YtdidglfaogmnfaaGreatDoor.Ref
