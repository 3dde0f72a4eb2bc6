/-
  A part of the proof of FnMathWhole (packed out of smaller texts by a program of this session; what the proof does not reach is left out).
-/
import Derived.Test.YtldejfallphhbaaGreatDoorZ7
import Derived.Test.YtldejfallphhbaaGreatDoorZ5
import Derived.Test.YtldejfallphhbaaGreatDoorZ6
import Derived.Lib.RabinKarpLaws
import Derived.Laws.Bits64b
import Derived.WalkSmall
namespace Go.Proofs.YtldejfallphhbaaGreatDoor.Ref
open Go.RowKit Go.Proofs.YtldejfallphhbaaGreatDoorW.PrintWords Go.Proofs.YtldejfallphhbaaGreatDoorW.PrintLast Go.Proofs.YtldejfallphhbaaGreatDoorW.PrintMore
open PNearest
theorem w64 {x : Int} (h0 : -9223372036854775808 ≤ x) (h1 : x ≤ 9223372036854775807) : wrap64 x = x := by unfold wrap64; omega
theorem wu64 {x : Int} (h0 : 0 ≤ x) (h1 : x < 18446744073709551616) : IntKind.u64.wrap x = x := by rw [IntKind.wrap_u64]; omega
theorem tmod_nat (s m : Nat) : Int.tmod (s : Int) (m : Int) = ((s % m : Nat) : Int) := by
  rw [Int.tmod_eq_emod_of_nonneg (by omega)]; rfl
theorem tdiv_nat (s m : Nat) : Int.tdiv (s : Int) (m : Int) = ((s / m : Nat) : Int) := by
  rw [Int.tdiv_eq_ediv_of_nonneg (by omega)]; rfl
theorem tmod256 (s : Nat) : Int.tmod (s : Int) 256 = ((s % 256 : Nat) : Int) := tmod_nat s 256
theorem tdiv256 (s : Nat) : Int.tdiv (s : Int) 256 = ((s / 256 : Nat) : Int) := tdiv_nat s 256
theorem mod256 (s : Nat) : ((s % 256 : Nat) : Int) % 256 = ((s % 256 : Nat) : Int) := by omega
theorem w64_succ {i : Nat} (h : i ≤ 100000000) : wrap64 ((i : Int) + 1) = ((i + 1 : Nat) : Int) := w64 (by omega) (by omega)
theorem w64_div {s : Nat} (h : s ≤ 1000000000) : wrap64 ((s / 256 : Nat) : Int) = ((s / 256 : Nat) : Int) := w64 (by omega) (by omega)
theorem rd_dg {l : List Int} (hb : Byt l) {i : Nat} (hi : i < l.length) : rd l ((l.length - 1 - i : Nat) : Int) = ((dg l i : Nat) : Int) := by
  unfold rd dg
  rw [if_pos hi, Int.toNat_natCast]
  have := hb.getD (l.length - 1 - i)
  omega
theorem digit_f {l : List Int} (hb : Byt l) (hl : l.length ≤ 1000000) (i : Nat) (hi : i ≤ 100000000) : spec_digit.f l (i : Int) = some ((dg l i : Nat) : Int) := by
  unfold spec_digit.f
  by_cases h : i < l.length
  · have e : wrap64 (wrap64 ((l.length : Int) - 1) - (i : Int)) = ((l.length - 1 - i : Nat) : Int) := by
      rw [w64 (x := (l.length : Int) - 1) (by omega) (by omega), w64 (by omega) (by omega)]
      omega
    have hd := dg_lt hb i
    rw [if_neg (by omega), e, if_pos (by omega), if_pos (by omega), rd_dg hb h, w64 (by omega) (by omega)]
  · rw [if_pos (by omega), dg_ge (by omega)]; rfl
theorem drop_val {l : List Int} (i : Nat) (hi : i < l.length) (h0 : l.getD i 0 = 0) : val (l.drop (i + 1)) = val (l.drop i) := by
  rw [List.drop_eq_getElem_cons hi, val_cons]
  have : l[i] = 0 := by simpa [List.getD, hi] using h0
  rw [this]; simp
theorem cut_loop {l : List Int} (hb : Byt l) (hl : l.length ≤ 1000000) : ∀ (d i : Nat), l.length - i = d → i ≤ l.length → val (l.drop i) = val l →
    ∃ r, Ev (fun k => spec_cut.l0 k l (i : Int)) r ∧ Can r (val l) ∧ r.length ≤ l.length
  | 0, i, hd, hi, hv => by
    obtain rfl : i = l.length := by omega
    refine ⟨[], Ev.step (f := fun _ => some []) (fun k => ?_) (Ev.now _), ⟨fun _ h => (by cases h), ?_, by decide⟩, by simp⟩
    · simp only [spec_cut.l0]
      rw [if_neg (by omega)]
      simp only [Option.bind_some]
      rw [if_pos (by omega), if_pos (by omega), if_pos (by simp)]
      simp
    · rw [← hv]; simp
  | d + 1, i, hd, hi, hv => by
    have hlt : i < l.length := by omega
    by_cases h0 : l.getD i 0 = 0
    · obtain ⟨r, h1, h2, h3⟩ := cut_loop hb hl d (i + 1) (by omega) (by omega) ((drop_val i hlt h0).trans hv)
      refine ⟨r, Ev.step (fun k => ?_) h1, h2, h3⟩
      simp only [spec_cut.l0]
      rw [if_pos (by omega), if_pos (by omega), if_pos (by simpa [rd] using h0), w64 (by omega) (by omega)]
      rfl
    · refine ⟨l.drop i, Ev.step (f := fun _ => some (l.drop i)) (fun k => ?_) (Ev.now _), ⟨fun x hx => hb x (List.mem_of_mem_drop hx), hv, ?_⟩, by simp⟩
      · simp only [spec_cut.l0]
        rw [if_pos (by omega), if_pos (by omega), if_neg (by simpa [rd] using h0)]
        simp only [Option.bind_some]
        rw [if_pos (by omega), if_pos (by simp; omega)]
        simp
      · simpa [List.getD, hlt] using h0
theorem cut_ev {l : List Int} (hb : Byt l) (hl : l.length ≤ 1000000) : ∃ r, Ev (fun k => spec_cut.f k l) r ∧ Can r (val l) ∧ r.length ≤ l.length :=
  cut_loop hb hl _ 0 rfl (Nat.zero_le _) rfl
theorem idx {n i : Nat} (h : i < n) (hn : n ≤ 1000000) : wrap64 (wrap64 ((n : Int) - 1) - (i : Int)) = ((n - 1 - i : Nat) : Int) := by
  rw [w64 (x := (n : Int) - 1) (by omega) (by omega), w64 (by omega) (by omega)]
  omega
theorem S_set {out : List Int} {i : Nat} (hi : i < out.length) (v : Int) : S (dg (out.set (out.length - 1 - i) v)) (i + 1) = S (dg out) i + v.toNat * 256 ^ i := by
  show S _ i + dg _ i * 256 ^ i = _
  rw [S_congr (g := dg out) (fun j hj => by rw [dg_set hi, if_neg (by omega)]), dg_set hi, if_pos rfl]
theorem pow_pred (i : Nat) (h : 0 < i) : 256 ^ i = 256 ^ (i - 1) * 256 := by
  obtain ⟨m, rfl⟩ : ∃ m, i = m + 1 := ⟨i - 1, by omega⟩
  rw [Nat.add_sub_cancel, Nat.pow_succ]
theorem S_succ (f : Nat → Nat) (n : Nat) : S f (n + 1) = S f n + f n * 256 ^ n := rfl
theorem step_sum {So Sa Sb da db c s p : Nat} (hs : s = da + db + c) (h : So + c * p = Sa + Sb) : So + s % 256 * p + s / 256 * (p * 256) = (Sa + da * p) + (Sb + db * p) := by
  have e2 : (da + db + c) * p = da * p + db * p + c * p := by rw [Nat.add_mul, Nat.add_mul]
  have e3 : s % 256 * p + s / 256 * (p * 256) = s * p := by
    rw [Nat.mul_comm p 256, ← Nat.mul_assoc, ← Nat.add_mul]
    congr 1
    omega
  rw [← hs] at e2
  omega
theorem step_less1 {So Sa Sb da db c s p : Nat} (hs : s + db + c = da + 256) (h : So + Sb = Sa + c * p) : So + s * p + (Sb + db * p) = (Sa + da * p) + 1 * (p * 256) := by
  have e2 : (s + db + c) * p = s * p + db * p + c * p := by rw [Nat.add_mul, Nat.add_mul]
  rw [hs, Nat.add_mul] at e2
  omega
theorem step_less0 {So Sa Sb da db c s p : Nat} (hs : s + db + c = da) (h : So + Sb = Sa + c * p) : So + s * p + (Sb + db * p) = (Sa + da * p) + 0 * (p * 256) := by
  have e2 : (s + db + c) * p = s * p + db * p + c * p := by rw [Nat.add_mul, Nat.add_mul]
  rw [hs] at e2
  omega
theorem sum_loop {a b : List Int} (ha : Byt a) (hb : Byt b) {n : Nat} (hn : n ≤ 1000000) (hna : a.length < n) (hnb : b.length < n) : ∀ (d i : Nat) (out : List Int) (c : Nat), n - i = d → i ≤ n → out.length = n → Byt out → c ≤ 1 →
    S (dg out) i + c * 256 ^ i = S (dg a) i + S (dg b) i → ∃ r, Ev (fun k => spec_sum.l0 k a b (n : Int) out (c : Int) (i : Int)) r ∧ Can r (val a + val b)
  | 0, i, out, c, hd, hi, hl, hbo, hc, h => by
    obtain rfl : i = n := by omega
    have e1 : S (dg a) i = val a := val_eq (by omega)
    have e2 : S (dg b) i = val b := val_eq (by omega)
    have e3 : S (dg out) i = val out := val_eq (by omega)
    have b1 : val a < 256 ^ (i - 1) := by
      rw [← val_eq (l := a) (n := i - 1) (by omega)]; exact S_lt (fun j _ => dg_lt ha j)
    have b2 : val b < 256 ^ (i - 1) := by
      rw [← val_eq (l := b) (n := i - 1) (by omega)]; exact S_lt (fun j _ => dg_lt hb j)
    have b3 : 256 ^ i = 256 ^ (i - 1) * 256 := pow_pred i (by omega)
    have c0 : c = 0 := by
      rcases Nat.eq_zero_or_pos c with h0 | h0
      · exact h0
      · obtain rfl : c = 1 := by omega
        omega
    subst c0
    obtain ⟨r, h1, h2, _⟩ := cut_ev hbo (by omega)
    refine ⟨r, Ev.step (fun k => ?_) (Ev.bind h1 (Ev.now r)), ?_⟩
    · simp only [spec_sum.l0]
      rw [if_neg (by omega)]
    · rw [show val a + val b = val out from by omega]; exact h2
  | d + 1, i, out, c, hd, hi, hl, hbo, hc, h => by
    have hlt : i < n := by omega
    have d1 := dg_lt ha i
    have d2 := dg_lt hb i
    obtain ⟨s, hs⟩ : ∃ s, s = dg a i + dg b i + c := ⟨_, rfl⟩
    have hlen : (out.set (n - 1 - i) ((s % 256 : Nat) : Int)).length = n := by simp [hl]
    obtain ⟨r, h1, h2⟩ := sum_loop ha hb hn hna hnb d (i + 1) (out.set (n - 1 - i) ((s % 256 : Nat) : Int)) (s / 256) (by omega) (by omega) hlen (hbo.set _ (by omega) (by omega)) (by omega) (by
      have e := S_set (out := out) (i := i) (by omega) ((s % 256 : Nat) : Int)
      rw [hl] at e
      rw [e, Int.toNat_natCast, Nat.pow_succ, S_succ, S_succ]
      exact step_sum hs h)
    refine ⟨r, Ev.step (fun k => ?_) h1, h2⟩
    simp only [spec_sum.l0]
    rw [if_pos (by omega), digit_f ha (by omega) i (by omega), digit_f hb (by omega) i (by omega)]
    simp only [Option.bind_some]
    have es : wrap64 (wrap64 (((dg a i : Nat) : Int) + ((dg b i : Nat) : Int)) + (c : Int)) = ((s : Nat) : Int) := by
      rw [w64 (x := ((dg a i : Nat) : Int) + ((dg b i : Nat) : Int)) (by omega) (by omega), w64 (by omega) (by omega)]; omega
    have hs1 : s ≤ 1000000000 := by rw [hs]; clear h hs; omega
    rw [idx hlt hn, if_pos (by omega), if_pos (by omega), es, tmod256, tdiv256, mod256, w64_succ (by omega), Int.toNat_natCast]
    exact congrArg (fun z => spec_sum.l0 k a b (n : Int) _ z _) (w64_div hs1)
theorem mx_nat (a b : Nat) : mx (a : Int) (b : Int) = ((max a b : Nat) : Int) := by unfold mx; split <;> omega
theorem sum_ev {a b : List Int} (ha : Byt a) (hb : Byt b) (hla : a.length ≤ 100000) (hlb : b.length ≤ 100000) : ∃ r, Ev (fun k => spec_sum.f k a b) r ∧ Can r (val a + val b) := by
  obtain ⟨r, h1, h2⟩ := sum_loop ha hb (n := max a.length b.length + 1) (by omega) (by omega) (by omega) _ 0 (List.replicate (max a.length b.length + 1) 0) 0 rfl (by omega) (by simp) (Byt.zeros _) (by omega) (by simp [S])
  refine ⟨r, Ev.congr (fun k => ?_) h1, h2⟩
  unfold spec_sum.f
  rw [mx_nat, w64 (by omega) (by omega), if_pos (by omega), if_pos (by omega)]
  rfl
theorem less_loop {a b : List Int} (ha : Byt a) (hb : Byt b) (hn : a.length ≤ 1000000) (hab : b.length ≤ a.length) (hv : val b ≤ val a) : ∀ (d i : Nat) (out : List Int) (c : Nat), a.length - i = d → i ≤ a.length → out.length = a.length → Byt out → c ≤ 1 →
    S (dg out) i + S (dg b) i = S (dg a) i + c * 256 ^ i → ∃ r, Ev (fun k => spec_less.l0 k a b out (c : Int) (i : Int)) r ∧ Can r (val a - val b)
  | 0, i, out, c, hd, hi, hl, hbo, hc, h => by
    obtain rfl : i = a.length := by omega
    have e1 : S (dg a) a.length = val a := rfl
    have e2 : S (dg b) a.length = val b := val_eq hab
    have e3 : S (dg out) a.length = val out := val_eq (by omega)
    have b1 : val out < 256 ^ a.length := hl ▸ val_lt hbo
    have c0 : c = 0 := by
      rcases Nat.eq_zero_or_pos c with h0 | h0
      · exact h0
      · obtain rfl : c = 1 := by omega
        omega
    subst c0
    obtain ⟨r, h1, h2, _⟩ := cut_ev hbo (by omega)
    refine ⟨r, Ev.step (fun k => ?_) (Ev.bind h1 (Ev.now r)), ?_⟩
    · simp only [spec_less.l0]
      rw [if_neg (by omega)]
    · rw [show val a - val b = val out from by omega]; exact h2
  | d + 1, i, out, c, hd, hi, hl, hbo, hc, h => by
    have hlt : i < a.length := by omega
    have d1 := dg_lt ha i
    have d2 := dg_lt hb i
    have es : wrap64 (wrap64 (((dg a i : Nat) : Int) - ((dg b i : Nat) : Int)) - (c : Int)) = ((dg a i : Nat) : Int) - ((dg b i : Nat) : Int) - (c : Int) := by
      rw [w64 (x := ((dg a i : Nat) : Int) - ((dg b i : Nat) : Int)) (by omega) (by omega), w64 (by omega) (by omega)]
    by_cases hneg : dg a i < dg b i + c
    · obtain ⟨s, hs⟩ : ∃ s, s + dg b i + c = dg a i + 256 := ⟨dg a i + 256 - dg b i - c, by omega⟩
      have hlen : (out.set (a.length - 1 - i) ((s : Nat) : Int)).length = a.length := by simp [hl]
      obtain ⟨r, h1, h2⟩ := less_loop ha hb hn hab hv d (i + 1) (out.set (a.length - 1 - i) ((s : Nat) : Int)) 1 (by omega) (by omega) hlen (hbo.set _ (by omega) (by omega)) (by omega) (by
        have e := S_set (out := out) (i := i) (by omega) ((s : Nat) : Int)
        rw [hl] at e
        rw [e, Int.toNat_natCast, Nat.pow_succ, S_succ, S_succ]
        exact step_less1 hs h)
      refine ⟨r, Ev.step (fun k => ?_) h1, h2⟩
      simp only [spec_less.l0]
      rw [if_pos (by omega), digit_f ha hn i (by omega), digit_f hb (by omega) i (by omega)]
      simp only [Option.bind_some]
      rw [es, if_pos (by omega), idx hlt hn, if_pos (by omega), if_pos (by omega), w64_succ (by omega), w64 (by omega) (by omega), Int.toNat_natCast]
      rw [show (((dg a i : Nat) : Int) - ((dg b i : Nat) : Int) - (c : Int) + 256) % 256 = ((s : Nat) : Int) from by omega]
      rfl
    · obtain ⟨s, hs⟩ : ∃ s, s + dg b i + c = dg a i := ⟨dg a i - dg b i - c, by omega⟩
      have hlen : (out.set (a.length - 1 - i) ((s : Nat) : Int)).length = a.length := by simp [hl]
      obtain ⟨r, h1, h2⟩ := less_loop ha hb hn hab hv d (i + 1) (out.set (a.length - 1 - i) ((s : Nat) : Int)) 0 (by omega) (by omega) hlen (hbo.set _ (by omega) (by omega)) (by omega) (by
        have e := S_set (out := out) (i := i) (by omega) ((s : Nat) : Int)
        rw [hl] at e
        rw [e, Int.toNat_natCast, Nat.pow_succ, S_succ, S_succ]
        exact step_less0 hs h)
      refine ⟨r, Ev.step (fun k => ?_) h1, h2⟩
      simp only [spec_less.l0]
      rw [if_pos (by omega), digit_f ha hn i (by omega), digit_f hb (by omega) i (by omega)]
      simp only [Option.bind_some]
      rw [es, if_neg (by omega), idx hlt hn, if_pos (by omega), if_pos (by omega), w64_succ (by omega), Int.toNat_natCast]
      rw [show (((dg a i : Nat) : Int) - ((dg b i : Nat) : Int) - (c : Int)) % 256 = ((s : Nat) : Int) from by omega]
      rfl
theorem less_ev {a b : List Int} {A B : Nat} (ha : Can a A) (hb : Can b B) (hn : a.length ≤ 1000000) (hv : B ≤ A) : ∃ r, Ev (fun k => spec_less.f k a b) r ∧ Can r (A - B) := by
  have hab : b.length ≤ a.length := hb.len_le (Nat.lt_of_le_of_lt hv (by rw [← ha.val]; exact val_lt ha.byt))
  obtain ⟨r, h1, h2⟩ := less_loop ha.byt hb.byt hn hab (by rw [ha.val, hb.val]; exact hv) _ 0 (List.replicate a.length 0) 0 rfl (by omega) (by simp) (Byt.zeros _) (by omega) (by simp [S])
  rw [ha.val, hb.val] at h2
  refine ⟨r, Ev.congr (fun k => ?_) h1, h2⟩
  unfold spec_less.f
  rw [if_pos (by omega), if_pos (by omega)]
  rfl
def cmp (a b : Nat) : Int := if a < b then -1 else if a = b then 0 else 1
theorem order_loop {a b : List Int} (ha : Byt a) (hb : Byt b) (hl : a.length = b.length) (hn : a.length ≤ 1000000) : ∀ (d i : Nat), a.length - i = d → i ≤ a.length → a.take i = b.take i →
    Ev (fun k => spec_order.l0 k a b (i : Int)) (cmp (val (a.drop i)) (val (b.drop i)))
  | 0, i, hd, hi, h => by
    refine Ev.step (f := fun _ => some _) (fun k => ?_) (Ev.now _)
    simp only [spec_order.l0]
    rw [if_neg (by omega), List.drop_eq_nil_of_le (by omega), List.drop_eq_nil_of_le (by omega)]
    rfl
  | d + 1, i, hd, hi, h => by
    have hia : i < a.length := by omega
    have hib : i < b.length := by omega
    rw [List.drop_eq_getElem_cons hia, List.drop_eq_getElem_cons hib, val_cons, val_cons]
    have ea : rd a (i : Int) = a[i] := by simp [rd, List.getD, hia]
    have eb : rd b (i : Int) = b[i] := by simp [rd, List.getD, hib]
    have ba := ha _ (List.getElem_mem hia)
    have bb := hb _ (List.getElem_mem hib)
    have va : val (a.drop (i + 1)) < 256 ^ (b.drop (i + 1)).length := by
      rw [show (b.drop (i + 1)).length = (a.drop (i + 1)).length from by simp [hl]]
      exact val_lt (fun x hx => ha x (List.mem_of_mem_drop hx))
    have vb : val (b.drop (i + 1)) < 256 ^ (b.drop (i + 1)).length := val_lt (fun x hx => hb x (List.mem_of_mem_drop hx))
    have el : (a.drop (i + 1)).length = (b.drop (i + 1)).length := by simp [hl]
    rw [el]
    by_cases e : a[i] = b[i]
    · refine Ev.step (fun k => ?_) (?_ : Ev (fun k => spec_order.l0 k a b ((i + 1 : Nat) : Int)) _)
      · simp only [spec_order.l0]
        rw [if_pos (by omega), if_pos (by omega), if_pos (by omega), ea, eb, if_pos e, w64_succ (by omega)]
      · have := order_loop ha hb hl hn d (i + 1) (by omega) (by omega) (by rw [List.take_succ_eq_append_getElem hia, List.take_succ_eq_append_getElem hib, h, e])
        rw [show cmp (a[i].toNat * 256 ^ (b.drop (i + 1)).length + val (a.drop (i + 1))) (b[i].toNat * 256 ^ (b.drop (i + 1)).length + val (b.drop (i + 1))) = cmp (val (a.drop (i + 1))) (val (b.drop (i + 1))) from by
          rw [e]; unfold cmp; split <;> split <;> (try split) <;> (try split) <;> omega]
        exact this
    · refine Ev.step (f := fun _ => some _) (fun k => ?_) (Ev.now _)
      simp only [spec_order.l0]
      rw [if_pos (by omega), if_pos (by omega), if_pos (by omega), ea, eb, if_neg e]
      by_cases hlt : a[i] < b[i]
      · rw [if_pos hlt]
        have : (a[i].toNat + 1) * 256 ^ (b.drop (i + 1)).length ≤ b[i].toNat * 256 ^ (b.drop (i + 1)).length := Nat.mul_le_mul_right _ (by omega)
        rw [Nat.add_mul] at this
        unfold cmp
        rw [if_pos (by omega)]
      · rw [if_neg hlt]
        have : (b[i].toNat + 1) * 256 ^ (b.drop (i + 1)).length ≤ a[i].toNat * 256 ^ (b.drop (i + 1)).length := Nat.mul_le_mul_right _ (by omega)
        rw [Nat.add_mul] at this
        unfold cmp
        rw [if_neg (by omega), if_neg (by omega)]
theorem order_ev {a b : List Int} {A B : Nat} (ha : Can a A) (hb : Can b B) (hn : a.length ≤ 1000000) : Ev (fun k => spec_order.f k a b) (cmp A B) := by
  by_cases e : a.length = b.length
  · have h := order_loop ha.byt hb.byt e hn _ 0 rfl (Nat.zero_le _) rfl
    simp only [List.drop_zero, ha.val, hb.val] at h
    refine Ev.congr (fun k => ?_) h
    unfold spec_order.f
    rw [if_pos (by omega)]
    rfl
  · by_cases hlt : a.length < b.length
    · refine Ev.congr (f := fun _ => some _) (fun k => ?_) (Ev.now _)
      unfold spec_order.f
      rw [if_neg (by omega), if_pos (by omega)]
      have h1 := hb.low (by omega)
      have h2 : A < 256 ^ a.length := by rw [← ha.val]; exact val_lt ha.byt
      have h3 : 256 ^ a.length ≤ 256 ^ (b.length - 1) := Nat.pow_le_pow_right (by decide) (by omega)
      unfold cmp
      rw [if_pos (by omega)]
    · refine Ev.congr (f := fun _ => some _) (fun k => ?_) (Ev.now _)
      unfold spec_order.f
      rw [if_neg (by omega), if_neg (by omega)]
      have h1 := ha.low (by omega)
      have h2 : B < 256 ^ b.length := by rw [← hb.val]; exact val_lt hb.byt
      have h3 : 256 ^ b.length ≤ 256 ^ (a.length - 1) := Nat.pow_le_pow_right (by decide) (by omega)
      unfold cmp
      rw [if_neg (by omega), if_neg (by omega)]
end Go.Proofs.YtldejfallphhbaaGreatDoor.Ref
namespace Go.Proofs.YtldejfallphhbaaGreatDoor.Ref
open Go.RowKit Go.Proofs.YtldejfallphhbaaGreatDoorW.PrintWords Go.Proofs.YtldejfallphhbaaGreatDoorW.PrintLast Go.Proofs.YtldejfallphhbaaGreatDoorW.PrintMore
open PNearest
theorem w64_nat {n : Nat} (h : n ≤ 1000000000) : wrap64 (n : Int) = (n : Int) := w64 (by omega) (by omega)
theorem of_ev {l : List Int} (hb : Byt l) (hl : l.length ≤ 1000000) : ∃ r, Ev (fun k => spec_Of.f k false l) (false, r) ∧ Can r (val l) := by
  obtain ⟨r, h1, h2, _⟩ := cut_ev hb hl
  refine ⟨r, Ev.congr (f := fun k => (spec_cut.f k l).bind fun r => some (false, r)) (fun k => ?_) (Ev.bind h1 (Ev.now _)), h2⟩
  unfold spec_Of.f
  rfl
theorem dec_pos {r : List Int} {N : Nat} (h : Can r N) : decide ((r.length : Int) > 0) = decide (1 ≤ N) := by
  have := h.zero_iff
  by_cases h0 : r.length = 0
  · rw [decide_eq_false (by omega), decide_eq_false (by have := this.1 h0; omega)]
  · rw [decide_eq_true (by omega), decide_eq_true (by
      rcases Nat.eq_zero_or_pos N with e | e
      · exact absurd (this.2 e) h0
      · exact e)]
theorem of_evs (s : Bool) {l : List Int} (hb : Byt l) (hl : l.length ≤ 1000000) : ∃ r, Ev (fun k => spec_Of.f k s l) (s && decide (1 ≤ val l), r) ∧ Can r (val l) := by
  obtain ⟨r, h1, h2, _⟩ := cut_ev hb hl
  cases s
  · rw [Bool.false_and]
    exact of_ev hb hl |>.elim fun r h => ⟨r, h⟩
  · rw [Bool.true_and, ← dec_pos h2]
    refine ⟨r, Ev.congr (f := fun k => (spec_cut.f k l).bind fun r => some (decide ((r.length : Int) > 0), r)) (fun k => ?_) (Ev.bind h1 (Ev.now _)), h2⟩
    unfold spec_Of.f
    rfl
theorem S_nil (f : Nat → Nat) : S f 0 = 0 := rfl
def lf (D : List Int) (j : Nat) : Nat := (D.getD j 0).toNat
theorem lf_set {D : List Int} {i : Nat} (hi : i < D.length) (v : Int) (j : Nat) : lf (D.set i v) j = if j = i then v.toNat else lf D j := by
  unfold lf
  by_cases e : j = i
  · subst e
    rw [if_pos rfl, List.getD, List.getElem?_set_self hi]
    rfl
  · rw [if_neg e, List.getD, List.getD, List.getElem?_set_ne (by omega)]
theorem S_upd {f g : Nat → Nat} {j : Nat} : ∀ {m : Nat}, j < m → (∀ k, k ≠ j → g k = f k) → S g m + f j * 256 ^ j = S f m + g j * 256 ^ j
  | 0, h, _ => absurd h (by omega)
  | m + 1, h, he => by
    rw [S_succ, S_succ]
    by_cases e : j = m
    · subst e
      rw [S_congr (f := g) (g := f) (fun k hk => he k (by omega))]
      omega
    · have ih := S_upd (f := f) (g := g) (j := j) (m := m) (by omega) he
      rw [he m (fun h => e h.symm)]
      omega
theorem lf_zeros (n j : Nat) : lf (List.replicate n 0) j = 0 := by
  unfold lf
  rw [List.getD, List.getElem?_replicate]
  split <;> rfl
theorem lf_lt {D : List Int} (h : Byt D) (j : Nat) : lf D j < 256 := by
  have := h.getD j
  unfold lf
  omega
theorem rd_lf {D : List Int} (h : Byt D) (j : Nat) : rd D (j : Int) = ((lf D j : Nat) : Int) := by
  have := h.getD j
  unfold rd lf
  rw [Int.toNat_natCast]
  omega
attribute [local irreducible] dg lf S val
section
variable {a b : List Int}
theorem mul_out {n : Nat} (hn : n ≤ 100000) {D : List Int} (hD : Byt D) (hDl : D.length = n + 1) (F G : Bool) (x y : List Int) : ∀ (d i : Nat) (out : List Int), n - i = d → i ≤ n → out.length = n → Byt out → S (dg out) i = S (lf D) i →
    ∃ r, Ev (fun k => spec_Int_Mul.l2 k (n : Int) D out (i : Int) F x G y) ((F != G) && decide (1 ≤ S (lf D) n), r) ∧ Can r (S (lf D) n)
  | 0, i, out, hd, hi, hl, hb, h => by
    obtain rfl : i = n := by omega
    obtain ⟨r, h1, h2⟩ := of_evs (F != G) hb (by omega)
    have e : val out = S (lf D) i := by rw [← h, ← hl]; exact (val_eq (Nat.le_refl _)).symm
    rw [e] at h1 h2
    refine ⟨r, Ev.step (fun k => ?_) (Ev.bind h1 (Ev.now ((F != G) && decide (1 ≤ S (lf D) i), r))), h2⟩
    simp only [spec_Int_Mul.l2]
    rw [if_neg (by omega)]
  | d + 1, i, out, hd, hi, hl, hb, h => by
    have hlt : i < n := by omega
    have h0 := lf_lt hD i
    obtain ⟨r, h1, h2⟩ := mul_out hn hD hDl F G x y d (i + 1) (out.set (n - 1 - i) ((lf D i : Nat) : Int)) (by omega) (by omega) (by simp [hl]) (hb.set _ (by omega) (by omega)) (by
      have e := S_set (out := out) (i := i) (by omega) ((lf D i : Nat) : Int)
      rw [hl] at e
      rw [e, Int.toNat_natCast, S_succ, h])
    refine ⟨r, Ev.step (fun k => ?_) h1, h2⟩
    have hm : ((lf D i : Nat) : Int) % 256 = ((lf D i : Nat) : Int) := by clear h; omega
    simp only [spec_Int_Mul.l2]
    rw [if_pos (by omega), if_pos (by omega), if_pos (by omega), idx hlt (by omega), if_pos (by omega), if_pos (by omega), rd_lf hD, hm, w64_succ (by omega), Int.toNat_natCast]
theorem step_mul {SD SD' f s c da db Sa p q B Sk pi pk : Nat} (hs : s = f + da * db + c) (hq : q = p * 256) (hu : SD' + f * p = SD + s % 256 * p) (h : SD + c * p = Sa * B + da * Sk * pi) (hp : p = pi * pk) :
    SD' + s / 256 * q = Sa * B + da * (Sk + db * pk) * pi := by
  have e1 : s % 256 * p + s / 256 * q = s * p := by
    rw [hq, Nat.mul_comm p 256, ← Nat.mul_assoc, ← Nat.add_mul]
    congr 1
    omega
  have e2 : s * p = f * p + da * db * p + c * p := by rw [hs, Nat.add_mul, Nat.add_mul]
  have e3 : da * (Sk + db * pk) * pi = da * Sk * pi + da * db * p := by
    rw [Nat.mul_add, Nat.add_mul, hp, Nat.mul_assoc da db, Nat.mul_assoc da (db * pk) pi, Nat.mul_assoc db pk pi, Nat.mul_comm pk pi]
  omega
theorem mul_tot (Sa da p B : Nat) : Sa * B + da * B * p = (Sa + da * p) * B := by
  rw [Nat.add_mul, Nat.mul_assoc da B p, Nat.mul_comm B p, ← Nat.mul_assoc]
theorem mul_exit (hla : a.length ≤ 10000) (_ : b.length ≤ 10000) (F G Z : Bool) (i : Nat) (hi : i < a.length) (N : Nat)
    (next : ∀ D : List Int, D.length = a.length + b.length + 1 → Byt D → S (lf D) (a.length + b.length + 1) = S (dg a) (i + 1) * val b → ∃ r, Ev (fun k => spec_Int_Mul.l0 k ((a.length + b.length : Nat) : Int) D ((i + 1 : Nat) : Int) F a G b) (Z, r) ∧ Can r N)
    (k : Nat) (D : List Int) (h1 : b.length ≤ k) (hk : k ≤ b.length + 1) (hl : D.length = a.length + b.length + 1) (hbD : Byt D)
    (h : S (lf D) (a.length + b.length + 1) + 0 * 256 ^ (i + k) = S (dg a) i * val b + dg a i * S (dg b) k * 256 ^ i) :
    ∃ r, Ev (fun q => spec_Int_Mul.l1 q ((a.length + b.length : Nat) : Int) D (i : Int) ((0 : Nat) : Int) (k : Int) F a G b) (Z, r) ∧ Can r N := by
  rw [val_eq h1, Nat.zero_mul, Nat.add_zero, mul_tot, ← S_succ] at h
  obtain ⟨r, h2, h3⟩ := next D hl hbD h
  refine ⟨r, Ev.step (fun q => ?_) (Ev.step (g := fun q => spec_Int_Mul.j2 q ((a.length + b.length : Nat) : Int) D (i : Int) ((0 : Nat) : Int) (k : Int) false F a G b) (fun q => ?_) h2), h3⟩
  · simp only [spec_Int_Mul.l1]
    rw [if_neg (by clear h; omega), decide_eq_false (by clear h; omega)]
  · simp only [spec_Int_Mul.j2]
    rw [if_neg (fun h => by cases h), w64_succ (by clear h; omega)]
theorem mul_row (ha : Byt a) (hb : Byt b) (hla : a.length ≤ 10000) (hlb : b.length ≤ 10000) (F G Z : Bool) (i : Nat) (hi : i < a.length) (N : Nat)
    (next : ∀ D : List Int, D.length = a.length + b.length + 1 → Byt D → S (lf D) (a.length + b.length + 1) = S (dg a) (i + 1) * val b → ∃ r, Ev (fun k => spec_Int_Mul.l0 k ((a.length + b.length : Nat) : Int) D ((i + 1 : Nat) : Int) F a G b) (Z, r) ∧ Can r N) :
    ∀ (d k : Nat) (c : Nat) (D : List Int), b.length + 1 - k = d → k ≤ b.length + 1 → D.length = a.length + b.length + 1 → Byt D → c < 256 →
      S (lf D) (a.length + b.length + 1) + c * 256 ^ (i + k) = S (dg a) i * val b + dg a i * S (dg b) k * 256 ^ i →
      ∃ r, Ev (fun q => spec_Int_Mul.l1 q ((a.length + b.length : Nat) : Int) D (i : Int) (c : Int) (k : Int) F a G b) (Z, r) ∧ Can r N := by
  intro d
  induction d with
  | zero =>
    intro k c D hd hk hl hbD hc h
    obtain rfl : k = b.length + 1 := by omega
    have hv : S (dg b) (b.length + 1) = val b := val_eq (by omega)
    have h3 : S (lf D) (a.length + b.length + 1) + c * 256 ^ (i + (b.length + 1)) = S (dg a) (i + 1) * val b := by
      rw [h, hv, S_succ]; exact mul_tot _ _ _ _
    have h4 : S (dg a) (i + 1) * val b < 256 ^ (i + 1 + b.length) := by
      rw [Nat.pow_add]
      exact Nat.mul_lt_mul_of_lt_of_lt (S_lt (fun j _ => dg_lt ha j)) (val_lt hb)
    have c0 : c = 0 := by
      rcases Nat.eq_zero_or_pos c with h0 | h0
      · exact h0
      · have : 1 * 256 ^ (i + (b.length + 1)) ≤ c * 256 ^ (i + (b.length + 1)) := Nat.mul_le_mul_right _ h0
        rw [show i + 1 + b.length = i + (b.length + 1) from by clear h h3 h4 this; omega] at h4
        omega
    subst c0
    exact mul_exit hla hlb F G Z i hi N next _ D (by clear h h3 h4; omega) hk hl hbD h
  | succ d ih =>
    intro k c D hd hk hl hbD hc h
    by_cases hgo : k < b.length ∨ 0 < c
    · have hik : i + k < a.length + b.length + 1 := by
        rcases hgo with h1 | h1
        · omega
        · by_cases hkb : k ≤ b.length
          · omega
          · omega
      have f1 : (0 : Int) ≤ ((i + k : Nat) : Int) := Int.natCast_nonneg _
      have f2 : ((i + k : Nat) : Int) < (D.length : Int) := by rw [hl]; exact Int.ofNat_lt.2 hik
      have f3 : a.length ≤ 1000000 := by clear h; omega
      have f4 : b.length ≤ 1000000 := by clear h; omega
      have f5 : i ≤ 100000000 := by clear h; omega
      have f6 : k ≤ 100000000 := by clear h; omega
      have f7 : i + k ≤ 1000000000 := by clear h; omega
      have f8 : ¬ k < b.length → 0 < c := by clear h; omega
      have d1 := dg_lt ha i
      have d2 := dg_lt hb k
      have d3 := lf_lt hbD (i + k)
      have hm : dg a i * dg b k ≤ 255 * 255 := Nat.mul_le_mul (by omega) (by omega)
      obtain ⟨s, hs⟩ : ∃ s, s = lf D (i + k) + dg a i * dg b k + c := ⟨_, rfl⟩
      have hs1 : s ≤ 65535 := by rw [hs]; clear h; omega
      obtain ⟨r, h1, h2⟩ := ih (k + 1) (s / 256) (D.set (i + k) ((s % 256 : Nat) : Int)) (by clear h; omega) (by clear h; omega) (by simp [hl]) (hbD.set _ (by clear h; omega) (by clear h; omega)) (by clear h; omega) (by
        have hu := S_upd (f := lf D) (g := lf (D.set (i + k) ((s % 256 : Nat) : Int))) (j := i + k) (m := a.length + b.length + 1) hik (fun j hj => by rw [lf_set (by rw [hl]; exact hik), if_neg hj])
        rw [lf_set (D := D) (by rw [hl]; exact hik), if_pos rfl, Int.toNat_natCast] at hu
        rw [S_succ (dg b) k]
        exact step_mul (q := 256 ^ (i + (k + 1))) hs (by rw [show i + (k + 1) = i + k + 1 from by clear h; omega, Nat.pow_succ]) hu h (Nat.pow_add _ _ _))
      refine ⟨r, ?_, h2⟩
      have ew : wrap64 ((i : Int) + (k : Int)) = ((i + k : Nat) : Int) := by rw [← Int.natCast_add]; exact w64_nat f7
      have hq : lf D (i + k) + dg a i * dg b k ≤ 65535 := Nat.le_trans (Nat.le_add_right _ c) (hs ▸ hs1)
      have em : wrap64 (((dg a i : Nat) : Int) * ((dg b k : Nat) : Int)) = ((dg a i * dg b k : Nat) : Int) := by
        rw [← Int.natCast_mul]; exact w64_nat (Nat.le_trans hm (by decide))
      have es1 : wrap64 (((lf D (i + k) : Nat) : Int) + ((dg a i * dg b k : Nat) : Int)) = ((lf D (i + k) + dg a i * dg b k : Nat) : Int) := by
        rw [← Int.natCast_add]; exact w64_nat (Nat.le_trans hq (by decide))
      have es : wrap64 (((lf D (i + k) + dg a i * dg b k : Nat) : Int) + (c : Int)) = ((s : Nat) : Int) := by
        rw [← Int.natCast_add, ← hs]; exact w64_nat (Nat.le_trans hs1 (by decide))
      have key : Ev (fun q => spec_Int_Mul.j2 q ((a.length + b.length : Nat) : Int) D (i : Int) (c : Int) (k : Int) true F a G b) (Z, r) := by
        refine Ev.step (fun q => ?_) h1
        simp only [spec_Int_Mul.j2]
        rw [if_pos trivial, ew, if_pos f1, if_pos f2, digit_f ha f3 i f5, digit_f hb f4 k f6]
        simp only [Option.bind_some]
        rw [rd_lf hbD, em, es1, es, tmod256, tdiv256, w64_succ f6, Int.toNat_natCast]
        exact congrArg (fun z => spec_Int_Mul.l1 q ((a.length + b.length : Nat) : Int) _ (i : Int) z _ F a G b) (w64_div (Nat.le_trans hs1 (by decide)))
      by_cases hkb : k < b.length
      · refine Ev.step (fun q => ?_) key
        simp only [spec_Int_Mul.l1]
        rw [if_pos (Int.ofNat_lt.2 hkb)]
      · refine Ev.step (fun q => ?_) key
        simp only [spec_Int_Mul.l1]
        rw [if_neg (fun hh => hkb (Int.ofNat_lt.1 hh)), decide_eq_true (show (c : Int) > 0 from Int.natCast_pos.2 (f8 hkb))]
    · obtain ⟨h1, rfl⟩ : b.length ≤ k ∧ c = 0 := by clear h; omega
      exact mul_exit hla hlb F G Z i hi N next k D h1 hk hl hbD h
theorem mul_loop (ha : Byt a) (hb : Byt b) (hla : a.length ≤ 10000) (hlb : b.length ≤ 10000) (F G : Bool) : ∀ (d i : Nat) (D : List Int), a.length - i = d → i ≤ a.length → D.length = a.length + b.length + 1 → Byt D → S (lf D) (a.length + b.length + 1) = S (dg a) i * val b →
    ∃ r, Ev (fun k => spec_Int_Mul.l0 k ((a.length + b.length : Nat) : Int) D (i : Int) F a G b) ((F != G) && decide (1 ≤ val a * val b), r) ∧ Can r (val a * val b) := by
  intro d
  induction d with
  | zero =>
    intro i D hd hi hl hbD h
    obtain rfl : i = a.length := by clear h; omega
    have hz : lf D (a.length + b.length) = 0 := by
      have h4 : val a * val b < 256 ^ (a.length + b.length) := by
        rw [Nat.pow_add]
        exact Nat.mul_lt_mul_of_lt_of_lt (val_lt ha) (val_lt hb)
      rw [S_succ] at h
      rcases Nat.eq_zero_or_pos (lf D (a.length + b.length)) with h0 | h0
      · exact h0
      · have : 1 * 256 ^ (a.length + b.length) ≤ lf D (a.length + b.length) * 256 ^ (a.length + b.length) := Nat.mul_le_mul_right _ h0
        have h5 : S (dg a) a.length = val a := val_eq (Nat.le_refl _)
        rw [h5] at h
        omega
    rw [S_succ, hz, Nat.zero_mul, Nat.add_zero] at h
    have e0 : S (dg a) a.length = val a := val_eq (Nat.le_refl _)
    obtain ⟨r, h1, h2⟩ := mul_out (n := a.length + b.length) (by omega) hbD hl F G a b _ 0 (List.replicate (a.length + b.length) 0) rfl (Nat.zero_le _) (by simp) (Byt.zeros _) (by rw [S_nil, S_nil])
    rw [h, e0] at h1 h2
    refine ⟨r, Ev.step (fun k => ?_) h1, h2⟩
    simp only [spec_Int_Mul.l0]
    rw [if_neg (by omega), if_pos (by omega), if_pos (by omega), Int.toNat_natCast]
    rfl
  | succ d ih =>
    intro i D hd hi hl hbD h
    obtain ⟨r, h1, h2⟩ := mul_row ha hb hla hlb F G ((F != G) && decide (1 ≤ val a * val b)) i (by clear h; omega) (val a * val b) (fun D' hl' hb' h' => ih (i + 1) D' (by clear h h'; omega) (by clear h h'; omega) hl' hb' h') _ 0 0 D rfl (by omega) hl hbD (by decide) (by
      rw [h, Nat.zero_mul, Nat.add_zero]
      rw [S_nil, Nat.mul_zero, Nat.zero_mul, Nat.add_zero])
    refine ⟨r, Ev.step (fun k => ?_) h1, h2⟩
    simp only [spec_Int_Mul.l0]
    rw [if_pos (by clear h; omega)]
    rfl
end
theorem mul_evs (F G : Bool) {a b : List Int} {A B : Nat} (ha : Can a A) (hb : Can b B) (hla : a.length ≤ 10000) (hlb : b.length ≤ 10000) : ∃ r, Ev (fun k => spec_Int_Mul.f k F a G b) ((F != G) && decide (1 ≤ A * B), r) ∧ Can r (A * B) := by
  obtain ⟨r, h1, h2⟩ := mul_loop ha.byt hb.byt hla hlb F G _ 0 (List.replicate (a.length + b.length + 1) 0) rfl (Nat.zero_le _) (by simp) (Byt.zeros _) (by
    rw [S_zero _ (fun j _ => lf_zeros _ j)]
    rw [S_nil, Nat.zero_mul])
  rw [ha.val, hb.val] at h1 h2
  refine ⟨r, Ev.congr (fun k => ?_) h1, h2⟩
  unfold spec_Int_Mul.f
  have e1 : wrap64 ((a.length : Int) + (b.length : Int)) = ((a.length + b.length : Nat) : Int) := by rw [w64 (by omega) (by omega)]; rfl
  rw [e1, w64_succ (by omega), if_pos (by omega), if_pos (by omega), Int.toNat_natCast]
  rfl
end Go.Proofs.YtldejfallphhbaaGreatDoor.Ref
namespace Go.Proofs.YtldejfallphhbaaGreatDoor.Ref
open Go.RowKit Go.Proofs.YtldejfallphhbaaGreatDoorW.PrintWords Go.Proofs.YtldejfallphhbaaGreatDoorW.PrintLast Go.Proofs.YtldejfallphhbaaGreatDoorW.PrintMore
open PNearest
theorem u8_shl (e : Nat) (h : e < 8) : shl .u8 1 (e : Int) = ((2 ^ e : Nat) : Int) := by
  match e, h with
  | 0, _ => rfl
  | 1, _ => rfl
  | 2, _ => rfl
  | 3, _ => rfl
  | 4, _ => rfl
  | 5, _ => rfl
  | 6, _ => rfl
  | 7, _ => rfl
theorem tmod8 (s : Nat) : Int.tmod (s : Int) 8 = ((s % 8 : Nat) : Int) := tmod_nat s 8
theorem tdiv8 (s : Nat) : Int.tdiv (s : Int) 8 = ((s / 8 : Nat) : Int) := tdiv_nat s 8
theorem wu64_nat {n : Nat} (h : n ≤ 1000000000) : IntKind.u64.wrap (n : Int) = (n : Int) := wu64 (by omega) (by omega)
theorem val_zeros (n : Nat) : val (List.replicate n 0) = 0 := S_zero _ (fun j _ => dg_zeros n j)
theorem pow_split (n : Nat) : 2 ^ (n % 8) * 256 ^ (n / 8) = 2 ^ n := by
  rw [show (256 : Nat) = 2 ^ 8 from rfl, ← Nat.pow_mul, ← Nat.pow_add]
  congr 1
  omega
theorem pow8_lt (e : Nat) (h : e < 8) : 2 ^ e < 256 := by
  match e, h with
  | 0, _ => decide
  | 1, _ => decide
  | 2, _ => decide
  | 3, _ => decide
  | 4, _ => decide
  | 5, _ => decide
  | 6, _ => decide
  | 7, _ => decide
theorem power_ev (n : Nat) (hn : n ≤ 100000) : ∃ r, Ev (fun k => spec_Power.f k (n : Int)) (false, r) ∧ Can r (2 ^ n) := by
  have hp := pow8_lt (n % 8) (by omega)
  have hb : Byt (((2 ^ (n % 8) : Nat) : Int) :: List.replicate (n / 8) 0) := fun x hx => by
    rcases List.mem_cons.1 hx with rfl | hx
    · exact ⟨Int.natCast_nonneg _, Int.ofNat_lt.2 hp⟩
    · exact Byt.zeros _ x hx
  obtain ⟨r, h1, h2⟩ := of_ev hb (by simp; omega)
  rw [val_cons, val_zeros, List.length_replicate, Int.toNat_natCast, pow_split, Nat.add_zero] at h2
  refine ⟨r, Ev.congr (f := fun k => (spec_Of.f k false (((2 ^ (n % 8) : Nat) : Int) :: List.replicate (n / 8) 0)).bind fun r => some (r.1, r.2)) (fun k => ?_) (Ev.bind h1 (Ev.now (false, r))), h2⟩
  have e1 : wrap64 (wrap64 (Int.tdiv (n : Int) 8) + 1) = ((n / 8 + 1 : Nat) : Int) := by
    rw [tdiv8, w64_nat (by omega)]; exact w64_succ (by omega)
  unfold spec_Power.f
  rw [e1, tmod8, wu64_nat (by omega), if_pos (by omega), if_pos (by omega), Int.toNat_natCast]
  simp only [Option.bind_some]
  rw [if_pos (by omega), if_pos (by simp; omega), u8_shl _ (by omega), List.replicate_succ]
  rfl
theorem bit_f {l : List Int} (hb : Byt l) (hl : l.length ≤ 1000000) (i : Nat) (hi : i ≤ 100000000) : spec_bit.f l (i : Int) = some (((dg l (i / 8) / 2 ^ (i % 8)) % 2 : Nat) : Int) := by
  unfold spec_bit.f
  have hd := dg_lt hb (i / 8)
  have e1 : wrap64 (Int.tdiv (i : Int) 8) = ((i / 8 : Nat) : Int) := by rw [tdiv8]; exact w64_nat (by omega)
  have e2 : IntKind.u64.wrap (Int.tmod (i : Int) 8) = ((i % 8 : Nat) : Int) := by rw [tmod8]; exact wu64_nat (by omega)
  rw [e1, digit_f hb hl (i / 8) (by omega)]
  simp only [Option.bind_some]
  rw [e2, if_pos (by omega)]
  congr 1
  unfold shr
  rw [Int.toNat_natCast, show min (i % 8) IntKind.i64.bits = i % 8 from Nat.min_eq_left (by show i % 8 ≤ 64; omega)]
  rw [show ((dg l (i / 8) : Nat) : Int) / 2 ^ (i % 8) = ((dg l (i / 8) / 2 ^ (i % 8) : Nat) : Int) from by rw [Int.natCast_ediv, Int.natCast_pow]; rfl]
  generalize hx : dg l (i / 8) / 2 ^ (i % 8) = x
  have hx1 : x < 256 := by rw [← hx]; exact Nat.lt_of_le_of_lt (Nat.div_le_self _ _) hd
  exact _root_.Go.Proofs.and_one x (by omega)
theorem S_at {f : Nat → Nat} {j : Nat} : ∀ {n : Nat}, j < n → ∃ R, S f n = S f j + f j * 256 ^ j + R * 256 ^ (j + 1)
  | 0, h => absurd h (by omega)
  | n + 1, h => by
    by_cases e : j = n
    · subst e
      exact ⟨0, by rw [S_succ, Nat.zero_mul, Nat.add_zero]⟩
    · obtain ⟨R, hR⟩ := S_at (f := f) (j := j) (n := n) (by omega)
      refine ⟨R + f n * 256 ^ (n - (j + 1)), ?_⟩
      have e2 : 256 ^ n = 256 ^ (n - (j + 1)) * 256 ^ (j + 1) := by rw [← Nat.pow_add, Nat.sub_add_cancel (by omega)]
      rw [S_succ, hR, Nat.add_mul, e2, Nat.mul_assoc]
      omega
theorem dg_val {l : List Int} (hb : Byt l) (j : Nat) : dg l j = val l / 256 ^ j % 256 := by
  by_cases hj : j < l.length
  · obtain ⟨R, hR⟩ := S_at (f := dg l) (n := l.length) hj
    rw [val_eq (Nat.le_refl _)] at hR
    have h1 : S (dg l) j < 256 ^ j := S_lt (fun i _ => dg_lt hb i)
    have h2 : val l = S (dg l) j + 256 ^ j * (dg l j + 256 * R) := by
      rw [hR, Nat.pow_succ, Nat.mul_add, Nat.mul_comm (256 ^ j) (dg l j), Nat.mul_comm (256 ^ j) (256 * R), Nat.mul_comm (256 ^ j) 256, Nat.mul_comm 256 R, Nat.mul_assoc, Nat.add_assoc]
    rw [h2, Nat.add_mul_div_left _ _ (Nat.pow_pos (by decide)), Nat.div_eq_of_lt h1, Nat.zero_add]
    have := dg_lt hb j
    omega
  · rw [dg_ge (by omega), Nat.div_eq_of_lt]
    have h1 := val_lt hb
    have h2 : 256 ^ l.length ≤ 256 ^ j := Nat.pow_le_pow_right (by decide) (by omega)
    exact Nat.lt_of_lt_of_le h1 h2
theorem bit_val {l : List Int} (hb : Byt l) (i : Nat) : dg l (i / 8) / 2 ^ (i % 8) % 2 = val l / 2 ^ i % 2 := by
  have hp : 2 ^ i = 256 ^ (i / 8) * 2 ^ (i % 8) := by rw [Nat.mul_comm, pow_split]
  rw [dg_val hb, hp, ← Nat.div_div_eq_div_mul]
  generalize val l / 256 ^ (i / 8) = x
  have h : i % 8 < 8 := by omega
  generalize i % 8 = e at h
  match e, h with
  | 0, _ => show x % 256 / 1 % 2 = x / 1 % 2; omega
  | 1, _ => show x % 256 / 2 % 2 = x / 2 % 2; omega
  | 2, _ => show x % 256 / 4 % 2 = x / 4 % 2; omega
  | 3, _ => show x % 256 / 8 % 2 = x / 8 % 2; omega
  | 4, _ => show x % 256 / 16 % 2 = x / 16 % 2; omega
  | 5, _ => show x % 256 / 32 % 2 = x / 32 % 2; omega
  | 6, _ => show x % 256 / 64 % 2 = x / 64 % 2; omega
  | 7, _ => show x % 256 / 128 % 2 = x / 128 % 2; omega
theorem or_all : (List.range 256).all (fun x => (List.range 8).all fun e => x % 2 ^ (e + 1) != 0 || Go.bits .or .u8 (x : Int) ((2 ^ e : Nat) : Int) == ((x + 2 ^ e : Nat) : Int) && decide (x + 2 ^ e < 256)) = true := by decide +kernel
theorem or_add {x e : Nat} (hx : x < 256) (he : e < 8) (h : x % 2 ^ (e + 1) = 0) : Go.bits .or .u8 (x : Int) ((2 ^ e : Nat) : Int) = ((x + 2 ^ e : Nat) : Int) ∧ x + 2 ^ e < 256 := by
  have h1 := List.all_eq_true.1 or_all x (List.mem_range.2 hx)
  have h2 := List.all_eq_true.1 h1 e (List.mem_range.2 he)
  simpa [h] using h2
theorem low_clear {q : List Int} (hb : Byt q) {i m : Nat} (hv : val q = m * 2 ^ (i + 1)) : dg q (i / 8) % 2 ^ (i % 8 + 1) = 0 := by
  have hp : 2 ^ (i + 1) = 256 ^ (i / 8) * 2 ^ (i % 8 + 1) := by
    rw [Nat.pow_succ, ← pow_split i, Nat.pow_succ, Nat.mul_comm (2 ^ (i % 8)), Nat.mul_assoc]
  rw [dg_val hb, hv, hp, ← Nat.mul_assoc, Nat.mul_comm m, Nat.mul_assoc, Nat.mul_div_cancel_left _ (Nat.pow_pos (by decide))]
  have h : i % 8 < 8 := by omega
  generalize i % 8 = e at h
  match e, h with
  | 0, _ => show m * 2 % 256 % 2 = 0; omega
  | 1, _ => show m * 4 % 256 % 4 = 0; omega
  | 2, _ => show m * 8 % 256 % 8 = 0; omega
  | 3, _ => show m * 16 % 256 % 16 = 0; omega
  | 4, _ => show m * 32 % 256 % 32 = 0; omega
  | 5, _ => show m * 64 % 256 % 64 = 0; omega
  | 6, _ => show m * 128 % 256 % 128 = 0; omega
  | 7, _ => show m * 256 % 256 % 256 = 0; omega
theorem val_set {q : List Int} {j : Nat} (hj : j < q.length) (v : Int) : val (q.set (q.length - 1 - j) v) + dg q j * 256 ^ j = val q + v.toNat * 256 ^ j := by
  have h := S_upd (f := dg q) (g := dg (q.set (q.length - 1 - j) v)) (j := j) (m := q.length) hj (fun k hk => by rw [dg_set hj, if_neg hk])
  rw [dg_set hj, if_pos rfl] at h
  rw [val_eq (Nat.le_refl _), val_eq (by simp)] at h
  exact h
end Go.Proofs.YtldejfallphhbaaGreatDoor.Ref
namespace Go.Proofs.YtldejfallphhbaaGreatDoor.Ref
open Go.RowKit Go.Proofs.YtldejfallphhbaaGreatDoorW.PrintWords Go.Proofs.YtldejfallphhbaaGreatDoorW.PrintLast Go.Proofs.YtldejfallphhbaaGreatDoorW.PrintMore
open PNearest
theorem div_of {X B q r : Nat} (h : X = B * q + r) (hr : r < B) : X / B = q ∧ X % B = r := by
  subst h
  exact ⟨by rw [Nat.mul_add_div (by omega), Nat.div_eq_of_lt hr, Nat.add_zero], by rw [Nat.mul_add_mod, Nat.mod_eq_of_lt hr]⟩
theorem twice {X B : Nat} (_ : 0 < B) : X = B * (2 * (X / 2 / B)) + (2 * (X / 2 % B) + X % 2) := by
  have h1 := Nat.div_add_mod (X / 2) B
  have h2 := Nat.div_add_mod X 2
  rw [Nat.mul_left_comm]
  omega
theorem pred_of {K k : Nat} (h : K + 1 ≤ k) : ∃ m, k = m + 1 := ⟨k - 1, by omega⟩
theorem can_one : Can [1] 1 := ⟨fun x hx => by simp at hx; subst hx; decide, rfl, by decide⟩
theorem cmp_ge {a b : Nat} : cmp a b ≥ 0 ↔ b ≤ a := by
  unfold cmp
  split
  · constructor <;> intro h <;> omega
  · split
    · constructor <;> intro h <;> omega
    · constructor <;> intro h <;> omega
section
variable {a b : List Int} {B : Nat}
theorem split_j (hla : a.length ≤ 10000) (hb : Can b B) (hlb : b.length ≤ 10000) {n : Nat} (hn : n < 8 * a.length) {q : List Int} (hq : q.length = a.length) (hbq : Byt q) {m T : Nat} (hv : val q = m * 2 ^ (n + 1)) {t : List Int} (ht : Can t T) (hT : T < 2 * B) {Q R : Nat}
    (next1 : B ≤ T → ∀ q' l', q'.length = a.length → Byt q' → val q' = (2 * m + 1) * 2 ^ n → Can l' (T - B) → ∃ rq rl, Ev (fun k => spec_split.l0 k a b q' l' ((n : Int) - 1)) (rq, rl) ∧ Can rq Q ∧ Can rl R)
    (next0 : T < B → val q = 2 * m * 2 ^ n → ∃ rq rl, Ev (fun k => spec_split.l0 k a b q t ((n : Int) - 1)) (rq, rl) ∧ Can rq Q ∧ Can rl R) :
    ∃ rq rl, Ev (fun k => spec_split.j1 k a b q t (n : Int)) (rq, rl) ∧ Can rq Q ∧ Can rl R := by
  have hlt : t.length ≤ 1000000 := by
    have h1 : T < 256 ^ (b.length + 1) := by
      have : B < 256 ^ b.length := by rw [← hb.val]; exact val_lt hb.byt
      rw [Nat.pow_succ]; omega
    have := ht.len_le h1
    omega
  have he : n % 8 < 8 := by omega
  have g1 : n / 8 ≤ 1000000000 := by omega
  have g2 : n % 8 ≤ 1000000000 := by omega
  have g3 : n / 8 < a.length := by omega
  have g4 : a.length ≤ 1000000 := by omega
  have f1 : (0 : Int) ≤ ((a.length - 1 - n / 8 : Nat) : Int) := Int.natCast_nonneg _
  have f2 : ((a.length - 1 - n / 8 : Nat) : Int) < (q.length : Int) := Int.ofNat_lt.2 (by rw [hq]; omega)
  have f3 : (0 : Int) ≤ ((n % 8 : Nat) : Int) := Int.natCast_nonneg _
  have ew : wrap64 ((n : Int) - 1) = (n : Int) - 1 := w64 (by omega) (by omega)
  have hge : B ≤ T ∨ T < B := by omega
  obtain ⟨K1, ho⟩ := order_ev ht hb hlt
  dsimp only at ho
  rcases hge with hge | hge
  · obtain ⟨l', ⟨K2, hl1⟩, hl2⟩ := less_ev ht hb hlt hge
    dsimp only at hl1
    have hj : n / 8 < q.length := hq ▸ g3
    obtain ⟨e1, e2⟩ := or_add (dg_lt hbq (n / 8)) he (low_clear hbq hv)
    have hset := val_set hj ((dg q (n / 8) + 2 ^ (n % 8) : Nat) : Int)
    obtain ⟨rq, rl, ⟨K3, h1⟩, h2, h3⟩ := next1 hge (q.set (q.length - 1 - n / 8) ((dg q (n / 8) + 2 ^ (n % 8) : Nat) : Int)) l' (by simp [hq]) (hbq.set _ (Int.natCast_nonneg _) (Int.ofNat_lt.2 e2)) (by
      rw [Int.toNat_natCast, Nat.add_mul, pow_split, hv] at hset
      rw [Nat.add_mul, Nat.one_mul]
      rw [Nat.pow_succ, Nat.mul_comm (2 ^ n) 2, ← Nat.mul_assoc, Nat.mul_comm m 2] at hset
      clear e1 ew ho hl1 next0 next1
      omega) hl2
    refine ⟨rq, rl, ⟨max K1 (max K2 K3) + 1, fun k hk => ?_⟩, h2, h3⟩
    obtain ⟨m, rfl⟩ : ∃ m, k = m + 1 := ⟨k - 1, by clear e1 ew ho hl1 next0 next1 hset; omega⟩
    have i1 : wrap64 (Int.tdiv (n : Int) 8) = ((n / 8 : Nat) : Int) := by rw [tdiv8]; exact w64_nat g1
    have i2 : wrap64 (wrap64 ((a.length : Int) - 1) - ((n / 8 : Nat) : Int)) = ((a.length - 1 - n / 8 : Nat) : Int) := idx g3 g4
    have i3 : IntKind.u64.wrap (Int.tmod (n : Int) 8) = ((n % 8 : Nat) : Int) := by rw [tmod8]; exact wu64_nat g2
    have i4 : rd q ((a.length - 1 - n / 8 : Nat) : Int) = ((dg q (n / 8) : Nat) : Int) := by rw [← hq]; exact rd_dg hbq hj
    simp only [spec_split.j1]
    rw [ho m (Nat.le_trans (Nat.le_max_left _ _) (Nat.le_of_succ_le_succ hk))]
    rw [Option.bind_some]
    rw [if_pos (cmp_ge.2 hge), hl1 m (Nat.le_trans (Nat.le_trans (Nat.le_max_left _ _) (Nat.le_max_right _ _)) (Nat.le_of_succ_le_succ hk))]
    rw [Option.bind_some]
    rw [i1, i2, i3, if_pos f1, if_pos f2, if_pos f3, i4, u8_shl _ he, e1, ew, Int.toNat_natCast, ← hq]
    exact h1 m (Nat.le_trans (Nat.le_trans (Nat.le_max_right _ _) (Nat.le_max_right _ _)) (Nat.le_of_succ_le_succ hk))
  · obtain ⟨rq, rl, ⟨K3, h1⟩, h2, h3⟩ := next0 hge (by rw [hv, Nat.pow_succ, Nat.mul_comm (2 ^ n) 2, ← Nat.mul_assoc, Nat.mul_comm m 2])
    refine ⟨rq, rl, ⟨max K1 K3 + 1, fun k hk => ?_⟩, h2, h3⟩
    obtain ⟨m, rfl⟩ : ∃ m, k = m + 1 := ⟨k - 1, by clear ew ho next0 next1 hv; omega⟩
    simp only [spec_split.j1]
    rw [ho m (Nat.le_trans (Nat.le_max_left _ _) (Nat.le_of_succ_le_succ hk))]
    rw [Option.bind_some]
    rw [if_neg (fun h => absurd (cmp_ge.1 h) (Nat.not_le.2 hge)), ew]
    exact h1 m (Nat.le_trans (Nat.le_max_right _ _) (Nat.le_of_succ_le_succ hk))
theorem split_loop (ha : Byt a) (hla : a.length ≤ 10000) (hb : Can b B) (hB : 0 < B) (hlb : b.length ≤ 10000) : ∀ n : Nat, n ≤ 8 * a.length → ∀ (q l : List Int), q.length = a.length → Byt q → val q = val a / 2 ^ n / B * 2 ^ n → Can l (val a / 2 ^ n % B) →
    ∃ rq rl, Ev (fun k => spec_split.l0 k a b q l ((n : Int) - 1)) (rq, rl) ∧ Can rq (val a / B) ∧ Can rl (val a % B) := by
  intro n
  induction n with
  | zero =>
    intro _ q l hq hbq hv hl
    rw [Nat.pow_zero, Nat.div_one] at hv hl
    rw [Nat.mul_one] at hv
    obtain ⟨rq, ⟨K, h1⟩, h2, _⟩ := cut_ev hbq (by omega)
    dsimp only at h1
    rw [hv] at h2
    refine ⟨rq, l, ⟨K + 1, fun k hk => ?_⟩, h2, hl⟩
    obtain ⟨m, rfl⟩ : ∃ m, k = m + 1 := ⟨k - 1, by omega⟩
    simp only [spec_split.l0]
    rw [if_neg (by decide), h1 m (by omega)]
    rfl
  | succ n ih =>
    intro hn q l hq hbq hv hl
    have hn' : n < 8 * a.length := by omega
    have hX : val a / 2 ^ (n + 1) = val a / 2 ^ n / 2 := by rw [Nat.pow_succ, Nat.div_div_eq_div_mul]
    rw [hX] at hv hl
    generalize hXe : val a / 2 ^ n = X at hv hl ih
    have h2 := twice (X := X) hB
    have hr : X / 2 % B < B := Nat.mod_lt _ hB
    have hll : l.length ≤ b.length := hl.len_le (Nat.lt_of_lt_of_le hr (by rw [← hb.val]; exact Nat.le_of_lt (val_lt hb.byt)))
    have hb1 : X % 2 < 2 := Nat.mod_lt _ (by decide)
    generalize hqe : X / 2 / B = m at h2 hv
    generalize hre : X / 2 % B = R at h2 hr hl
    have hex : ((n + 1 : Nat) : Int) - 1 = (n : Int) := by omega
    have hge0 : ((n : Int)) ≥ 0 := by omega
    have hbit : spec_bit.f a (n : Int) = some ((X % 2 : Nat) : Int) := by
      rw [bit_f ha (by omega) n (by omega), bit_val ha, hXe]
    obtain ⟨t1, ⟨K1, ht1⟩, ht2⟩ := sum_ev hl.byt hl.byt (by omega) (by omega)
    rw [hl.val] at ht2
    dsimp only at ht1
    have fin : ∀ t, Can t (2 * R + X % 2) → ∃ rq rl, Ev (fun k => spec_split.j1 k a b q t (n : Int)) (rq, rl) ∧ Can rq (val a / B) ∧ Can rl (val a % B) := fun t ht =>
      split_j hla hb hlb hn' hq hbq hv ht (by omega) (fun hge q' l' hq' hbq' hv' hl' => by
        obtain ⟨d1, d2⟩ := div_of (X := X) (B := B) (q := 2 * m + 1) (r := 2 * R + X % 2 - B) (by rw [Nat.mul_add, Nat.mul_one]; omega) (by omega)
        exact ih (by omega) q' l' hq' hbq' (by rw [d1]; exact hv') (by rw [d2]; exact hl'))
      (fun hlt hv' => by
        obtain ⟨d1, d2⟩ := div_of (X := X) (B := B) (q := 2 * m) (r := 2 * R + X % 2) h2 hlt
        exact ih (by omega) q t hq hbq (by rw [d1]; exact hv') (by rw [d2]; exact ht))
    have hcase : X % 2 = 1 ∨ X % 2 = 0 := by omega
    rcases hcase with hc | hc
    · have l1 : t1.length ≤ 100000 := by
        have h3 : R + R < 256 ^ (b.length + 1) := by
          have : B < 256 ^ b.length := by rw [← hb.val]; exact val_lt hb.byt
          rw [Nat.pow_succ]; omega
        have := ht2.len_le h3
        omega
      obtain ⟨t2, ⟨K2, hs1⟩, hs2⟩ := sum_ev ht2.byt can_one.byt l1 (by decide)
      rw [ht2.val, can_one.val] at hs2
      dsimp only at hs1
      obtain ⟨rq, rl, ⟨K3, h3⟩, h4, h5⟩ := fin t2 (by rw [hc]; rw [show 2 * R + 1 = R + R + 1 from by omega]; exact hs2)
      refine ⟨rq, rl, ⟨max K1 (max K2 K3) + 1, fun k hk => ?_⟩, h4, h5⟩
      obtain ⟨k', rfl⟩ : ∃ m, k = m + 1 := pred_of hk
      rw [hex]
      simp only [spec_split.l0]
      rw [if_pos hge0, ht1 k' (Nat.le_trans (Nat.le_max_left _ _) (Nat.le_of_succ_le_succ hk))]
      rw [Option.bind_some]
      rw [hbit]
      rw [Option.bind_some]
      rw [hc, if_pos (by decide), hs1 k' (Nat.le_trans (Nat.le_trans (Nat.le_max_left _ _) (Nat.le_max_right _ _)) (Nat.le_of_succ_le_succ hk))]
      rw [Option.bind_some]
      exact h3 k' (Nat.le_trans (Nat.le_trans (Nat.le_max_right _ _) (Nat.le_max_right _ _)) (Nat.le_of_succ_le_succ hk))
    · obtain ⟨rq, rl, ⟨K3, h3⟩, h4, h5⟩ := fin t1 (by rw [hc]; rw [show 2 * R + 0 = R + R from by omega]; exact ht2)
      refine ⟨rq, rl, ⟨max K1 K3 + 1, fun k hk => ?_⟩, h4, h5⟩
      obtain ⟨k', rfl⟩ : ∃ m, k = m + 1 := pred_of hk
      rw [hex]
      simp only [spec_split.l0]
      rw [if_pos hge0, ht1 k' (Nat.le_trans (Nat.le_max_left _ _) (Nat.le_of_succ_le_succ hk))]
      rw [Option.bind_some]
      rw [hbit]
      rw [Option.bind_some]
      rw [hc, if_neg (by decide)]
      exact h3 k' (Nat.le_trans (Nat.le_max_right _ _) (Nat.le_of_succ_le_succ hk))
end
theorem split_ev {a b : List Int} {A B : Nat} (ha : Can a A) (hb : Can b B) (hB : 0 < B) (hla : a.length ≤ 10000) (hlb : b.length ≤ 10000) : ∃ rq rl, Ev (fun k => spec_split.f k a b) (rq, rl) ∧ Can rq (A / B) ∧ Can rl (A % B) := by
  have hv : val a / 2 ^ (8 * a.length) = 0 := by
    have := val_lt ha.byt
    rw [show (256 : Nat) = 2 ^ 8 from rfl, ← Nat.pow_mul] at this
    exact Nat.div_eq_of_lt this
  obtain ⟨rq, rl, h1, h2, h3⟩ := split_loop ha.byt hla hb hB hlb (8 * a.length) (Nat.le_refl _) (List.replicate a.length 0) [] (by simp) (Byt.zeros _) (by rw [hv, Nat.zero_div, Nat.zero_mul, val_zeros]) (by rw [hv, Nat.zero_mod]; exact Can.nil)
  rw [ha.val] at h2 h3
  refine ⟨rq, rl, Ev.congr (fun k => ?_) h1, h2, h3⟩
  unfold spec_split.f
  have e1 : wrap64 (8 * (a.length : Int)) = 8 * (a.length : Int) := w64 (by omega) (by omega)
  have e2 : wrap64 (8 * (a.length : Int) - 1) = ((8 * a.length : Nat) : Int) - 1 := by rw [w64 (by omega) (by omega)]; omega
  rw [e1, e2, if_pos (by omega), if_pos (by omega)]
  rfl
end Go.Proofs.YtldejfallphhbaaGreatDoor.Ref
namespace Go.Proofs.YtldejfallphhbaaGreatDoor.Ref
open Go.RowKit Go.Proofs.YtldejfallphhbaaGreatDoorW.PrintWords Go.Proofs.YtldejfallphhbaaGreatDoorW.PrintLast Go.Proofs.YtldejfallphhbaaGreatDoorW.PrintMore
open PNearest
theorem of_can {l : List Int} {N : Nat} (h : Can l N) (hl : l.length ≤ 1000000) : ∃ r, Ev (fun k => spec_Of.f k false l) (false, r) ∧ Can r N := by
  obtain ⟨r, h1, h2⟩ := of_ev h.byt hl
  rw [h.val] at h2
  exact ⟨r, h1, h2⟩
theorem floor_ev {a b : List Int} {A B : Nat} (ha : Can a A) (hb : Can b B) (hB : 0 < B) (hla : a.length ≤ 10000) (hlb : b.length ≤ 10000) : ∃ rq rl, Ev (fun k => spec_Int_Floor.f k false a false b) (false, rq, false, rl) ∧ Can rq (A / B) ∧ Can rl (A % B) := by
  obtain ⟨q, l, ⟨K1, h1⟩, h2, h3⟩ := split_ev ha hb hB hla hlb
  have b1 : A < 256 ^ a.length := by rw [← ha.val]; exact val_lt ha.byt
  have b2 : B < 256 ^ b.length := by rw [← hb.val]; exact val_lt hb.byt
  have l1 := h2.len_le (Nat.lt_of_le_of_lt (Nat.div_le_self _ _) b1)
  have l2 := h3.len_le (Nat.lt_trans (Nat.mod_lt _ hB) b2)
  obtain ⟨q', ⟨K2, h4⟩, h5⟩ := of_can h2 (by omega)
  obtain ⟨l', ⟨K3, h6⟩, h7⟩ := of_can h3 (by omega)
  refine ⟨q', l', ⟨max K1 (max K2 K3), fun k hk => ?_⟩, h5, h7⟩
  dsimp only at h1 h4 h6
  show spec_Int_Floor.f k false a false b = _
  unfold spec_Int_Floor.f
  rw [h1 k (by omega), Option.bind_some, if_pos (show (false == false) = true from rfl)]
  dsimp only
  rw [h4 k (by omega), Option.bind_some, h6 k (by omega), Option.bind_some]
theorem or_step (u d : Nat) (hd : d < 256) : ∃ v : Nat, v < 18446744073709551616 ∧ v % 2 = d % 2 ∧ Go.bits .or .u64 (IntKind.u64.wrap ((u : Int) * 256)) ((d : Nat) : Int) = ((v : Nat) : Int) := by
  have hx : u * 256 % 18446744073709551616 < 18446744073709551616 := Nat.mod_lt _ (by decide)
  refine ⟨u * 256 % 18446744073709551616 ||| d, Nat.or_lt_two_pow (n := 64) hx (by omega), ?_, ?_⟩
  · have h := Nat.or_mod_two_pow (a := u * 256 % 18446744073709551616) (b := d) (n := 1)
    rw [Nat.pow_one] at h
    rw [h, show u * 256 % 18446744073709551616 % 2 = 0 from by omega, Nat.zero_or]
  · rw [IntKind.wrap_u64, show (u : Int) * 256 % 18446744073709551616 = ((u * 256 % 18446744073709551616 : Nat) : Int) from by omega]
    exact bits_or_u64_nat _ _ hx (by omega)
theorem low_loop {l : List Int} (hb : Byt l) (hl : l.length ≤ 1000000) (F : Bool) : ∀ n : Nat, n ≤ 8 → ∀ u : Nat, u < 18446744073709551616 →
    ∃ v : Nat, v < 18446744073709551616 ∧ Ev (fun k => spec_Int_low.l0 k (u : Int) ((n : Int) - 1) F l) ((v : Nat) : Int) ∧ (0 < n → v % 2 = dg l 0 % 2) ∧ (n = 0 → v = u)
  | 0, _, u, hu => by
    refine ⟨u, hu, ⟨1, fun k hk => ?_⟩, fun h => absurd h (by decide), fun _ => rfl⟩
    obtain ⟨m, rfl⟩ := pred_of (K := 0) hk
    simp only [spec_Int_low.l0]
    rw [if_neg (by decide)]
  | n + 1, hn, u, hu => by
    obtain ⟨w, hw, hw2, hw3⟩ := or_step u (dg l n) (dg_lt hb n)
    obtain ⟨v, hv, ⟨K, h1⟩, h2, h3⟩ := low_loop hb hl F n (by omega) w hw
    have hd := dg_lt hb n
    have e1 : IntKind.u64.wrap ((dg l n : Nat) : Int) = ((dg l n : Nat) : Int) := wu64_nat (by omega)
    have e2 : wrap64 ((n : Int) - 1) = (n : Int) - 1 := w64 (by omega) (by omega)
    have e3 : ((n + 1 : Nat) : Int) - 1 = (n : Int) := by omega
    have e4 : (n : Int) ≥ 0 := Int.natCast_nonneg _
    refine ⟨v, hv, ⟨K + 1, fun k hk => ?_⟩, fun _ => ?_, fun h => by cases h⟩
    · obtain ⟨m, rfl⟩ := pred_of hk
      show spec_Int_low.l0 (m + 1) (u : Int) (((n + 1 : Nat) : Int) - 1) F l = _
      rw [e3]
      simp only [spec_Int_low.l0]
      rw [if_pos e4, digit_f hb hl n (by omega), Option.bind_some, e1, hw3, e2]
      exact h1 m (Nat.le_of_succ_le_succ hk)
    · by_cases h0 : n = 0
      · subst h0
        rw [h3 rfl, hw2]
      · exact h2 (by omega)
theorem low_ev {l : List Int} {N : Nat} (h : Can l N) (hl : l.length ≤ 1000000) : ∃ v : Nat, v < 18446744073709551616 ∧ v % 2 = N % 2 ∧ Ev (fun k => spec_Int_low.f k false l) ((v : Nat) : Int) := by
  obtain ⟨v, h1, h2, h3, _⟩ := low_loop h.byt hl false 8 (by decide) 0 (by decide)
  refine ⟨v, h1, ?_, h2⟩
  rw [h3 (by decide), dg_val h.byt, h.val, Nat.pow_zero, Nat.div_one]
  omega
theorem small_one : ∀ k, 20 ≤ k → spec_Small.f k 1 = some (false, [1]) := by
  intro k hk
  exact at_rounds (fun k => spec_Small.mono 1 k) hk (by kernel_rfl)
end Go.Proofs.YtldejfallphhbaaGreatDoor.Ref
namespace Go.Proofs.YtldejfallphhbaaGreatDoor.Ref
open Go.RowKit Go.Proofs.YtldejfallphhbaaGreatDoorW.PrintWords Go.Proofs.YtldejfallphhbaaGreatDoorW.PrintLast Go.Proofs.YtldejfallphhbaaGreatDoorW.PrintMore
open PNearest
theorem bytes_f (u : Nat) : ∀ k, 20 ≤ k → spec_bytesOf.f k (u : Int) = some [(u : Int) / 256 / 256 / 256 / 256 / 256 / 256 / 256 % 256, (u : Int) / 256 / 256 / 256 / 256 / 256 / 256 % 256, (u : Int) / 256 / 256 / 256 / 256 / 256 % 256, (u : Int) / 256 / 256 / 256 / 256 % 256, (u : Int) / 256 / 256 / 256 % 256, (u : Int) / 256 / 256 % 256, (u : Int) / 256 % 256, (u : Int) % 256] :=
  fun k hk => at_rounds (fun k => spec_bytesOf.mono u k) hk (by kernel_rfl)
theorem dv256 (u : Nat) : (u : Int) / 256 = ((u / 256 : Nat) : Int) := by omega
theorem md256 (u : Nat) : (u : Int) % 256 = ((u % 256 : Nat) : Int) := by omega
theorem eight {u a b c d e f g : Nat} (hu : u < 18446744073709551616) (ha : a = u / 256) (hb : b = a / 256) (hc : c = b / 256) (hd : d = c / 256) (he : e = d / 256) (hf : f = e / 256) (hg : g = f / 256) :
    g % 256 * 72057594037927936 + (f % 256 * 281474976710656 + (e % 256 * 1099511627776 + (d % 256 * 4294967296 + (c % 256 * 16777216 + (b % 256 * 65536 + (a % 256 * 256 + u % 256)))))) = u := by
  have h0 : g < 256 := by omega
  have h1 : f = g * 256 + f % 256 := by omega
  have h2 : e = f * 256 + e % 256 := by omega
  have h3 : d = e * 256 + d % 256 := by omega
  have h4 : c = d * 256 + c % 256 := by omega
  have h5 : b = c * 256 + b % 256 := by omega
  have h6 : a = b * 256 + a % 256 := by omega
  have h7 : u = a * 256 + u % 256 := by omega
  rw [Nat.mod_eq_of_lt h0]
  clear ha hb hc hd he hf hg
  generalize f % 256 = r1 at *
  generalize e % 256 = r2 at *
  generalize d % 256 = r3 at *
  generalize c % 256 = r4 at *
  generalize b % 256 = r5 at *
  generalize a % 256 = r6 at *
  generalize u % 256 = r7 at *
  omega
theorem bytes_val {u : Nat} (hu : u < 18446744073709551616) : val [(u : Int) / 256 / 256 / 256 / 256 / 256 / 256 / 256 % 256, (u : Int) / 256 / 256 / 256 / 256 / 256 / 256 % 256, (u : Int) / 256 / 256 / 256 / 256 / 256 % 256, (u : Int) / 256 / 256 / 256 / 256 % 256, (u : Int) / 256 / 256 / 256 % 256, (u : Int) / 256 / 256 % 256, (u : Int) / 256 % 256, (u : Int) % 256] = u := by
  simp only [dv256, md256, val_cons, val_nil, List.length_cons, List.length_nil, Int.toNat_natCast, Nat.reduceAdd, Nat.reducePow, Nat.mul_one, Nat.add_zero]
  exact eight hu rfl rfl rfl rfl rfl rfl rfl
theorem bytes_byt (u : Nat) : Byt [(u : Int) / 256 / 256 / 256 / 256 / 256 / 256 / 256 % 256, (u : Int) / 256 / 256 / 256 / 256 / 256 / 256 % 256, (u : Int) / 256 / 256 / 256 / 256 / 256 % 256, (u : Int) / 256 / 256 / 256 / 256 % 256, (u : Int) / 256 / 256 / 256 % 256, (u : Int) / 256 / 256 % 256, (u : Int) / 256 % 256, (u : Int) % 256] := fun x hx => by
  simp only [List.mem_cons, List.not_mem_nil, or_false] at hx
  rcases hx with rfl | rfl | rfl | rfl | rfl | rfl | rfl | rfl <;> omega
end Go.Proofs.YtldejfallphhbaaGreatDoor.Ref
namespace Go.Proofs.YtldejfallphhbaaGreatDoor.Ref
open Go.RowKit Go.Proofs.YtldejfallphhbaaGreatDoorW.PrintWords Go.Proofs.YtldejfallphhbaaGreatDoorW.PrintLast Go.Proofs.YtldejfallphhbaaGreatDoorW.PrintMore
open PNearest
theorem pow2_lt {n m : Nat} (h : n < 8 * m) : 2 ^ n < 256 ^ m := by
  rw [show (256 : Nat) = 2 ^ 8 from rfl, ← Nat.pow_mul]
  exact (Nat.pow_lt_pow_iff_right (by decide)).2 h
theorem ev_at {α : Type} {g : Nat → Option α} {r : α} (h : Ev g r) : ∃ k, g k = some r := h.rounds
end Go.Proofs.YtldejfallphhbaaGreatDoor.Ref
namespace Go.Proofs.YtldejfallphhbaaGreatDoor.Ref
open Go.RowKit Go.Proofs.YtldejfallphhbaaGreatDoorW.PrintWords Go.Proofs.YtldejfallphhbaaGreatDoorW.PrintLast Go.Proofs.YtldejfallphhbaaGreatDoorW.PrintMore
open PNearest
def iv (s : Bool) (N : Nat) : Int := if s then -(N : Int) else (N : Int)
structure Is (s : Bool) (l : List Int) (z : Int) : Prop where
  can : Can l z.natAbs
  sgn : s = decide (z < 0)
theorem Is.of {s : Bool} {l : List Int} {N : Nat} (h : Can l N) : Is (s && decide (1 ≤ N)) l (iv s N) := by
  unfold iv
  cases s
  · exact ⟨by simpa using h, by simp⟩
  · refine ⟨by simpa using h, ?_⟩
    rw [Bool.true_and]
    exact decide_eq_decide.2 (by simp; omega)
theorem Is.eq {s : Bool} {l : List Int} {z : Int} (h : Is s l z) : iv s z.natAbs = z := by
  unfold iv
  rw [h.sgn]
  by_cases c : z < 0
  · rw [decide_eq_true c, if_pos rfl]; omega
  · rw [decide_eq_false c, if_neg (by decide)]; omega
theorem Is.self {s : Bool} {l : List Int} {z : Int} (h : Is s l z) : (s && decide (1 ≤ z.natAbs)) = s := by
  rw [h.sgn]
  by_cases c : z < 0
  · rw [decide_eq_true c, Bool.true_and]; exact decide_eq_true (by omega)
  · rw [decide_eq_false c, Bool.false_and]
theorem Is.mk' {s : Bool} {l : List Int} {N : Nat} {z : Int} (h : Can l N) (hz : iv s N = z) : Is (s && decide (1 ≤ N)) l z := by
  rw [← hz]; exact Is.of h
theorem of_is (s : Bool) {l : List Int} {N : Nat} (h : Can l N) (hl : l.length ≤ 1000000) : ∃ r, Ev (fun k => spec_Of.f k s l) (s && decide (1 ≤ N), r) ∧ Is (s && decide (1 ≤ N)) r (iv s N) := by
  obtain ⟨r, h1, h2⟩ := of_evs s h.byt hl
  rw [h.val] at h1 h2
  exact ⟨r, h1, Is.of h2⟩
theorem iv_not (s : Bool) (N : Nat) : iv (!s) N = -iv s N := by
  unfold iv
  cases s <;> simp
theorem minus_ev {s : Bool} {l : List Int} {z : Int} (h : Is s l z) (hl : l.length ≤ 1000000) : ∃ t r, Ev (fun k => spec_Int_Minus.f k s l) (t, r) ∧ Is t r (-z) := by
  obtain ⟨r, ⟨K, h1⟩, h2⟩ := of_is (!s) h.can hl
  rw [iv_not, h.eq] at h2
  refine ⟨_, r, ⟨K, fun k hk => ?_⟩, h2⟩
  dsimp only at h1
  show spec_Int_Minus.f k s l = _
  unfold spec_Int_Minus.f
  rw [h1 k hk, Option.bind_some]
theorem len_of {l : List Int} {N n : Nat} (h : Can l N) (hN : N < 256 ^ n) : l.length ≤ n := h.len_le hN
theorem add_ev2 {s t : Bool} {a b : List Int} {y z : Int} (ha : Is s a y) (hb : Is t b z) (hla : a.length ≤ 20000) (hlb : b.length ≤ 20000) : ∃ u r, Ev (fun k => spec_Int_Add.f k s a t b) (u, r) ∧ Is u r (y + z) := by
  have b1 : y.natAbs < 256 ^ max a.length b.length := Nat.lt_of_lt_of_le (by rw [← ha.can.val]; exact val_lt ha.can.byt) (Nat.pow_le_pow_right (by decide) (Nat.le_max_left _ _))
  have b2 : z.natAbs < 256 ^ max a.length b.length := Nat.lt_of_lt_of_le (by rw [← hb.can.val]; exact val_lt hb.can.byt) (Nat.pow_le_pow_right (by decide) (Nat.le_max_right _ _))
  have ea := ha.eq
  have eb := hb.eq
  by_cases hst : s = t
  · obtain ⟨m, ⟨K1, h1⟩, h2⟩ := sum_ev ha.can.byt hb.can.byt (by omega) (by omega)
    rw [ha.can.val, hb.can.val] at h2
    have l1 : m.length ≤ max a.length b.length + 1 := h2.len_le (by rw [Nat.pow_succ]; generalize 256 ^ max a.length b.length = p at b1 b2; omega)
    obtain ⟨r, ⟨K2, h3⟩, h4⟩ := of_is s h2 (by omega)
    have e : iv s (y.natAbs + z.natAbs) = y + z := by
      rw [← hst] at eb
      unfold iv at *
      cases s <;> simp at * <;> omega
    rw [e] at h4
    refine ⟨_, r, ⟨max K1 K2, fun k hk => ?_⟩, h4⟩
    dsimp only at h1 h3
    show spec_Int_Add.f k s a t b = _
    unfold spec_Int_Add.f
    rw [if_pos (by rw [hst]; exact beq_self_eq_true t), h1 k (by omega), Option.bind_some, h3 k (by omega), Option.bind_some]
  · obtain ⟨K0, h0⟩ := order_ev ha.can hb.can (by omega)
    have hts : t = !s := by cases s <;> cases t <;> first | rfl | exact absurd rfl hst
    have hst2 : (s == t) = false := by cases s <;> cases t <;> first | rfl | exact absurd rfl hst
    by_cases hge : z.natAbs ≤ y.natAbs
    · obtain ⟨m, ⟨K1, h1⟩, h2⟩ := less_ev ha.can hb.can (by omega) hge
      have l1 : m.length ≤ max a.length b.length := h2.len_le (by omega)
      obtain ⟨r, ⟨K2, h3⟩, h4⟩ := of_is s h2 (by omega)
      have e : iv s (y.natAbs - z.natAbs) = y + z := by
        rw [hts] at eb
        unfold iv at *
        cases s <;> simp at * <;> omega
      rw [e] at h4
      refine ⟨_, r, ⟨max K0 (max K1 K2), fun k hk => ?_⟩, h4⟩
      dsimp only at h0 h1 h3
      show spec_Int_Add.f k s a t b = _
      unfold spec_Int_Add.f
      rw [if_neg (by rw [hst2]; decide), h0 k (by omega), Option.bind_some, if_pos (cmp_ge.2 hge), h1 k (by omega), Option.bind_some, h3 k (by omega), Option.bind_some]
    · obtain ⟨m, ⟨K1, h1⟩, h2⟩ := less_ev hb.can ha.can (by omega) (by omega)
      have l1 : m.length ≤ max a.length b.length := h2.len_le (by omega)
      obtain ⟨r, ⟨K2, h3⟩, h4⟩ := of_is t h2 (by omega)
      have e : iv t (z.natAbs - y.natAbs) = y + z := by
        rw [hts] at eb ⊢
        unfold iv at *
        cases s <;> simp at * <;> omega
      rw [e] at h4
      refine ⟨_, r, ⟨max K0 (max K1 K2), fun k hk => ?_⟩, h4⟩
      dsimp only at h0 h1 h3
      show spec_Int_Add.f k s a t b = _
      unfold spec_Int_Add.f
      rw [if_neg (by rw [hst2]; decide), h0 k (by omega), Option.bind_some, if_neg (fun h => hge (cmp_ge.1 h)), h1 k (by omega), Option.bind_some, h3 k (by omega), Option.bind_some]
theorem sub_ev2 {s t : Bool} {a b : List Int} {y z : Int} (ha : Is s a y) (hb : Is t b z) (hla : a.length ≤ 20000) (hlb : b.length ≤ 20000) : ∃ u r, Ev (fun k => spec_Int_Sub.f k s a t b) (u, r) ∧ Is u r (y - z) := by
  obtain ⟨t2, b2, ⟨K1, h1⟩, h2⟩ := minus_ev hb (by omega)
  have l2 : b2.length ≤ b.length := h2.can.len_le (by rw [Int.natAbs_neg, ← hb.can.val]; exact val_lt hb.can.byt)
  obtain ⟨u, r, ⟨K2, h3⟩, h4⟩ := add_ev2 ha h2 hla (by omega)
  refine ⟨u, r, ⟨max K1 K2, fun k hk => ?_⟩, by rw [Int.sub_eq_add_neg]; exact h4⟩
  dsimp only at h1 h3
  show spec_Int_Sub.f k s a t b = _
  unfold spec_Int_Sub.f
  rw [h1 k (by omega), Option.bind_some]
  dsimp only
  rw [h3 k (by omega), Option.bind_some]
def cmpI (y z : Int) : Int := if y < z then -1 else if y = z then 0 else 1
theorem sign_f2 {s : Bool} {a : List Int} {y : Int} (ha : Is s a y) : spec_Int_Sign.f s a = some (if y < 0 then -1 else if y = 0 then 0 else 1) := by
  have h := ha.can.zero_iff
  have hs := ha.sgn
  unfold spec_Int_Sign.f spec_Int_Zero.f
  rw [Option.bind_some]
  by_cases h0 : y.natAbs = 0
  · have y0 : y = 0 := by omega
    subst y0
    rw [if_pos (by simp; exact List.eq_nil_of_length_eq_zero (h.2 h0))]
    rfl
  · rw [if_neg (fun e => h0 (h.1 (by simpa using e)))]
    by_cases c : y < 0
    · rw [hs, decide_eq_true c, if_pos rfl, if_pos c]
    · rw [hs, decide_eq_false c, if_neg (by decide), if_neg c, if_neg (by omega)]
theorem cmp_ev2 {s t : Bool} {a b : List Int} {y z : Int} (ha : Is s a y) (hb : Is t b z) (hla : a.length ≤ 1000000) (hlb : b.length ≤ 1000000) : Ev (fun k => spec_Int_Cmp.f k s a t b) (cmpI y z) := by
  obtain ⟨K, h⟩ := order_ev ha.can hb.can hla
  obtain ⟨K', h'⟩ := order_ev hb.can ha.can hlb
  refine ⟨max K K', fun k hk => ?_⟩
  dsimp only at h h'
  show spec_Int_Cmp.f k s a t b = _
  unfold spec_Int_Cmp.f
  rw [sign_f2 ha, sign_f2 hb, Option.bind_some, Option.bind_some, Option.bind_some, Option.bind_some]
  have hs := ha.sgn
  by_cases e : (if y < 0 then (-1 : Int) else if y = 0 then 0 else 1) = if z < 0 then -1 else if z = 0 then 0 else 1
  · rw [if_pos e]
    by_cases c : y < 0
    · have hz : z < 0 := by
        rw [if_pos c] at e
        by_cases cz : z < 0
        · exact cz
        · rw [if_neg cz] at e
          split at e <;> omega
      rw [hs, decide_eq_true c, if_pos rfl, h' k (by omega), Option.bind_some]
      unfold cmp cmpI
      congr 1
      split <;> split <;> (try split) <;> (try split) <;> omega
    · have hz : ¬ z < 0 := by
        intro cz
        rw [if_neg c, if_pos cz] at e
        split at e <;> omega
      rw [hs, decide_eq_false c, if_neg (by decide), h k (by omega), Option.bind_some]
      unfold cmp cmpI
      congr 1
      split <;> split <;> (try split) <;> (try split) <;> omega
  · rw [if_neg e]
    unfold cmpI
    by_cases c : y < 0
    · rw [if_pos c] at e ⊢
      by_cases cz : z < 0
      · rw [if_pos cz] at e; exact absurd rfl e
      · rw [if_pos (by split <;> (try split) <;> omega), if_pos (by omega)]
    · rw [if_neg c] at e ⊢
      by_cases cz : z < 0
      · rw [if_pos cz, if_neg (by split <;> omega), if_neg (by omega), if_neg (by omega)]
      · rw [if_neg cz] at e ⊢
        by_cases y0 : y = 0
        · rw [if_pos y0] at e ⊢
          by_cases z0 : z = 0
          · rw [if_pos z0] at e; exact absurd rfl e
          · rw [if_neg z0, if_pos (by decide), if_pos (by omega)]
        · rw [if_neg y0] at e ⊢
          by_cases z0 : z = 0
          · rw [if_pos z0, if_neg (by decide), if_neg (by omega), if_neg (by omega)]
          · rw [if_neg z0] at e; exact absurd rfl e
theorem lsh_ev2 {s : Bool} {a : List Int} {y : Int} (ha : Is s a y) (hla : a.length ≤ 400) (n : Nat) (hn : n ≤ 4000) : ∃ u r, Ev (fun k => spec_Int_Lsh.f k s a (n : Int)) (u, r) ∧ Is u r (y * ((2 ^ n : Nat) : Int)) := by
  have hz := ha.can.zero_iff
  by_cases h0 : a.length = 0
  · have y0 : y = 0 := by have := hz.1 h0; omega
    subst y0
    refine ⟨false, [], ⟨0, fun k _ => ?_⟩, ⟨by rw [Int.zero_mul]; exact Can.nil, by simp⟩⟩
    show spec_Int_Lsh.f k s a (n : Int) = _
    unfold spec_Int_Lsh.f spec_Int_Zero.f
    rw [Option.bind_some, if_pos (by simp; exact List.eq_nil_of_length_eq_zero h0)]
  · obtain ⟨p, ⟨K1, h1⟩, h2⟩ := power_ev n (by omega)
    have hp : p.length ≤ n / 8 + 1 := h2.len_le (pow2_lt (by omega))
    obtain ⟨r, ⟨K2, h3⟩, h4⟩ := mul_evs s false ha.can h2 (by omega) (by omega)
    rw [Bool.bne_false] at h3
    have hi : Is (s && decide (1 ≤ y.natAbs * 2 ^ n)) r (y * ((2 ^ n : Nat) : Int)) := by
      refine Is.mk' h4 ?_
      have := ha.eq
      rw [← this]
      unfold iv
      cases s
      · simp
      · simp [Int.neg_mul]
    refine ⟨_, r, ⟨max K1 K2, fun k hk => ?_⟩, hi⟩
    dsimp only at h1 h3
    show spec_Int_Lsh.f k s a (n : Int) = _
    unfold spec_Int_Lsh.f spec_Int_Zero.f
    rw [Option.bind_some, if_neg (fun h => h0 (by simpa using h)), h1 k (by omega), Option.bind_some, h3 k (by omega), Option.bind_some]
end Go.Proofs.YtldejfallphhbaaGreatDoor.Ref
