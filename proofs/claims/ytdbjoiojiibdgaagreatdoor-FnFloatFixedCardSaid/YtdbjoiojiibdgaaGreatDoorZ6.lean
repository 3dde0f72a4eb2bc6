/-
  A part of the proof of FnFloatFixed (packed out of smaller texts by a program of this session; what the proof does not reach is left out).
-/
import Derived.Test.YtdbjoiojiibdgaaGreatDoorZ5
import Derived.Below
import Derived.Lib.RabinKarpLaws
import Derived.Laws.Bits64b
import Derived.WalkSmall
import Derived.Lib.Hide
namespace Go.Proofs.YtdbjoiojiibdgaaGreatDoor
def dg (l : List Int) (i : Nat) : Nat := if i < l.length then (l.getD (l.length - 1 - i) 0).toNat else 0
def S (f : Nat → Nat) : Nat → Nat
  | 0 => 0
  | n + 1 => S f n + f n * 256 ^ n
def val (l : List Int) : Nat := S (dg l) l.length
def Byt (l : List Int) : Prop := ∀ x ∈ l, 0 ≤ x ∧ x < 256
structure Can (l : List Int) (N : Nat) : Prop where
  byt : Byt l
  val : val l = N
  top : l.getD 0 1 ≠ 0
theorem S_congr {f g : Nat → Nat} : ∀ {n : Nat}, (∀ j, j < n → f j = g j) → S f n = S g n
  | 0, _ => rfl
  | n + 1, h => by
    show S f n + f n * 256 ^ n = S g n + g n * 256 ^ n
    rw [S_congr (fun j hj => h j (by omega)), h n (by omega)]
theorem S_more {f : Nat → Nat} {n : Nat} : ∀ {m : Nat}, n ≤ m → (∀ j, n ≤ j → j < m → f j = 0) → S f m = S f n
  | 0, h, _ => by obtain rfl : n = 0 := by omega
                  rfl
  | m + 1, h, h0 => by
    by_cases e : n = m + 1
    · subst e; rfl
    · show S f m + f m * 256 ^ m = _
      rw [S_more (by omega) (fun j h1 h2 => h0 j h1 (by omega)), h0 m (by omega) (by omega), Nat.zero_mul, Nat.add_zero]
theorem S_lt {f : Nat → Nat} : ∀ {n : Nat}, (∀ j, j < n → f j < 256) → S f n < 256 ^ n
  | 0, _ => Nat.zero_lt_one
  | n + 1, h => by
    have h1 := S_lt (n := n) (fun j hj => h j (by omega))
    have h2 := h n (by omega)
    have h3 : f n * 256 ^ n ≤ 255 * 256 ^ n := Nat.mul_le_mul_right _ (by omega)
    show S f n + f n * 256 ^ n < 256 ^ (n + 1)
    rw [Nat.pow_succ]
    omega
theorem dg_lt {l : List Int} (h : Byt l) (i : Nat) : dg l i < 256 := by
  unfold dg
  split
  · rename_i hi
    have hm : l.getD (l.length - 1 - i) 0 ∈ l := by
      rw [List.getD, List.getElem?_eq_getElem (by omega : l.length - 1 - i < l.length)]
      exact List.getElem_mem _
    have := h _ hm
    omega
  · decide
theorem dg_ge {l : List Int} {i : Nat} (h : l.length ≤ i) : dg l i = 0 := by
  unfold dg
  rw [if_neg (by omega)]
theorem val_eq {l : List Int} {n : Nat} (h : l.length ≤ n) : S (dg l) n = val l := S_more h (fun _ hj _ => dg_ge hj)
theorem val_lt {l : List Int} (h : Byt l) : val l < 256 ^ l.length := S_lt (fun j _ => dg_lt h j)
theorem dg_cons (x : Int) (l : List Int) (i : Nat) : dg (x :: l) i = if i = l.length then x.toNat else dg l i := by
  unfold dg
  rw [List.length_cons]
  by_cases e : i = l.length
  · subst e
    rw [if_pos (by omega), if_pos rfl, show l.length + 1 - 1 - l.length = 0 from by omega]
    rfl
  · rw [if_neg e]
    by_cases h : i < l.length
    · rw [if_pos (by omega), if_pos h, show l.length + 1 - 1 - i = (l.length - 1 - i) + 1 from by omega]
      simp [List.getD]
    · rw [if_neg (by omega), if_neg h]
theorem val_cons (x : Int) (l : List Int) : val (x :: l) = x.toNat * 256 ^ l.length + val l := by
  unfold val
  rw [List.length_cons]
  show S (dg (x :: l)) l.length + dg (x :: l) l.length * 256 ^ l.length = _
  rw [S_congr (g := dg l) (fun j hj => by rw [dg_cons, if_neg (by omega)]), dg_cons, if_pos rfl, Nat.add_comm]
theorem val_nil : val [] = 0 := rfl
theorem dg_set {l : List Int} {i : Nat} (hi : i < l.length) (v : Int) (j : Nat) : dg (l.set (l.length - 1 - i) v) j = if j = i then v.toNat else dg l j := by
  unfold dg
  rw [List.length_set]
  by_cases hj : j < l.length
  · rw [if_pos hj, if_pos hj]
    by_cases e : j = i
    · subst e
      rw [if_pos rfl, List.getD, List.getElem?_set_self (by omega)]
      rfl
    · rw [if_neg e, List.getD, List.getD, List.getElem?_set_ne (by omega)]
  · rw [if_neg hj, if_neg hj, if_neg (by omega)]
theorem dg_zeros (n j : Nat) : dg (List.replicate n 0) j = 0 := by
  unfold dg
  split
  · rename_i h
    rw [List.length_replicate] at h
    rw [List.getD, List.getElem?_replicate]
    split <;> rfl
  · rfl
theorem S_zero (n : Nat) : ∀ {f : Nat → Nat}, (∀ j, j < n → f j = 0) → S f n = 0 := fun h => by
  rw [S_more (n := 0) (m := n) (Nat.zero_le _) (fun j _ hj => h j hj)]; rfl
theorem Byt.set {l : List Int} (h : Byt l) (i : Nat) {v : Int} (h0 : 0 ≤ v) (h1 : v < 256) : Byt (l.set i v) := fun x hx => by
  rcases List.mem_or_eq_of_mem_set hx with hx | rfl
  · exact h x hx
  · exact ⟨h0, h1⟩
theorem Byt.zeros (n : Nat) : Byt (List.replicate n 0) := fun x hx => by
  obtain ⟨_, rfl⟩ := List.mem_replicate.1 hx
  decide
theorem Byt.getD {l : List Int} (h : Byt l) (i : Nat) : 0 ≤ l.getD i 0 ∧ l.getD i 0 < 256 := by
  by_cases hi : i < l.length
  · have hm : l.getD i 0 ∈ l := by
      rw [List.getD, List.getElem?_eq_getElem hi]
      exact List.getElem_mem _
    exact h _ hm
  · rw [List.getD, List.getElem?_eq_none (by omega)]; decide
theorem Can.low {l : List Int} {N : Nat} (h : Can l N) (h0 : 0 < l.length) : 256 ^ (l.length - 1) ≤ N := by
  obtain ⟨hb, rfl, ht⟩ := h
  match l, h0 with
  | x :: l, _ =>
    have hx := hb x (by simp)
    have hx0 : x ≠ 0 := by simpa [List.getD] using ht
    rw [val_cons, List.length_cons, Nat.add_sub_cancel]
    have : 1 * 256 ^ l.length ≤ x.toNat * 256 ^ l.length := Nat.mul_le_mul_right _ (by omega)
    omega
theorem Can.len_le {l : List Int} {N n : Nat} (h : Can l N) (hN : N < 256 ^ n) : l.length ≤ n := by
  by_cases h0 : 0 < l.length
  · have h1 := h.low h0
    have h2 : 256 ^ (l.length - 1) < 256 ^ n := Nat.lt_of_le_of_lt h1 hN
    have := (Nat.pow_lt_pow_iff_right (by decide : 1 < 256)).1 h2
    omega
  · omega
theorem Can.zero_iff {l : List Int} {N : Nat} (h : Can l N) : l.length = 0 ↔ N = 0 := by
  constructor
  · intro e
    rw [← h.val, List.eq_nil_of_length_eq_zero e]; rfl
  · intro e
    by_cases h0 : 0 < l.length
    · have h1 := h.low h0
      have : 0 < 256 ^ (l.length - 1) := Nat.pow_pos (by decide)
      omega
    · omega
theorem Can.nil : Can [] 0 := ⟨fun _ h => (by cases h), rfl, by decide⟩
end Go.Proofs.YtdbjoiojiibdgaaGreatDoor
namespace Go.Proofs.YtdbjoiojiibdgaaGreatDoor
open Go.RowKit Go.Proofs.YtdbjoiojiibdgaaGreatDoorW.PrintWords Go.Proofs.YtdbjoiojiibdgaaGreatDoorW.PrintLast Go.Proofs.YtdbjoiojiibdgaaGreatDoorW.PrintMore
open PFixed
theorem w64 {x : Int} (h0 : -9223372036854775808 ≤ x) (h1 : x ≤ 9223372036854775807) : wrap64 x = x := by unfold wrap64; omega
theorem wu64 {x : Int} (h0 : 0 ≤ x) (h1 : x < 18446744073709551616) : IntKind.u64.wrap x = x := by rw [IntKind.wrap_u64]; omega
theorem tmod_nat (s m : Nat) : Int.tmod (s : Int) (m : Int) = ((s % m : Nat) : Int) := by
  rw [Int.tmod_eq_emod_of_nonneg (by omega)]; rfl
theorem tdiv_nat (s m : Nat) : Int.tdiv (s : Int) (m : Int) = ((s / m : Nat) : Int) := by
  rw [Int.tdiv_eq_ediv_of_nonneg (by omega)]; rfl
theorem tmod256 (s : Nat) : Int.tmod (s : Int) 256 = ((s % 256 : Nat) : Int) := tmod_nat s 256
theorem tdiv256 (s : Nat) : Int.tdiv (s : Int) 256 = ((s / 256 : Nat) : Int) := tdiv_nat s 256
theorem mod256 (s : Nat) : ((s % 256 : Nat) : Int) % 256 = ((s % 256 : Nat) : Int) := by omega
theorem w64_succ {i : Nat} (h : i ≤ 100000000) : wrap64 ((i : Int) + 1) = ((i + 1 : Nat) : Int) := w64 (by omega) (by omega)
theorem w64_div {s : Nat} (h : s ≤ 1000000000) : wrap64 ((s / 256 : Nat) : Int) = ((s / 256 : Nat) : Int) := w64 (by omega) (by omega)
theorem rd_dg {l : List Int} (hb : Byt l) {i : Nat} (hi : i < l.length) : rd l ((l.length - 1 - i : Nat) : Int) = ((dg l i : Nat) : Int) := by
  unfold rd dg
  rw [if_pos hi, Int.toNat_natCast]
  have := hb.getD (l.length - 1 - i)
  omega
theorem digit_f {l : List Int} (hb : Byt l) (hl : l.length ≤ 1000000) (i : Nat) (hi : i ≤ 100000000) : spec_digit.f l (i : Int) = some ((dg l i : Nat) : Int) := by
  unfold spec_digit.f
  by_cases h : i < l.length
  · have e : wrap64 (wrap64 ((l.length : Int) - 1) - (i : Int)) = ((l.length - 1 - i : Nat) : Int) := by
      rw [w64 (x := (l.length : Int) - 1) (by omega) (by omega), w64 (by omega) (by omega)]
      omega
    have hd := dg_lt hb i
    rw [if_neg (by omega), e, if_pos (by omega), if_pos (by omega), rd_dg hb h, w64 (by omega) (by omega)]
  · rw [if_pos (by omega), dg_ge (by omega)]; rfl
theorem drop_val {l : List Int} (i : Nat) (hi : i < l.length) (h0 : l.getD i 0 = 0) : val (l.drop (i + 1)) = val (l.drop i) := by
  rw [List.drop_eq_getElem_cons hi, val_cons]
  have : l[i] = 0 := by simpa [List.getD, hi] using h0
  rw [this]; simp
theorem cut_loop {l : List Int} (hb : Byt l) (hl : l.length ≤ 1000000) : ∀ (d i : Nat), l.length - i = d → i ≤ l.length → val (l.drop i) = val l →
    ∃ r, Ev (fun k => spec_cut.l0 k l (i : Int)) r ∧ Can r (val l) ∧ r.length ≤ l.length
  | 0, i, hd, hi, hv => by
    obtain rfl : i = l.length := by omega
    refine ⟨[], Ev.step (f := fun _ => some []) (fun k => ?_) (Ev.now _), ⟨fun _ h => (by cases h), ?_, by decide⟩, by simp⟩
    · simp only [spec_cut.l0]
      rw [if_neg (by omega)]
      simp only [Option.bind_some]
      rw [if_pos (by omega), if_pos (by omega), if_pos (by simp)]
      simp
    · rw [← hv]; simp
  | d + 1, i, hd, hi, hv => by
    have hlt : i < l.length := by omega
    by_cases h0 : l.getD i 0 = 0
    · obtain ⟨r, h1, h2, h3⟩ := cut_loop hb hl d (i + 1) (by omega) (by omega) ((drop_val i hlt h0).trans hv)
      refine ⟨r, Ev.step (fun k => ?_) h1, h2, h3⟩
      simp only [spec_cut.l0]
      rw [if_pos (by omega), if_pos (by omega), if_pos (by simpa [rd] using h0), w64 (by omega) (by omega)]
      rfl
    · refine ⟨l.drop i, Ev.step (f := fun _ => some (l.drop i)) (fun k => ?_) (Ev.now _), ⟨fun x hx => hb x (List.mem_of_mem_drop hx), hv, ?_⟩, by simp⟩
      · simp only [spec_cut.l0]
        rw [if_pos (by omega), if_pos (by omega), if_neg (by simpa [rd] using h0)]
        simp only [Option.bind_some]
        rw [if_pos (by omega), if_pos (by simp; omega)]
        simp
      · simpa [List.getD, hlt] using h0
theorem cut_ev {l : List Int} (hb : Byt l) (hl : l.length ≤ 1000000) : ∃ r, Ev (fun k => spec_cut.f k l) r ∧ Can r (val l) ∧ r.length ≤ l.length :=
  cut_loop hb hl _ 0 rfl (Nat.zero_le _) rfl
theorem idx {n i : Nat} (h : i < n) (hn : n ≤ 1000000) : wrap64 (wrap64 ((n : Int) - 1) - (i : Int)) = ((n - 1 - i : Nat) : Int) := by
  rw [w64 (x := (n : Int) - 1) (by omega) (by omega), w64 (by omega) (by omega)]
  omega
theorem S_set {out : List Int} {i : Nat} (hi : i < out.length) (v : Int) : S (dg (out.set (out.length - 1 - i) v)) (i + 1) = S (dg out) i + v.toNat * 256 ^ i := by
  show S _ i + dg _ i * 256 ^ i = _
  rw [S_congr (g := dg out) (fun j hj => by rw [dg_set hi, if_neg (by omega)]), dg_set hi, if_pos rfl]
theorem pow_pred (i : Nat) (h : 0 < i) : 256 ^ i = 256 ^ (i - 1) * 256 := by
  obtain ⟨m, rfl⟩ : ∃ m, i = m + 1 := ⟨i - 1, by omega⟩
  rw [Nat.add_sub_cancel, Nat.pow_succ]
theorem S_succ (f : Nat → Nat) (n : Nat) : S f (n + 1) = S f n + f n * 256 ^ n := rfl
theorem step_sum {So Sa Sb da db c s p : Nat} (hs : s = da + db + c) (h : So + c * p = Sa + Sb) : So + s % 256 * p + s / 256 * (p * 256) = (Sa + da * p) + (Sb + db * p) := by
  have e2 : (da + db + c) * p = da * p + db * p + c * p := by rw [Nat.add_mul, Nat.add_mul]
  have e3 : s % 256 * p + s / 256 * (p * 256) = s * p := by
    rw [Nat.mul_comm p 256, ← Nat.mul_assoc, ← Nat.add_mul]
    congr 1
    omega
  rw [← hs] at e2
  omega
theorem step_less1 {So Sa Sb da db c s p : Nat} (hs : s + db + c = da + 256) (h : So + Sb = Sa + c * p) : So + s * p + (Sb + db * p) = (Sa + da * p) + 1 * (p * 256) := by
  have e2 : (s + db + c) * p = s * p + db * p + c * p := by rw [Nat.add_mul, Nat.add_mul]
  rw [hs, Nat.add_mul] at e2
  omega
theorem step_less0 {So Sa Sb da db c s p : Nat} (hs : s + db + c = da) (h : So + Sb = Sa + c * p) : So + s * p + (Sb + db * p) = (Sa + da * p) + 0 * (p * 256) := by
  have e2 : (s + db + c) * p = s * p + db * p + c * p := by rw [Nat.add_mul, Nat.add_mul]
  rw [hs] at e2
  omega
theorem sum_loop {a b : List Int} (ha : Byt a) (hb : Byt b) {n : Nat} (hn : n ≤ 1000000) (hna : a.length < n) (hnb : b.length < n) : ∀ (d i : Nat) (out : List Int) (c : Nat), n - i = d → i ≤ n → out.length = n → Byt out → c ≤ 1 →
    S (dg out) i + c * 256 ^ i = S (dg a) i + S (dg b) i → ∃ r, Ev (fun k => spec_sum.l0 k a b (n : Int) out (c : Int) (i : Int)) r ∧ Can r (val a + val b)
  | 0, i, out, c, hd, hi, hl, hbo, hc, h => by
    obtain rfl : i = n := by omega
    have e1 : S (dg a) i = val a := val_eq (by omega)
    have e2 : S (dg b) i = val b := val_eq (by omega)
    have e3 : S (dg out) i = val out := val_eq (by omega)
    have b1 : val a < 256 ^ (i - 1) := by
      rw [← val_eq (l := a) (n := i - 1) (by omega)]; exact S_lt (fun j _ => dg_lt ha j)
    have b2 : val b < 256 ^ (i - 1) := by
      rw [← val_eq (l := b) (n := i - 1) (by omega)]; exact S_lt (fun j _ => dg_lt hb j)
    have b3 : 256 ^ i = 256 ^ (i - 1) * 256 := pow_pred i (by omega)
    have c0 : c = 0 := by
      rcases Nat.eq_zero_or_pos c with h0 | h0
      · exact h0
      · obtain rfl : c = 1 := by omega
        omega
    subst c0
    obtain ⟨r, h1, h2, _⟩ := cut_ev hbo (by omega)
    refine ⟨r, Ev.step (fun k => ?_) (Ev.bind h1 (Ev.now r)), ?_⟩
    · simp only [spec_sum.l0]
      rw [if_neg (by omega)]
    · rw [show val a + val b = val out from by omega]; exact h2
  | d + 1, i, out, c, hd, hi, hl, hbo, hc, h => by
    have hlt : i < n := by omega
    have d1 := dg_lt ha i
    have d2 := dg_lt hb i
    obtain ⟨s, hs⟩ : ∃ s, s = dg a i + dg b i + c := ⟨_, rfl⟩
    have hlen : (out.set (n - 1 - i) ((s % 256 : Nat) : Int)).length = n := by simp [hl]
    obtain ⟨r, h1, h2⟩ := sum_loop ha hb hn hna hnb d (i + 1) (out.set (n - 1 - i) ((s % 256 : Nat) : Int)) (s / 256) (by omega) (by omega) hlen (hbo.set _ (by omega) (by omega)) (by omega) (by
      have e := S_set (out := out) (i := i) (by omega) ((s % 256 : Nat) : Int)
      rw [hl] at e
      rw [e, Int.toNat_natCast, Nat.pow_succ, S_succ, S_succ]
      exact step_sum hs h)
    refine ⟨r, Ev.step (fun k => ?_) h1, h2⟩
    simp only [spec_sum.l0]
    rw [if_pos (by omega), digit_f ha (by omega) i (by omega), digit_f hb (by omega) i (by omega)]
    simp only [Option.bind_some]
    have es : wrap64 (wrap64 (((dg a i : Nat) : Int) + ((dg b i : Nat) : Int)) + (c : Int)) = ((s : Nat) : Int) := by
      rw [w64 (x := ((dg a i : Nat) : Int) + ((dg b i : Nat) : Int)) (by omega) (by omega), w64 (by omega) (by omega)]; omega
    have hs1 : s ≤ 1000000000 := by rw [hs]; clear h hs; omega
    rw [idx hlt hn, if_pos (by omega), if_pos (by omega), es, tmod256, tdiv256, mod256, w64_succ (by omega), Int.toNat_natCast]
    exact congrArg (fun z => spec_sum.l0 k a b (n : Int) _ z _) (w64_div hs1)
theorem mx_nat (a b : Nat) : mx (a : Int) (b : Int) = ((max a b : Nat) : Int) := by unfold mx; split <;> omega
theorem sum_ev {a b : List Int} (ha : Byt a) (hb : Byt b) (hla : a.length ≤ 100000) (hlb : b.length ≤ 100000) : ∃ r, Ev (fun k => spec_sum.f k a b) r ∧ Can r (val a + val b) := by
  obtain ⟨r, h1, h2⟩ := sum_loop ha hb (n := max a.length b.length + 1) (by omega) (by omega) (by omega) _ 0 (List.replicate (max a.length b.length + 1) 0) 0 rfl (by omega) (by simp) (Byt.zeros _) (by omega) (by simp [S])
  refine ⟨r, Ev.congr (fun k => ?_) h1, h2⟩
  unfold spec_sum.f
  rw [mx_nat, w64 (by omega) (by omega), if_pos (by omega), if_pos (by omega)]
  rfl
theorem less_loop {a b : List Int} (ha : Byt a) (hb : Byt b) (hn : a.length ≤ 1000000) (hab : b.length ≤ a.length) (hv : val b ≤ val a) : ∀ (d i : Nat) (out : List Int) (c : Nat), a.length - i = d → i ≤ a.length → out.length = a.length → Byt out → c ≤ 1 →
    S (dg out) i + S (dg b) i = S (dg a) i + c * 256 ^ i → ∃ r, Ev (fun k => spec_less.l0 k a b out (c : Int) (i : Int)) r ∧ Can r (val a - val b)
  | 0, i, out, c, hd, hi, hl, hbo, hc, h => by
    obtain rfl : i = a.length := by omega
    have e1 : S (dg a) a.length = val a := rfl
    have e2 : S (dg b) a.length = val b := val_eq hab
    have e3 : S (dg out) a.length = val out := val_eq (by omega)
    have b1 : val out < 256 ^ a.length := hl ▸ val_lt hbo
    have c0 : c = 0 := by
      rcases Nat.eq_zero_or_pos c with h0 | h0
      · exact h0
      · obtain rfl : c = 1 := by omega
        omega
    subst c0
    obtain ⟨r, h1, h2, _⟩ := cut_ev hbo (by omega)
    refine ⟨r, Ev.step (fun k => ?_) (Ev.bind h1 (Ev.now r)), ?_⟩
    · simp only [spec_less.l0]
      rw [if_neg (by omega)]
    · rw [show val a - val b = val out from by omega]; exact h2
  | d + 1, i, out, c, hd, hi, hl, hbo, hc, h => by
    have hlt : i < a.length := by omega
    have d1 := dg_lt ha i
    have d2 := dg_lt hb i
    have es : wrap64 (wrap64 (((dg a i : Nat) : Int) - ((dg b i : Nat) : Int)) - (c : Int)) = ((dg a i : Nat) : Int) - ((dg b i : Nat) : Int) - (c : Int) := by
      rw [w64 (x := ((dg a i : Nat) : Int) - ((dg b i : Nat) : Int)) (by omega) (by omega), w64 (by omega) (by omega)]
    by_cases hneg : dg a i < dg b i + c
    · obtain ⟨s, hs⟩ : ∃ s, s + dg b i + c = dg a i + 256 := ⟨dg a i + 256 - dg b i - c, by omega⟩
      have hlen : (out.set (a.length - 1 - i) ((s : Nat) : Int)).length = a.length := by simp [hl]
      obtain ⟨r, h1, h2⟩ := less_loop ha hb hn hab hv d (i + 1) (out.set (a.length - 1 - i) ((s : Nat) : Int)) 1 (by omega) (by omega) hlen (hbo.set _ (by omega) (by omega)) (by omega) (by
        have e := S_set (out := out) (i := i) (by omega) ((s : Nat) : Int)
        rw [hl] at e
        rw [e, Int.toNat_natCast, Nat.pow_succ, S_succ, S_succ]
        exact step_less1 hs h)
      refine ⟨r, Ev.step (fun k => ?_) h1, h2⟩
      simp only [spec_less.l0]
      rw [if_pos (by omega), digit_f ha hn i (by omega), digit_f hb (by omega) i (by omega)]
      simp only [Option.bind_some]
      rw [es, if_pos (by omega), idx hlt hn, if_pos (by omega), if_pos (by omega), w64_succ (by omega), w64 (by omega) (by omega), Int.toNat_natCast]
      rw [show (((dg a i : Nat) : Int) - ((dg b i : Nat) : Int) - (c : Int) + 256) % 256 = ((s : Nat) : Int) from by omega]
      rfl
    · obtain ⟨s, hs⟩ : ∃ s, s + dg b i + c = dg a i := ⟨dg a i - dg b i - c, by omega⟩
      have hlen : (out.set (a.length - 1 - i) ((s : Nat) : Int)).length = a.length := by simp [hl]
      obtain ⟨r, h1, h2⟩ := less_loop ha hb hn hab hv d (i + 1) (out.set (a.length - 1 - i) ((s : Nat) : Int)) 0 (by omega) (by omega) hlen (hbo.set _ (by omega) (by omega)) (by omega) (by
        have e := S_set (out := out) (i := i) (by omega) ((s : Nat) : Int)
        rw [hl] at e
        rw [e, Int.toNat_natCast, Nat.pow_succ, S_succ, S_succ]
        exact step_less0 hs h)
      refine ⟨r, Ev.step (fun k => ?_) h1, h2⟩
      simp only [spec_less.l0]
      rw [if_pos (by omega), digit_f ha hn i (by omega), digit_f hb (by omega) i (by omega)]
      simp only [Option.bind_some]
      rw [es, if_neg (by omega), idx hlt hn, if_pos (by omega), if_pos (by omega), w64_succ (by omega), Int.toNat_natCast]
      rw [show (((dg a i : Nat) : Int) - ((dg b i : Nat) : Int) - (c : Int)) % 256 = ((s : Nat) : Int) from by omega]
      rfl
theorem less_ev {a b : List Int} {A B : Nat} (ha : Can a A) (hb : Can b B) (hn : a.length ≤ 1000000) (hv : B ≤ A) : ∃ r, Ev (fun k => spec_less.f k a b) r ∧ Can r (A - B) := by
  have hab : b.length ≤ a.length := hb.len_le (Nat.lt_of_le_of_lt hv (by rw [← ha.val]; exact val_lt ha.byt))
  obtain ⟨r, h1, h2⟩ := less_loop ha.byt hb.byt hn hab (by rw [ha.val, hb.val]; exact hv) _ 0 (List.replicate a.length 0) 0 rfl (by omega) (by simp) (Byt.zeros _) (by omega) (by simp [S])
  rw [ha.val, hb.val] at h2
  refine ⟨r, Ev.congr (fun k => ?_) h1, h2⟩
  unfold spec_less.f
  rw [if_pos (by omega), if_pos (by omega)]
  rfl
def cmp (a b : Nat) : Int := if a < b then -1 else if a = b then 0 else 1
theorem order_loop {a b : List Int} (ha : Byt a) (hb : Byt b) (hl : a.length = b.length) (hn : a.length ≤ 1000000) : ∀ (d i : Nat), a.length - i = d → i ≤ a.length → a.take i = b.take i →
    Ev (fun k => spec_order.l0 k a b (i : Int)) (cmp (val (a.drop i)) (val (b.drop i)))
  | 0, i, hd, hi, h => by
    refine Ev.step (f := fun _ => some _) (fun k => ?_) (Ev.now _)
    simp only [spec_order.l0]
    rw [if_neg (by omega), List.drop_eq_nil_of_le (by omega), List.drop_eq_nil_of_le (by omega)]
    rfl
  | d + 1, i, hd, hi, h => by
    have hia : i < a.length := by omega
    have hib : i < b.length := by omega
    rw [List.drop_eq_getElem_cons hia, List.drop_eq_getElem_cons hib, val_cons, val_cons]
    have ea : rd a (i : Int) = a[i] := by simp [rd, List.getD, hia]
    have eb : rd b (i : Int) = b[i] := by simp [rd, List.getD, hib]
    have ba := ha _ (List.getElem_mem hia)
    have bb := hb _ (List.getElem_mem hib)
    have va : val (a.drop (i + 1)) < 256 ^ (b.drop (i + 1)).length := by
      rw [show (b.drop (i + 1)).length = (a.drop (i + 1)).length from by simp [hl]]
      exact val_lt (fun x hx => ha x (List.mem_of_mem_drop hx))
    have vb : val (b.drop (i + 1)) < 256 ^ (b.drop (i + 1)).length := val_lt (fun x hx => hb x (List.mem_of_mem_drop hx))
    have el : (a.drop (i + 1)).length = (b.drop (i + 1)).length := by simp [hl]
    rw [el]
    by_cases e : a[i] = b[i]
    · refine Ev.step (fun k => ?_) (?_ : Ev (fun k => spec_order.l0 k a b ((i + 1 : Nat) : Int)) _)
      · simp only [spec_order.l0]
        rw [if_pos (by omega), if_pos (by omega), if_pos (by omega), ea, eb, if_pos e, w64_succ (by omega)]
      · have := order_loop ha hb hl hn d (i + 1) (by omega) (by omega) (by rw [List.take_succ_eq_append_getElem hia, List.take_succ_eq_append_getElem hib, h, e])
        rw [show cmp (a[i].toNat * 256 ^ (b.drop (i + 1)).length + val (a.drop (i + 1))) (b[i].toNat * 256 ^ (b.drop (i + 1)).length + val (b.drop (i + 1))) = cmp (val (a.drop (i + 1))) (val (b.drop (i + 1))) from by
          rw [e]; unfold cmp; split <;> split <;> (try split) <;> (try split) <;> omega]
        exact this
    · refine Ev.step (f := fun _ => some _) (fun k => ?_) (Ev.now _)
      simp only [spec_order.l0]
      rw [if_pos (by omega), if_pos (by omega), if_pos (by omega), ea, eb, if_neg e]
      by_cases hlt : a[i] < b[i]
      · rw [if_pos hlt]
        have : (a[i].toNat + 1) * 256 ^ (b.drop (i + 1)).length ≤ b[i].toNat * 256 ^ (b.drop (i + 1)).length := Nat.mul_le_mul_right _ (by omega)
        rw [Nat.add_mul] at this
        unfold cmp
        rw [if_pos (by omega)]
      · rw [if_neg hlt]
        have : (b[i].toNat + 1) * 256 ^ (b.drop (i + 1)).length ≤ a[i].toNat * 256 ^ (b.drop (i + 1)).length := Nat.mul_le_mul_right _ (by omega)
        rw [Nat.add_mul] at this
        unfold cmp
        rw [if_neg (by omega), if_neg (by omega)]
theorem order_ev {a b : List Int} {A B : Nat} (ha : Can a A) (hb : Can b B) (hn : a.length ≤ 1000000) : Ev (fun k => spec_order.f k a b) (cmp A B) := by
  by_cases e : a.length = b.length
  · have h := order_loop ha.byt hb.byt e hn _ 0 rfl (Nat.zero_le _) rfl
    simp only [List.drop_zero, ha.val, hb.val] at h
    refine Ev.congr (fun k => ?_) h
    unfold spec_order.f
    rw [if_pos (by omega)]
    rfl
  · by_cases hlt : a.length < b.length
    · refine Ev.congr (f := fun _ => some _) (fun k => ?_) (Ev.now _)
      unfold spec_order.f
      rw [if_neg (by omega), if_pos (by omega)]
      have h1 := hb.low (by omega)
      have h2 : A < 256 ^ a.length := by rw [← ha.val]; exact val_lt ha.byt
      have h3 : 256 ^ a.length ≤ 256 ^ (b.length - 1) := Nat.pow_le_pow_right (by decide) (by omega)
      unfold cmp
      rw [if_pos (by omega)]
    · refine Ev.congr (f := fun _ => some _) (fun k => ?_) (Ev.now _)
      unfold spec_order.f
      rw [if_neg (by omega), if_neg (by omega)]
      have h1 := ha.low (by omega)
      have h2 : B < 256 ^ b.length := by rw [← hb.val]; exact val_lt hb.byt
      have h3 : 256 ^ b.length ≤ 256 ^ (a.length - 1) := Nat.pow_le_pow_right (by decide) (by omega)
      unfold cmp
      rw [if_neg (by omega), if_neg (by omega)]
end Go.Proofs.YtdbjoiojiibdgaaGreatDoor
namespace Go.Proofs.YtdbjoiojiibdgaaGreatDoor
open Go.RowKit Go.Proofs.YtdbjoiojiibdgaaGreatDoorW.PrintWords Go.Proofs.YtdbjoiojiibdgaaGreatDoorW.PrintLast Go.Proofs.YtdbjoiojiibdgaaGreatDoorW.PrintMore
open PFixed
theorem w64_nat {n : Nat} (h : n ≤ 1000000000) : wrap64 (n : Int) = (n : Int) := w64 (by omega) (by omega)
theorem of_ev {l : List Int} (hb : Byt l) (hl : l.length ≤ 1000000) : ∃ r, Ev (fun k => spec_Of.f k false l) (false, r) ∧ Can r (val l) := by
  obtain ⟨r, h1, h2, _⟩ := cut_ev hb hl
  refine ⟨r, Ev.congr (f := fun k => (spec_cut.f k l).bind fun r => some (false, r)) (fun k => ?_) (Ev.bind h1 (Ev.now _)), h2⟩
  unfold spec_Of.f
  rfl
theorem S_nil (f : Nat → Nat) : S f 0 = 0 := rfl
def lf (D : List Int) (j : Nat) : Nat := (D.getD j 0).toNat
theorem lf_set {D : List Int} {i : Nat} (hi : i < D.length) (v : Int) (j : Nat) : lf (D.set i v) j = if j = i then v.toNat else lf D j := by
  unfold lf
  by_cases e : j = i
  · subst e
    rw [if_pos rfl, List.getD, List.getElem?_set_self hi]
    rfl
  · rw [if_neg e, List.getD, List.getD, List.getElem?_set_ne (by omega)]
theorem S_upd {f g : Nat → Nat} {j : Nat} : ∀ {m : Nat}, j < m → (∀ k, k ≠ j → g k = f k) → S g m + f j * 256 ^ j = S f m + g j * 256 ^ j
  | 0, h, _ => absurd h (by omega)
  | m + 1, h, he => by
    rw [S_succ, S_succ]
    by_cases e : j = m
    · subst e
      rw [S_congr (f := g) (g := f) (fun k hk => he k (by omega))]
      omega
    · have ih := S_upd (f := f) (g := g) (j := j) (m := m) (by omega) he
      rw [he m (fun h => e h.symm)]
      omega
theorem lf_zeros (n j : Nat) : lf (List.replicate n 0) j = 0 := by
  unfold lf
  rw [List.getD, List.getElem?_replicate]
  split <;> rfl
theorem lf_lt {D : List Int} (h : Byt D) (j : Nat) : lf D j < 256 := by
  have := h.getD j
  unfold lf
  omega
theorem rd_lf {D : List Int} (h : Byt D) (j : Nat) : rd D (j : Int) = ((lf D j : Nat) : Int) := by
  have := h.getD j
  unfold rd lf
  rw [Int.toNat_natCast]
  omega
attribute [local irreducible] dg lf S val
section
variable {a b : List Int}
theorem mul_out {n : Nat} (hn : n ≤ 100000) {D : List Int} (hD : Byt D) (hDl : D.length = n + 1) (F G : Bool) (x y : List Int) (hFG : (F != G) = false) : ∀ (d i : Nat) (out : List Int), n - i = d → i ≤ n → out.length = n → Byt out → S (dg out) i = S (lf D) i →
    ∃ r, Ev (fun k => spec_Int_Mul.l2 k (n : Int) D out (i : Int) F x G y) (false, r) ∧ Can r (S (lf D) n)
  | 0, i, out, hd, hi, hl, hb, h => by
    obtain rfl : i = n := by omega
    obtain ⟨r, h1, h2⟩ := of_ev hb (by omega)
    refine ⟨r, Ev.step (fun k => ?_) (Ev.bind h1 (Ev.now (false, r))), ?_⟩
    · simp only [spec_Int_Mul.l2]
      rw [if_neg (by omega), hFG]
    · have e : val out = S (lf D) i := by rw [← h, ← hl]; exact (val_eq (Nat.le_refl _)).symm
      rw [← e]; exact h2
  | d + 1, i, out, hd, hi, hl, hb, h => by
    have hlt : i < n := by omega
    have h0 := lf_lt hD i
    obtain ⟨r, h1, h2⟩ := mul_out hn hD hDl F G x y hFG d (i + 1) (out.set (n - 1 - i) ((lf D i : Nat) : Int)) (by omega) (by omega) (by simp [hl]) (hb.set _ (by omega) (by omega)) (by
      have e := S_set (out := out) (i := i) (by omega) ((lf D i : Nat) : Int)
      rw [hl] at e
      rw [e, Int.toNat_natCast, S_succ, h])
    refine ⟨r, Ev.step (fun k => ?_) h1, h2⟩
    have hm : ((lf D i : Nat) : Int) % 256 = ((lf D i : Nat) : Int) := by clear h; omega
    simp only [spec_Int_Mul.l2]
    rw [if_pos (by omega), if_pos (by omega), if_pos (by omega), idx hlt (by omega), if_pos (by omega), if_pos (by omega), rd_lf hD, hm, w64_succ (by omega), Int.toNat_natCast]
theorem step_mul {SD SD' f s c da db Sa p q B Sk pi pk : Nat} (hs : s = f + da * db + c) (hq : q = p * 256) (hu : SD' + f * p = SD + s % 256 * p) (h : SD + c * p = Sa * B + da * Sk * pi) (hp : p = pi * pk) :
    SD' + s / 256 * q = Sa * B + da * (Sk + db * pk) * pi := by
  have e1 : s % 256 * p + s / 256 * q = s * p := by
    rw [hq, Nat.mul_comm p 256, ← Nat.mul_assoc, ← Nat.add_mul]
    congr 1
    omega
  have e2 : s * p = f * p + da * db * p + c * p := by rw [hs, Nat.add_mul, Nat.add_mul]
  have e3 : da * (Sk + db * pk) * pi = da * Sk * pi + da * db * p := by
    rw [Nat.mul_add, Nat.add_mul, hp, Nat.mul_assoc da db, Nat.mul_assoc da (db * pk) pi, Nat.mul_assoc db pk pi, Nat.mul_comm pk pi]
  omega
theorem mul_tot (Sa da p B : Nat) : Sa * B + da * B * p = (Sa + da * p) * B := by
  rw [Nat.add_mul, Nat.mul_assoc da B p, Nat.mul_comm B p, ← Nat.mul_assoc]
theorem mul_exit (hla : a.length ≤ 10000) (_ : b.length ≤ 10000) (F G : Bool) (i : Nat) (hi : i < a.length) (N : Nat)
    (next : ∀ D : List Int, D.length = a.length + b.length + 1 → Byt D → S (lf D) (a.length + b.length + 1) = S (dg a) (i + 1) * val b → ∃ r, Ev (fun k => spec_Int_Mul.l0 k ((a.length + b.length : Nat) : Int) D ((i + 1 : Nat) : Int) F a G b) (false, r) ∧ Can r N)
    (k : Nat) (D : List Int) (h1 : b.length ≤ k) (hk : k ≤ b.length + 1) (hl : D.length = a.length + b.length + 1) (hbD : Byt D)
    (h : S (lf D) (a.length + b.length + 1) + 0 * 256 ^ (i + k) = S (dg a) i * val b + dg a i * S (dg b) k * 256 ^ i) :
    ∃ r, Ev (fun q => spec_Int_Mul.l1 q ((a.length + b.length : Nat) : Int) D (i : Int) ((0 : Nat) : Int) (k : Int) F a G b) (false, r) ∧ Can r N := by
  rw [val_eq h1, Nat.zero_mul, Nat.add_zero, mul_tot, ← S_succ] at h
  obtain ⟨r, h2, h3⟩ := next D hl hbD h
  refine ⟨r, Ev.step (fun q => ?_) (Ev.step (g := fun q => spec_Int_Mul.j2 q ((a.length + b.length : Nat) : Int) D (i : Int) ((0 : Nat) : Int) (k : Int) false F a G b) (fun q => ?_) h2), h3⟩
  · simp only [spec_Int_Mul.l1]
    rw [if_neg (by clear h; omega), decide_eq_false (by clear h; omega)]
  · simp only [spec_Int_Mul.j2]
    rw [if_neg (fun h => by cases h), w64_succ (by clear h; omega)]
theorem mul_row (ha : Byt a) (hb : Byt b) (hla : a.length ≤ 10000) (hlb : b.length ≤ 10000) (F G : Bool) (i : Nat) (hi : i < a.length) (N : Nat)
    (next : ∀ D : List Int, D.length = a.length + b.length + 1 → Byt D → S (lf D) (a.length + b.length + 1) = S (dg a) (i + 1) * val b → ∃ r, Ev (fun k => spec_Int_Mul.l0 k ((a.length + b.length : Nat) : Int) D ((i + 1 : Nat) : Int) F a G b) (false, r) ∧ Can r N) :
    ∀ (d k : Nat) (c : Nat) (D : List Int), b.length + 1 - k = d → k ≤ b.length + 1 → D.length = a.length + b.length + 1 → Byt D → c < 256 →
      S (lf D) (a.length + b.length + 1) + c * 256 ^ (i + k) = S (dg a) i * val b + dg a i * S (dg b) k * 256 ^ i →
      ∃ r, Ev (fun q => spec_Int_Mul.l1 q ((a.length + b.length : Nat) : Int) D (i : Int) (c : Int) (k : Int) F a G b) (false, r) ∧ Can r N := by
  intro d
  induction d with
  | zero =>
    intro k c D hd hk hl hbD hc h
    obtain rfl : k = b.length + 1 := by omega
    have hv : S (dg b) (b.length + 1) = val b := val_eq (by omega)
    have h3 : S (lf D) (a.length + b.length + 1) + c * 256 ^ (i + (b.length + 1)) = S (dg a) (i + 1) * val b := by
      rw [h, hv, S_succ]; exact mul_tot _ _ _ _
    have h4 : S (dg a) (i + 1) * val b < 256 ^ (i + 1 + b.length) := by
      rw [Nat.pow_add]
      exact Nat.mul_lt_mul_of_lt_of_lt (S_lt (fun j _ => dg_lt ha j)) (val_lt hb)
    have c0 : c = 0 := by
      rcases Nat.eq_zero_or_pos c with h0 | h0
      · exact h0
      · have : 1 * 256 ^ (i + (b.length + 1)) ≤ c * 256 ^ (i + (b.length + 1)) := Nat.mul_le_mul_right _ h0
        rw [show i + 1 + b.length = i + (b.length + 1) from by clear h h3 h4 this; omega] at h4
        omega
    subst c0
    exact mul_exit hla hlb F G i hi N next _ D (by clear h h3 h4; omega) hk hl hbD h
  | succ d ih =>
    intro k c D hd hk hl hbD hc h
    by_cases hgo : k < b.length ∨ 0 < c
    · have hik : i + k < a.length + b.length + 1 := by
        rcases hgo with h1 | h1
        · omega
        · by_cases hkb : k ≤ b.length
          · omega
          · omega
      have f1 : (0 : Int) ≤ ((i + k : Nat) : Int) := Int.natCast_nonneg _
      have f2 : ((i + k : Nat) : Int) < (D.length : Int) := by rw [hl]; exact Int.ofNat_lt.2 hik
      have f3 : a.length ≤ 1000000 := by clear h; omega
      have f4 : b.length ≤ 1000000 := by clear h; omega
      have f5 : i ≤ 100000000 := by clear h; omega
      have f6 : k ≤ 100000000 := by clear h; omega
      have f7 : i + k ≤ 1000000000 := by clear h; omega
      have f8 : ¬ k < b.length → 0 < c := by clear h; omega
      have d1 := dg_lt ha i
      have d2 := dg_lt hb k
      have d3 := lf_lt hbD (i + k)
      have hm : dg a i * dg b k ≤ 255 * 255 := Nat.mul_le_mul (by omega) (by omega)
      obtain ⟨s, hs⟩ : ∃ s, s = lf D (i + k) + dg a i * dg b k + c := ⟨_, rfl⟩
      have hs1 : s ≤ 65535 := by rw [hs]; clear h; omega
      obtain ⟨r, h1, h2⟩ := ih (k + 1) (s / 256) (D.set (i + k) ((s % 256 : Nat) : Int)) (by clear h; omega) (by clear h; omega) (by simp [hl]) (hbD.set _ (by clear h; omega) (by clear h; omega)) (by clear h; omega) (by
        have hu := S_upd (f := lf D) (g := lf (D.set (i + k) ((s % 256 : Nat) : Int))) (j := i + k) (m := a.length + b.length + 1) hik (fun j hj => by rw [lf_set (by rw [hl]; exact hik), if_neg hj])
        rw [lf_set (D := D) (by rw [hl]; exact hik), if_pos rfl, Int.toNat_natCast] at hu
        rw [S_succ (dg b) k]
        exact step_mul (q := 256 ^ (i + (k + 1))) hs (by rw [show i + (k + 1) = i + k + 1 from by clear h; omega, Nat.pow_succ]) hu h (Nat.pow_add _ _ _))
      refine ⟨r, ?_, h2⟩
      have ew : wrap64 ((i : Int) + (k : Int)) = ((i + k : Nat) : Int) := by rw [← Int.natCast_add]; exact w64_nat f7
      have hq : lf D (i + k) + dg a i * dg b k ≤ 65535 := Nat.le_trans (Nat.le_add_right _ c) (hs ▸ hs1)
      have em : wrap64 (((dg a i : Nat) : Int) * ((dg b k : Nat) : Int)) = ((dg a i * dg b k : Nat) : Int) := by
        rw [← Int.natCast_mul]; exact w64_nat (Nat.le_trans hm (by decide))
      have es1 : wrap64 (((lf D (i + k) : Nat) : Int) + ((dg a i * dg b k : Nat) : Int)) = ((lf D (i + k) + dg a i * dg b k : Nat) : Int) := by
        rw [← Int.natCast_add]; exact w64_nat (Nat.le_trans hq (by decide))
      have es : wrap64 (((lf D (i + k) + dg a i * dg b k : Nat) : Int) + (c : Int)) = ((s : Nat) : Int) := by
        rw [← Int.natCast_add, ← hs]; exact w64_nat (Nat.le_trans hs1 (by decide))
      have key : Ev (fun q => spec_Int_Mul.j2 q ((a.length + b.length : Nat) : Int) D (i : Int) (c : Int) (k : Int) true F a G b) (false, r) := by
        refine Ev.step (fun q => ?_) h1
        simp only [spec_Int_Mul.j2]
        rw [if_pos trivial, ew, if_pos f1, if_pos f2, digit_f ha f3 i f5, digit_f hb f4 k f6]
        simp only [Option.bind_some]
        rw [rd_lf hbD, em, es1, es, tmod256, tdiv256, w64_succ f6, Int.toNat_natCast]
        exact congrArg (fun z => spec_Int_Mul.l1 q ((a.length + b.length : Nat) : Int) _ (i : Int) z _ F a G b) (w64_div (Nat.le_trans hs1 (by decide)))
      by_cases hkb : k < b.length
      · refine Ev.step (fun q => ?_) key
        simp only [spec_Int_Mul.l1]
        rw [if_pos (Int.ofNat_lt.2 hkb)]
      · refine Ev.step (fun q => ?_) key
        simp only [spec_Int_Mul.l1]
        rw [if_neg (fun hh => hkb (Int.ofNat_lt.1 hh)), decide_eq_true (show (c : Int) > 0 from Int.natCast_pos.2 (f8 hkb))]
    · obtain ⟨h1, rfl⟩ : b.length ≤ k ∧ c = 0 := by clear h; omega
      exact mul_exit hla hlb F G i hi N next k D h1 hk hl hbD h
theorem mul_loop (ha : Byt a) (hb : Byt b) (hla : a.length ≤ 10000) (hlb : b.length ≤ 10000) (F G : Bool) (hFG : (F != G) = false) : ∀ (d i : Nat) (D : List Int), a.length - i = d → i ≤ a.length → D.length = a.length + b.length + 1 → Byt D → S (lf D) (a.length + b.length + 1) = S (dg a) i * val b →
    ∃ r, Ev (fun k => spec_Int_Mul.l0 k ((a.length + b.length : Nat) : Int) D (i : Int) F a G b) (false, r) ∧ Can r (val a * val b) := by
  intro d
  induction d with
  | zero =>
    intro i D hd hi hl hbD h
    obtain rfl : i = a.length := by clear h; omega
    have hz : lf D (a.length + b.length) = 0 := by
      have h4 : val a * val b < 256 ^ (a.length + b.length) := by
        rw [Nat.pow_add]
        exact Nat.mul_lt_mul_of_lt_of_lt (val_lt ha) (val_lt hb)
      rw [S_succ] at h
      rcases Nat.eq_zero_or_pos (lf D (a.length + b.length)) with h0 | h0
      · exact h0
      · have : 1 * 256 ^ (a.length + b.length) ≤ lf D (a.length + b.length) * 256 ^ (a.length + b.length) := Nat.mul_le_mul_right _ h0
        have h5 : S (dg a) a.length = val a := val_eq (Nat.le_refl _)
        rw [h5] at h
        omega
    rw [S_succ, hz, Nat.zero_mul, Nat.add_zero] at h
    have e0 : S (dg a) a.length = val a := val_eq (Nat.le_refl _)
    obtain ⟨r, h1, h2⟩ := mul_out (n := a.length + b.length) (by omega) hbD hl F G a b hFG _ 0 (List.replicate (a.length + b.length) 0) rfl (Nat.zero_le _) (by simp) (Byt.zeros _) (by rw [S_nil, S_nil])
    rw [h, e0] at h2
    refine ⟨r, Ev.step (fun k => ?_) h1, h2⟩
    simp only [spec_Int_Mul.l0]
    rw [if_neg (by omega), if_pos (by omega), if_pos (by omega), Int.toNat_natCast]
    rfl
  | succ d ih =>
    intro i D hd hi hl hbD h
    obtain ⟨r, h1, h2⟩ := mul_row ha hb hla hlb F G i (by clear h; omega) (val a * val b) (fun D' hl' hb' h' => ih (i + 1) D' (by clear h h'; omega) (by clear h h'; omega) hl' hb' h') _ 0 0 D rfl (by omega) hl hbD (by decide) (by
      rw [h, Nat.zero_mul, Nat.add_zero]
      rw [S_nil, Nat.mul_zero, Nat.zero_mul, Nat.add_zero])
    refine ⟨r, Ev.step (fun k => ?_) h1, h2⟩
    simp only [spec_Int_Mul.l0]
    rw [if_pos (by clear h; omega)]
    rfl
end
theorem mul_ev {a b : List Int} {A B : Nat} (ha : Can a A) (hb : Can b B) (hla : a.length ≤ 10000) (hlb : b.length ≤ 10000) : ∃ r, Ev (fun k => spec_Int_Mul.f k false a false b) (false, r) ∧ Can r (A * B) := by
  obtain ⟨r, h1, h2⟩ := mul_loop ha.byt hb.byt hla hlb false false rfl _ 0 (List.replicate (a.length + b.length + 1) 0) rfl (Nat.zero_le _) (by simp) (Byt.zeros _) (by
    rw [S_zero _ (fun j _ => lf_zeros _ j)]
    rw [S_nil, Nat.zero_mul])
  rw [ha.val, hb.val] at h2
  refine ⟨r, Ev.congr (fun k => ?_) h1, h2⟩
  unfold spec_Int_Mul.f
  have e1 : wrap64 ((a.length : Int) + (b.length : Int)) = ((a.length + b.length : Nat) : Int) := by rw [w64 (by omega) (by omega)]; rfl
  rw [e1, w64_succ (by omega), if_pos (by omega), if_pos (by omega), Int.toNat_natCast]
  rfl
end Go.Proofs.YtdbjoiojiibdgaaGreatDoor
namespace Go.Proofs.YtdbjoiojiibdgaaGreatDoor
open Go.RowKit Go.Proofs.YtdbjoiojiibdgaaGreatDoorW.PrintWords Go.Proofs.YtdbjoiojiibdgaaGreatDoorW.PrintLast Go.Proofs.YtdbjoiojiibdgaaGreatDoorW.PrintMore
open PFixed
theorem u8_shl (e : Nat) (h : e < 8) : shl .u8 1 (e : Int) = ((2 ^ e : Nat) : Int) := by
  match e, h with
  | 0, _ => rfl
  | 1, _ => rfl
  | 2, _ => rfl
  | 3, _ => rfl
  | 4, _ => rfl
  | 5, _ => rfl
  | 6, _ => rfl
  | 7, _ => rfl
theorem tmod8 (s : Nat) : Int.tmod (s : Int) 8 = ((s % 8 : Nat) : Int) := tmod_nat s 8
theorem tdiv8 (s : Nat) : Int.tdiv (s : Int) 8 = ((s / 8 : Nat) : Int) := tdiv_nat s 8
theorem wu64_nat {n : Nat} (h : n ≤ 1000000000) : IntKind.u64.wrap (n : Int) = (n : Int) := wu64 (by omega) (by omega)
theorem val_zeros (n : Nat) : val (List.replicate n 0) = 0 := S_zero _ (fun j _ => dg_zeros n j)
theorem pow_split (n : Nat) : 2 ^ (n % 8) * 256 ^ (n / 8) = 2 ^ n := by
  rw [show (256 : Nat) = 2 ^ 8 from rfl, ← Nat.pow_mul, ← Nat.pow_add]
  congr 1
  omega
theorem pow8_lt (e : Nat) (h : e < 8) : 2 ^ e < 256 := by
  match e, h with
  | 0, _ => decide
  | 1, _ => decide
  | 2, _ => decide
  | 3, _ => decide
  | 4, _ => decide
  | 5, _ => decide
  | 6, _ => decide
  | 7, _ => decide
theorem power_ev (n : Nat) (hn : n ≤ 100000) : ∃ r, Ev (fun k => spec_Power.f k (n : Int)) (false, r) ∧ Can r (2 ^ n) := by
  have hp := pow8_lt (n % 8) (by omega)
  have hb : Byt (((2 ^ (n % 8) : Nat) : Int) :: List.replicate (n / 8) 0) := fun x hx => by
    rcases List.mem_cons.1 hx with rfl | hx
    · exact ⟨Int.natCast_nonneg _, Int.ofNat_lt.2 hp⟩
    · exact Byt.zeros _ x hx
  obtain ⟨r, h1, h2⟩ := of_ev hb (by simp; omega)
  rw [val_cons, val_zeros, List.length_replicate, Int.toNat_natCast, pow_split, Nat.add_zero] at h2
  refine ⟨r, Ev.congr (f := fun k => (spec_Of.f k false (((2 ^ (n % 8) : Nat) : Int) :: List.replicate (n / 8) 0)).bind fun r => some (r.1, r.2)) (fun k => ?_) (Ev.bind h1 (Ev.now (false, r))), h2⟩
  have e1 : wrap64 (wrap64 (Int.tdiv (n : Int) 8) + 1) = ((n / 8 + 1 : Nat) : Int) := by
    rw [tdiv8, w64_nat (by omega)]; exact w64_succ (by omega)
  unfold spec_Power.f
  rw [e1, tmod8, wu64_nat (by omega), if_pos (by omega), if_pos (by omega), Int.toNat_natCast]
  simp only [Option.bind_some]
  rw [if_pos (by omega), if_pos (by simp; omega), u8_shl _ (by omega), List.replicate_succ]
  rfl
theorem bit_f {l : List Int} (hb : Byt l) (hl : l.length ≤ 1000000) (i : Nat) (hi : i ≤ 100000000) : spec_bit.f l (i : Int) = some (((dg l (i / 8) / 2 ^ (i % 8)) % 2 : Nat) : Int) := by
  unfold spec_bit.f
  have hd := dg_lt hb (i / 8)
  have e1 : wrap64 (Int.tdiv (i : Int) 8) = ((i / 8 : Nat) : Int) := by rw [tdiv8]; exact w64_nat (by omega)
  have e2 : IntKind.u64.wrap (Int.tmod (i : Int) 8) = ((i % 8 : Nat) : Int) := by rw [tmod8]; exact wu64_nat (by omega)
  rw [e1, digit_f hb hl (i / 8) (by omega)]
  simp only [Option.bind_some]
  rw [e2, if_pos (by omega)]
  congr 1
  unfold shr
  rw [Int.toNat_natCast, show min (i % 8) IntKind.i64.bits = i % 8 from Nat.min_eq_left (by show i % 8 ≤ 64; omega)]
  rw [show ((dg l (i / 8) : Nat) : Int) / 2 ^ (i % 8) = ((dg l (i / 8) / 2 ^ (i % 8) : Nat) : Int) from by rw [Int.natCast_ediv, Int.natCast_pow]; rfl]
  generalize hx : dg l (i / 8) / 2 ^ (i % 8) = x
  have hx1 : x < 256 := by rw [← hx]; exact Nat.lt_of_le_of_lt (Nat.div_le_self _ _) hd
  exact _root_.Go.Proofs.and_one x (by omega)
theorem S_at {f : Nat → Nat} {j : Nat} : ∀ {n : Nat}, j < n → ∃ R, S f n = S f j + f j * 256 ^ j + R * 256 ^ (j + 1)
  | 0, h => absurd h (by omega)
  | n + 1, h => by
    by_cases e : j = n
    · subst e
      exact ⟨0, by rw [S_succ, Nat.zero_mul, Nat.add_zero]⟩
    · obtain ⟨R, hR⟩ := S_at (f := f) (j := j) (n := n) (by omega)
      refine ⟨R + f n * 256 ^ (n - (j + 1)), ?_⟩
      have e2 : 256 ^ n = 256 ^ (n - (j + 1)) * 256 ^ (j + 1) := by rw [← Nat.pow_add, Nat.sub_add_cancel (by omega)]
      rw [S_succ, hR, Nat.add_mul, e2, Nat.mul_assoc]
      omega
theorem dg_val {l : List Int} (hb : Byt l) (j : Nat) : dg l j = val l / 256 ^ j % 256 := by
  by_cases hj : j < l.length
  · obtain ⟨R, hR⟩ := S_at (f := dg l) (n := l.length) hj
    rw [val_eq (Nat.le_refl _)] at hR
    have h1 : S (dg l) j < 256 ^ j := S_lt (fun i _ => dg_lt hb i)
    have h2 : val l = S (dg l) j + 256 ^ j * (dg l j + 256 * R) := by
      rw [hR, Nat.pow_succ, Nat.mul_add, Nat.mul_comm (256 ^ j) (dg l j), Nat.mul_comm (256 ^ j) (256 * R), Nat.mul_comm (256 ^ j) 256, Nat.mul_comm 256 R, Nat.mul_assoc, Nat.add_assoc]
    rw [h2, Nat.add_mul_div_left _ _ (Nat.pow_pos (by decide)), Nat.div_eq_of_lt h1, Nat.zero_add]
    have := dg_lt hb j
    omega
  · rw [dg_ge (by omega), Nat.div_eq_of_lt]
    have h1 := val_lt hb
    have h2 : 256 ^ l.length ≤ 256 ^ j := Nat.pow_le_pow_right (by decide) (by omega)
    exact Nat.lt_of_lt_of_le h1 h2
theorem bit_val {l : List Int} (hb : Byt l) (i : Nat) : dg l (i / 8) / 2 ^ (i % 8) % 2 = val l / 2 ^ i % 2 := by
  have hp : 2 ^ i = 256 ^ (i / 8) * 2 ^ (i % 8) := by rw [Nat.mul_comm, pow_split]
  rw [dg_val hb, hp, ← Nat.div_div_eq_div_mul]
  generalize val l / 256 ^ (i / 8) = x
  have h : i % 8 < 8 := by omega
  generalize i % 8 = e at h
  match e, h with
  | 0, _ => show x % 256 / 1 % 2 = x / 1 % 2; omega
  | 1, _ => show x % 256 / 2 % 2 = x / 2 % 2; omega
  | 2, _ => show x % 256 / 4 % 2 = x / 4 % 2; omega
  | 3, _ => show x % 256 / 8 % 2 = x / 8 % 2; omega
  | 4, _ => show x % 256 / 16 % 2 = x / 16 % 2; omega
  | 5, _ => show x % 256 / 32 % 2 = x / 32 % 2; omega
  | 6, _ => show x % 256 / 64 % 2 = x / 64 % 2; omega
  | 7, _ => show x % 256 / 128 % 2 = x / 128 % 2; omega
theorem or_all : (List.range 256).all (fun x => (List.range 8).all fun e => x % 2 ^ (e + 1) != 0 || Go.bits .or .u8 (x : Int) ((2 ^ e : Nat) : Int) == ((x + 2 ^ e : Nat) : Int) && decide (x + 2 ^ e < 256)) = true := by decide +kernel
theorem or_add {x e : Nat} (hx : x < 256) (he : e < 8) (h : x % 2 ^ (e + 1) = 0) : Go.bits .or .u8 (x : Int) ((2 ^ e : Nat) : Int) = ((x + 2 ^ e : Nat) : Int) ∧ x + 2 ^ e < 256 := by
  have h1 := List.all_eq_true.1 or_all x (List.mem_range.2 hx)
  have h2 := List.all_eq_true.1 h1 e (List.mem_range.2 he)
  simpa [h] using h2
theorem low_clear {q : List Int} (hb : Byt q) {i m : Nat} (hv : val q = m * 2 ^ (i + 1)) : dg q (i / 8) % 2 ^ (i % 8 + 1) = 0 := by
  have hp : 2 ^ (i + 1) = 256 ^ (i / 8) * 2 ^ (i % 8 + 1) := by
    rw [Nat.pow_succ, ← pow_split i, Nat.pow_succ, Nat.mul_comm (2 ^ (i % 8)), Nat.mul_assoc]
  rw [dg_val hb, hv, hp, ← Nat.mul_assoc, Nat.mul_comm m, Nat.mul_assoc, Nat.mul_div_cancel_left _ (Nat.pow_pos (by decide))]
  have h : i % 8 < 8 := by omega
  generalize i % 8 = e at h
  match e, h with
  | 0, _ => show m * 2 % 256 % 2 = 0; omega
  | 1, _ => show m * 4 % 256 % 4 = 0; omega
  | 2, _ => show m * 8 % 256 % 8 = 0; omega
  | 3, _ => show m * 16 % 256 % 16 = 0; omega
  | 4, _ => show m * 32 % 256 % 32 = 0; omega
  | 5, _ => show m * 64 % 256 % 64 = 0; omega
  | 6, _ => show m * 128 % 256 % 128 = 0; omega
  | 7, _ => show m * 256 % 256 % 256 = 0; omega
theorem val_set {q : List Int} {j : Nat} (hj : j < q.length) (v : Int) : val (q.set (q.length - 1 - j) v) + dg q j * 256 ^ j = val q + v.toNat * 256 ^ j := by
  have h := S_upd (f := dg q) (g := dg (q.set (q.length - 1 - j) v)) (j := j) (m := q.length) hj (fun k hk => by rw [dg_set hj, if_neg hk])
  rw [dg_set hj, if_pos rfl] at h
  rw [val_eq (Nat.le_refl _), val_eq (by simp)] at h
  exact h
end Go.Proofs.YtdbjoiojiibdgaaGreatDoor
namespace Go.Proofs.YtdbjoiojiibdgaaGreatDoor
open Go.RowKit Go.Proofs.YtdbjoiojiibdgaaGreatDoorW.PrintWords Go.Proofs.YtdbjoiojiibdgaaGreatDoorW.PrintLast Go.Proofs.YtdbjoiojiibdgaaGreatDoorW.PrintMore
open PFixed
theorem div_of {X B q r : Nat} (h : X = B * q + r) (hr : r < B) : X / B = q ∧ X % B = r := by
  subst h
  exact ⟨by rw [Nat.mul_add_div (by omega), Nat.div_eq_of_lt hr, Nat.add_zero], by rw [Nat.mul_add_mod, Nat.mod_eq_of_lt hr]⟩
theorem twice {X B : Nat} (_ : 0 < B) : X = B * (2 * (X / 2 / B)) + (2 * (X / 2 % B) + X % 2) := by
  have h1 := Nat.div_add_mod (X / 2) B
  have h2 := Nat.div_add_mod X 2
  rw [Nat.mul_left_comm]
  omega
theorem pred_of {K k : Nat} (h : K + 1 ≤ k) : ∃ m, k = m + 1 := ⟨k - 1, by omega⟩
theorem can_one : Can [1] 1 := ⟨fun x hx => by simp at hx; subst hx; decide, rfl, by decide⟩
theorem cmp_ge {a b : Nat} : cmp a b ≥ 0 ↔ b ≤ a := by
  unfold cmp
  split
  · constructor <;> intro h <;> omega
  · split
    · constructor <;> intro h <;> omega
    · constructor <;> intro h <;> omega
section
variable {a b : List Int} {B : Nat}
theorem split_j (hla : a.length ≤ 10000) (hb : Can b B) (hlb : b.length ≤ 10000) {n : Nat} (hn : n < 8 * a.length) {q : List Int} (hq : q.length = a.length) (hbq : Byt q) {m T : Nat} (hv : val q = m * 2 ^ (n + 1)) {t : List Int} (ht : Can t T) (hT : T < 2 * B) {Q R : Nat}
    (next1 : B ≤ T → ∀ q' l', q'.length = a.length → Byt q' → val q' = (2 * m + 1) * 2 ^ n → Can l' (T - B) → ∃ rq rl, Ev (fun k => spec_split.l0 k a b q' l' ((n : Int) - 1)) (rq, rl) ∧ Can rq Q ∧ Can rl R)
    (next0 : T < B → val q = 2 * m * 2 ^ n → ∃ rq rl, Ev (fun k => spec_split.l0 k a b q t ((n : Int) - 1)) (rq, rl) ∧ Can rq Q ∧ Can rl R) :
    ∃ rq rl, Ev (fun k => spec_split.j1 k a b q t (n : Int)) (rq, rl) ∧ Can rq Q ∧ Can rl R := by
  have hlt : t.length ≤ 1000000 := by
    have h1 : T < 256 ^ (b.length + 1) := by
      have : B < 256 ^ b.length := by rw [← hb.val]; exact val_lt hb.byt
      rw [Nat.pow_succ]; omega
    have := ht.len_le h1
    omega
  have he : n % 8 < 8 := by omega
  have g1 : n / 8 ≤ 1000000000 := by omega
  have g2 : n % 8 ≤ 1000000000 := by omega
  have g3 : n / 8 < a.length := by omega
  have g4 : a.length ≤ 1000000 := by omega
  have f1 : (0 : Int) ≤ ((a.length - 1 - n / 8 : Nat) : Int) := Int.natCast_nonneg _
  have f2 : ((a.length - 1 - n / 8 : Nat) : Int) < (q.length : Int) := Int.ofNat_lt.2 (by rw [hq]; omega)
  have f3 : (0 : Int) ≤ ((n % 8 : Nat) : Int) := Int.natCast_nonneg _
  have ew : wrap64 ((n : Int) - 1) = (n : Int) - 1 := w64 (by omega) (by omega)
  have hge : B ≤ T ∨ T < B := by omega
  obtain ⟨K1, ho⟩ := order_ev ht hb hlt
  dsimp only at ho
  rcases hge with hge | hge
  · obtain ⟨l', ⟨K2, hl1⟩, hl2⟩ := less_ev ht hb hlt hge
    dsimp only at hl1
    have hj : n / 8 < q.length := hq ▸ g3
    obtain ⟨e1, e2⟩ := or_add (dg_lt hbq (n / 8)) he (low_clear hbq hv)
    have hset := val_set hj ((dg q (n / 8) + 2 ^ (n % 8) : Nat) : Int)
    obtain ⟨rq, rl, ⟨K3, h1⟩, h2, h3⟩ := next1 hge (q.set (q.length - 1 - n / 8) ((dg q (n / 8) + 2 ^ (n % 8) : Nat) : Int)) l' (by simp [hq]) (hbq.set _ (Int.natCast_nonneg _) (Int.ofNat_lt.2 e2)) (by
      rw [Int.toNat_natCast, Nat.add_mul, pow_split, hv] at hset
      rw [Nat.add_mul, Nat.one_mul]
      rw [Nat.pow_succ, Nat.mul_comm (2 ^ n) 2, ← Nat.mul_assoc, Nat.mul_comm m 2] at hset
      clear e1 ew ho hl1 next0 next1
      omega) hl2
    refine ⟨rq, rl, ⟨max K1 (max K2 K3) + 1, fun k hk => ?_⟩, h2, h3⟩
    obtain ⟨m, rfl⟩ : ∃ m, k = m + 1 := ⟨k - 1, by clear e1 ew ho hl1 next0 next1 hset; omega⟩
    have i1 : wrap64 (Int.tdiv (n : Int) 8) = ((n / 8 : Nat) : Int) := by rw [tdiv8]; exact w64_nat g1
    have i2 : wrap64 (wrap64 ((a.length : Int) - 1) - ((n / 8 : Nat) : Int)) = ((a.length - 1 - n / 8 : Nat) : Int) := idx g3 g4
    have i3 : IntKind.u64.wrap (Int.tmod (n : Int) 8) = ((n % 8 : Nat) : Int) := by rw [tmod8]; exact wu64_nat g2
    have i4 : rd q ((a.length - 1 - n / 8 : Nat) : Int) = ((dg q (n / 8) : Nat) : Int) := by rw [← hq]; exact rd_dg hbq hj
    simp only [spec_split.j1]
    rw [ho m (Nat.le_trans (Nat.le_max_left _ _) (Nat.le_of_succ_le_succ hk))]
    rw [Option.bind_some]
    rw [if_pos (cmp_ge.2 hge), hl1 m (Nat.le_trans (Nat.le_trans (Nat.le_max_left _ _) (Nat.le_max_right _ _)) (Nat.le_of_succ_le_succ hk))]
    rw [Option.bind_some]
    rw [i1, i2, i3, if_pos f1, if_pos f2, if_pos f3, i4, u8_shl _ he, e1, ew, Int.toNat_natCast, ← hq]
    exact h1 m (Nat.le_trans (Nat.le_trans (Nat.le_max_right _ _) (Nat.le_max_right _ _)) (Nat.le_of_succ_le_succ hk))
  · obtain ⟨rq, rl, ⟨K3, h1⟩, h2, h3⟩ := next0 hge (by rw [hv, Nat.pow_succ, Nat.mul_comm (2 ^ n) 2, ← Nat.mul_assoc, Nat.mul_comm m 2])
    refine ⟨rq, rl, ⟨max K1 K3 + 1, fun k hk => ?_⟩, h2, h3⟩
    obtain ⟨m, rfl⟩ : ∃ m, k = m + 1 := ⟨k - 1, by clear ew ho next0 next1 hv; omega⟩
    simp only [spec_split.j1]
    rw [ho m (Nat.le_trans (Nat.le_max_left _ _) (Nat.le_of_succ_le_succ hk))]
    rw [Option.bind_some]
    rw [if_neg (fun h => absurd (cmp_ge.1 h) (Nat.not_le.2 hge)), ew]
    exact h1 m (Nat.le_trans (Nat.le_max_right _ _) (Nat.le_of_succ_le_succ hk))
theorem split_loop (ha : Byt a) (hla : a.length ≤ 10000) (hb : Can b B) (hB : 0 < B) (hlb : b.length ≤ 10000) : ∀ n : Nat, n ≤ 8 * a.length → ∀ (q l : List Int), q.length = a.length → Byt q → val q = val a / 2 ^ n / B * 2 ^ n → Can l (val a / 2 ^ n % B) →
    ∃ rq rl, Ev (fun k => spec_split.l0 k a b q l ((n : Int) - 1)) (rq, rl) ∧ Can rq (val a / B) ∧ Can rl (val a % B) := by
  intro n
  induction n with
  | zero =>
    intro _ q l hq hbq hv hl
    rw [Nat.pow_zero, Nat.div_one] at hv hl
    rw [Nat.mul_one] at hv
    obtain ⟨rq, ⟨K, h1⟩, h2, _⟩ := cut_ev hbq (by omega)
    dsimp only at h1
    rw [hv] at h2
    refine ⟨rq, l, ⟨K + 1, fun k hk => ?_⟩, h2, hl⟩
    obtain ⟨m, rfl⟩ : ∃ m, k = m + 1 := ⟨k - 1, by omega⟩
    simp only [spec_split.l0]
    rw [if_neg (by decide), h1 m (by omega)]
    rfl
  | succ n ih =>
    intro hn q l hq hbq hv hl
    have hn' : n < 8 * a.length := by omega
    have hX : val a / 2 ^ (n + 1) = val a / 2 ^ n / 2 := by rw [Nat.pow_succ, Nat.div_div_eq_div_mul]
    rw [hX] at hv hl
    generalize hXe : val a / 2 ^ n = X at hv hl ih
    have h2 := twice (X := X) hB
    have hr : X / 2 % B < B := Nat.mod_lt _ hB
    have hll : l.length ≤ b.length := hl.len_le (Nat.lt_of_lt_of_le hr (by rw [← hb.val]; exact Nat.le_of_lt (val_lt hb.byt)))
    have hb1 : X % 2 < 2 := Nat.mod_lt _ (by decide)
    generalize hqe : X / 2 / B = m at h2 hv
    generalize hre : X / 2 % B = R at h2 hr hl
    have hex : ((n + 1 : Nat) : Int) - 1 = (n : Int) := by omega
    have hge0 : ((n : Int)) ≥ 0 := by omega
    have hbit : spec_bit.f a (n : Int) = some ((X % 2 : Nat) : Int) := by
      rw [bit_f ha (by omega) n (by omega), bit_val ha, hXe]
    obtain ⟨t1, ⟨K1, ht1⟩, ht2⟩ := sum_ev hl.byt hl.byt (by omega) (by omega)
    rw [hl.val] at ht2
    dsimp only at ht1
    have fin : ∀ t, Can t (2 * R + X % 2) → ∃ rq rl, Ev (fun k => spec_split.j1 k a b q t (n : Int)) (rq, rl) ∧ Can rq (val a / B) ∧ Can rl (val a % B) := fun t ht =>
      split_j hla hb hlb hn' hq hbq hv ht (by omega) (fun hge q' l' hq' hbq' hv' hl' => by
        obtain ⟨d1, d2⟩ := div_of (X := X) (B := B) (q := 2 * m + 1) (r := 2 * R + X % 2 - B) (by rw [Nat.mul_add, Nat.mul_one]; omega) (by omega)
        exact ih (by omega) q' l' hq' hbq' (by rw [d1]; exact hv') (by rw [d2]; exact hl'))
      (fun hlt hv' => by
        obtain ⟨d1, d2⟩ := div_of (X := X) (B := B) (q := 2 * m) (r := 2 * R + X % 2) h2 hlt
        exact ih (by omega) q t hq hbq (by rw [d1]; exact hv') (by rw [d2]; exact ht))
    have hcase : X % 2 = 1 ∨ X % 2 = 0 := by omega
    rcases hcase with hc | hc
    · have l1 : t1.length ≤ 100000 := by
        have h3 : R + R < 256 ^ (b.length + 1) := by
          have : B < 256 ^ b.length := by rw [← hb.val]; exact val_lt hb.byt
          rw [Nat.pow_succ]; omega
        have := ht2.len_le h3
        omega
      obtain ⟨t2, ⟨K2, hs1⟩, hs2⟩ := sum_ev ht2.byt can_one.byt l1 (by decide)
      rw [ht2.val, can_one.val] at hs2
      dsimp only at hs1
      obtain ⟨rq, rl, ⟨K3, h3⟩, h4, h5⟩ := fin t2 (by rw [hc]; rw [show 2 * R + 1 = R + R + 1 from by omega]; exact hs2)
      refine ⟨rq, rl, ⟨max K1 (max K2 K3) + 1, fun k hk => ?_⟩, h4, h5⟩
      obtain ⟨k', rfl⟩ : ∃ m, k = m + 1 := pred_of hk
      rw [hex]
      simp only [spec_split.l0]
      rw [if_pos hge0, ht1 k' (Nat.le_trans (Nat.le_max_left _ _) (Nat.le_of_succ_le_succ hk))]
      rw [Option.bind_some]
      rw [hbit]
      rw [Option.bind_some]
      rw [hc, if_pos (by decide), hs1 k' (Nat.le_trans (Nat.le_trans (Nat.le_max_left _ _) (Nat.le_max_right _ _)) (Nat.le_of_succ_le_succ hk))]
      rw [Option.bind_some]
      exact h3 k' (Nat.le_trans (Nat.le_trans (Nat.le_max_right _ _) (Nat.le_max_right _ _)) (Nat.le_of_succ_le_succ hk))
    · obtain ⟨rq, rl, ⟨K3, h3⟩, h4, h5⟩ := fin t1 (by rw [hc]; rw [show 2 * R + 0 = R + R from by omega]; exact ht2)
      refine ⟨rq, rl, ⟨max K1 K3 + 1, fun k hk => ?_⟩, h4, h5⟩
      obtain ⟨k', rfl⟩ : ∃ m, k = m + 1 := pred_of hk
      rw [hex]
      simp only [spec_split.l0]
      rw [if_pos hge0, ht1 k' (Nat.le_trans (Nat.le_max_left _ _) (Nat.le_of_succ_le_succ hk))]
      rw [Option.bind_some]
      rw [hbit]
      rw [Option.bind_some]
      rw [hc, if_neg (by decide)]
      exact h3 k' (Nat.le_trans (Nat.le_max_right _ _) (Nat.le_of_succ_le_succ hk))
end
theorem split_ev {a b : List Int} {A B : Nat} (ha : Can a A) (hb : Can b B) (hB : 0 < B) (hla : a.length ≤ 10000) (hlb : b.length ≤ 10000) : ∃ rq rl, Ev (fun k => spec_split.f k a b) (rq, rl) ∧ Can rq (A / B) ∧ Can rl (A % B) := by
  have hv : val a / 2 ^ (8 * a.length) = 0 := by
    have := val_lt ha.byt
    rw [show (256 : Nat) = 2 ^ 8 from rfl, ← Nat.pow_mul] at this
    exact Nat.div_eq_of_lt this
  obtain ⟨rq, rl, h1, h2, h3⟩ := split_loop ha.byt hla hb hB hlb (8 * a.length) (Nat.le_refl _) (List.replicate a.length 0) [] (by simp) (Byt.zeros _) (by rw [hv, Nat.zero_div, Nat.zero_mul, val_zeros]) (by rw [hv, Nat.zero_mod]; exact Can.nil)
  rw [ha.val] at h2 h3
  refine ⟨rq, rl, Ev.congr (fun k => ?_) h1, h2, h3⟩
  unfold spec_split.f
  have e1 : wrap64 (8 * (a.length : Int)) = 8 * (a.length : Int) := w64 (by omega) (by omega)
  have e2 : wrap64 (8 * (a.length : Int) - 1) = ((8 * a.length : Nat) : Int) - 1 := by rw [w64 (by omega) (by omega)]; omega
  rw [e1, e2, if_pos (by omega), if_pos (by omega)]
  rfl
end Go.Proofs.YtdbjoiojiibdgaaGreatDoor
namespace Go.Proofs.YtdbjoiojiibdgaaGreatDoor
open Go.RowKit Go.Proofs.YtdbjoiojiibdgaaGreatDoorW.PrintWords Go.Proofs.YtdbjoiojiibdgaaGreatDoorW.PrintLast Go.Proofs.YtdbjoiojiibdgaaGreatDoorW.PrintMore
open PFixed
theorem of_can {l : List Int} {N : Nat} (h : Can l N) (hl : l.length ≤ 1000000) : ∃ r, Ev (fun k => spec_Of.f k false l) (false, r) ∧ Can r N := by
  obtain ⟨r, h1, h2⟩ := of_ev h.byt hl
  rw [h.val] at h2
  exact ⟨r, h1, h2⟩
theorem floor_ev {a b : List Int} {A B : Nat} (ha : Can a A) (hb : Can b B) (hB : 0 < B) (hla : a.length ≤ 10000) (hlb : b.length ≤ 10000) : ∃ rq rl, Ev (fun k => spec_Int_Floor.f k false a false b) (false, rq, false, rl) ∧ Can rq (A / B) ∧ Can rl (A % B) := by
  obtain ⟨q, l, ⟨K1, h1⟩, h2, h3⟩ := split_ev ha hb hB hla hlb
  have b1 : A < 256 ^ a.length := by rw [← ha.val]; exact val_lt ha.byt
  have b2 : B < 256 ^ b.length := by rw [← hb.val]; exact val_lt hb.byt
  have l1 := h2.len_le (Nat.lt_of_le_of_lt (Nat.div_le_self _ _) b1)
  have l2 := h3.len_le (Nat.lt_trans (Nat.mod_lt _ hB) b2)
  obtain ⟨q', ⟨K2, h4⟩, h5⟩ := of_can h2 (by omega)
  obtain ⟨l', ⟨K3, h6⟩, h7⟩ := of_can h3 (by omega)
  refine ⟨q', l', ⟨max K1 (max K2 K3), fun k hk => ?_⟩, h5, h7⟩
  dsimp only at h1 h4 h6
  show spec_Int_Floor.f k false a false b = _
  unfold spec_Int_Floor.f
  rw [h1 k (by omega), Option.bind_some, if_pos (show (false == false) = true from rfl)]
  dsimp only
  rw [h4 k (by omega), Option.bind_some, h6 k (by omega), Option.bind_some]
theorem add_ev {a b : List Int} {A B : Nat} (ha : Can a A) (hb : Can b B) (hla : a.length ≤ 20000) (hlb : b.length ≤ 20000) : ∃ r, Ev (fun k => spec_Int_Add.f k false a false b) (false, r) ∧ Can r (A + B) := by
  obtain ⟨s, ⟨K1, h1⟩, h2⟩ := sum_ev ha.byt hb.byt (by omega) (by omega)
  rw [ha.val, hb.val] at h2
  have b1 : A < 256 ^ max a.length b.length := Nat.lt_of_lt_of_le (by rw [← ha.val]; exact val_lt ha.byt) (Nat.pow_le_pow_right (by decide) (Nat.le_max_left _ _))
  have b2 : B < 256 ^ max a.length b.length := Nat.lt_of_lt_of_le (by rw [← hb.val]; exact val_lt hb.byt) (Nat.pow_le_pow_right (by decide) (Nat.le_max_right _ _))
  have l1 : s.length ≤ max a.length b.length + 1 := h2.len_le (by rw [Nat.pow_succ]; generalize 256 ^ max a.length b.length = p at b1 b2; omega)
  obtain ⟨r, ⟨K2, h3⟩, h4⟩ := of_can h2 (by omega)
  refine ⟨r, ⟨max K1 K2, fun k hk => ?_⟩, h4⟩
  dsimp only at h1 h3
  show spec_Int_Add.f k false a false b = _
  unfold spec_Int_Add.f
  rw [if_pos (show (false == false) = true from rfl), h1 k (by omega), Option.bind_some, h3 k (by omega), Option.bind_some]
theorem sign_f {a : List Int} {A : Nat} (ha : Can a A) : spec_Int_Sign.f false a = some (if A = 0 then 0 else 1) := by
  have h := ha.zero_iff
  unfold spec_Int_Sign.f spec_Int_Zero.f
  rw [Option.bind_some]
  by_cases h0 : A = 0
  · rw [if_pos h0, if_pos (by simp; exact List.eq_nil_of_length_eq_zero (h.2 h0))]
  · rw [if_neg h0, if_neg (fun e => h0 (h.1 (by simpa using e))), if_neg (by decide)]
theorem cmp_ev {a b : List Int} {A B : Nat} (ha : Can a A) (hb : Can b B) (hla : a.length ≤ 1000000) : Ev (fun k => spec_Int_Cmp.f k false a false b) (cmp A B) := by
  obtain ⟨K, h⟩ := order_ev ha hb hla
  refine ⟨K, fun k hk => ?_⟩
  dsimp only at h
  show spec_Int_Cmp.f k false a false b = _
  unfold spec_Int_Cmp.f
  rw [sign_f ha, sign_f hb, Option.bind_some, Option.bind_some, Option.bind_some, Option.bind_some]
  by_cases e : (if A = 0 then (0 : Int) else 1) = if B = 0 then 0 else 1
  · rw [if_pos e, if_neg (by decide), h k hk, Option.bind_some]
  · rw [if_neg e]
    unfold cmp
    by_cases hA : A = 0 <;> by_cases hB : B = 0
    · exact absurd (by rw [if_pos hA, if_pos hB]) e
    · rw [if_pos hA, if_neg hB, if_pos (by decide), if_pos (by omega)]
    · rw [if_neg hA, if_pos hB, if_neg (by decide), if_neg (by omega), if_neg (by omega)]
    · exact absurd (by rw [if_neg hA, if_neg hB]) e
theorem or_step (u d : Nat) (hd : d < 256) : ∃ v : Nat, v < 18446744073709551616 ∧ v % 2 = d % 2 ∧ Go.bits .or .u64 (IntKind.u64.wrap ((u : Int) * 256)) ((d : Nat) : Int) = ((v : Nat) : Int) := by
  have hx : u * 256 % 18446744073709551616 < 18446744073709551616 := Nat.mod_lt _ (by decide)
  refine ⟨u * 256 % 18446744073709551616 ||| d, Nat.or_lt_two_pow (n := 64) hx (by omega), ?_, ?_⟩
  · have h := Nat.or_mod_two_pow (a := u * 256 % 18446744073709551616) (b := d) (n := 1)
    rw [Nat.pow_one] at h
    rw [h, show u * 256 % 18446744073709551616 % 2 = 0 from by omega, Nat.zero_or]
  · rw [IntKind.wrap_u64, show (u : Int) * 256 % 18446744073709551616 = ((u * 256 % 18446744073709551616 : Nat) : Int) from by omega]
    exact bits_or_u64_nat _ _ hx (by omega)
theorem low_loop {l : List Int} (hb : Byt l) (hl : l.length ≤ 1000000) (F : Bool) : ∀ n : Nat, n ≤ 8 → ∀ u : Nat, u < 18446744073709551616 →
    ∃ v : Nat, v < 18446744073709551616 ∧ Ev (fun k => spec_Int_low.l0 k (u : Int) ((n : Int) - 1) F l) ((v : Nat) : Int) ∧ (0 < n → v % 2 = dg l 0 % 2) ∧ (n = 0 → v = u)
  | 0, _, u, hu => by
    refine ⟨u, hu, ⟨1, fun k hk => ?_⟩, fun h => absurd h (by decide), fun _ => rfl⟩
    obtain ⟨m, rfl⟩ := pred_of (K := 0) hk
    simp only [spec_Int_low.l0]
    rw [if_neg (by decide)]
  | n + 1, hn, u, hu => by
    obtain ⟨w, hw, hw2, hw3⟩ := or_step u (dg l n) (dg_lt hb n)
    obtain ⟨v, hv, ⟨K, h1⟩, h2, h3⟩ := low_loop hb hl F n (by omega) w hw
    have hd := dg_lt hb n
    have e1 : IntKind.u64.wrap ((dg l n : Nat) : Int) = ((dg l n : Nat) : Int) := wu64_nat (by omega)
    have e2 : wrap64 ((n : Int) - 1) = (n : Int) - 1 := w64 (by omega) (by omega)
    have e3 : ((n + 1 : Nat) : Int) - 1 = (n : Int) := by omega
    have e4 : (n : Int) ≥ 0 := Int.natCast_nonneg _
    refine ⟨v, hv, ⟨K + 1, fun k hk => ?_⟩, fun _ => ?_, fun h => by cases h⟩
    · obtain ⟨m, rfl⟩ := pred_of hk
      show spec_Int_low.l0 (m + 1) (u : Int) (((n + 1 : Nat) : Int) - 1) F l = _
      rw [e3]
      simp only [spec_Int_low.l0]
      rw [if_pos e4, digit_f hb hl n (by omega), Option.bind_some, e1, hw3, e2]
      exact h1 m (Nat.le_of_succ_le_succ hk)
    · by_cases h0 : n = 0
      · subst h0
        rw [h3 rfl, hw2]
      · exact h2 (by omega)
theorem low_ev {l : List Int} {N : Nat} (h : Can l N) (hl : l.length ≤ 1000000) : ∃ v : Nat, v < 18446744073709551616 ∧ v % 2 = N % 2 ∧ Ev (fun k => spec_Int_low.f k false l) ((v : Nat) : Int) := by
  obtain ⟨v, h1, h2, h3, _⟩ := low_loop h.byt hl false 8 (by decide) 0 (by decide)
  refine ⟨v, h1, ?_, h2⟩
  rw [h3 (by decide), dg_val h.byt, h.val, Nat.pow_zero, Nat.div_one]
  omega
def rne (A B : Nat) : Nat := A / B + if 2 * (A % B) > B ∨ (2 * (A % B) = B ∧ A / B % 2 = 1) then 1 else 0
theorem small_one : ∀ k, 20 ≤ k → spec_Small.f k 1 = some (false, [1]) := by
  intro k hk
  exact at_rounds (fun k => spec_Small.mono 1 k) hk (by kernel_rfl)
theorem near_j {q : List Int} {Q : Nat} (hq : Can q Q) (hl : q.length ≤ 20000) (t : Bool) : ∃ r, Ev (fun k => spec_near.j0 k t false q) (false, r) ∧ Can r (Q + if t = true then 1 else 0) := by
  cases t with
  | false =>
    refine ⟨q, ⟨1, fun k hk => ?_⟩, hq⟩
    obtain ⟨m, rfl⟩ := pred_of (K := 0) hk
    simp only [spec_near.j0]
    rw [if_neg (fun h => by cases h)]
  | true =>
    obtain ⟨r, ⟨K, h1⟩, h2⟩ := add_ev hq can_one hl (by decide)
    refine ⟨r, ⟨max K 20 + 1, fun k hk => ?_⟩, h2⟩
    obtain ⟨m, rfl⟩ := pred_of hk
    dsimp only at h1
    simp only [spec_near.j0]
    rw [if_pos trivial, small_one m (by omega), Option.bind_some, h1 m (by omega), Option.bind_some]
theorem near_ev {a b : List Int} {A B : Nat} (ha : Can a A) (hb : Can b B) (hB : 0 < B) (hla : a.length ≤ 10000) (hlb : b.length ≤ 10000) : ∃ r, Ev (fun k => spec_near.f k false a false b) (false, r) ∧ Can r (rne A B) := by
  obtain ⟨q, l, ⟨K1, h1⟩, h2, h3⟩ := floor_ev ha hb hB hla hlb
  have b1 : A < 256 ^ a.length := by rw [← ha.val]; exact val_lt ha.byt
  have b2 : B < 256 ^ b.length := by rw [← hb.val]; exact val_lt hb.byt
  have l1 := h2.len_le (Nat.lt_of_le_of_lt (Nat.div_le_self _ _) b1)
  have l2 := h3.len_le (Nat.lt_trans (Nat.mod_lt _ hB) b2)
  obtain ⟨s, ⟨K2, h4⟩, h5⟩ := add_ev h3 h3 (by omega) (by omega)
  have l3 : s.length ≤ b.length + 1 := h5.len_le (by
    rw [Nat.pow_succ]
    have := Nat.mod_lt A hB
    generalize 256 ^ b.length = p at b2
    omega)
  obtain ⟨K3, h6⟩ := cmp_ev h5 hb (by omega)
  obtain ⟨v, hv0, hv1, ⟨K4, h7⟩⟩ := low_ev h2 (by omega)
  have ev : (Go.bits .and .u64 ((v : Nat) : Int) 1 == 1) = (A / B % 2 == 1) := by
    rw [_root_.Go.and_one_u64 _ (by omega) (by omega)]
    have : ((v : Nat) : Int) % 2 = ((A / B % 2 : Nat) : Int) := by omega
    rw [this]
    rcases Nat.mod_two_eq_zero_or_one (A / B) with h | h <;> rw [h] <;> rfl
  dsimp only at h1 h4 h6 h7
  have h2B : A % B + A % B = 2 * (A % B) := by omega
  rw [h2B] at h6
  generalize hR : 2 * (A % B) = R at h6
  rcases Nat.lt_trichotomy R B with hlt | heq | hgt
  · have hc : cmp R B = -1 := if_pos hlt
    obtain ⟨r, ⟨K5, h8⟩, h9⟩ := near_j h2 (by omega) false
    refine ⟨r, ⟨max (max K1 K2) (max K3 K5), fun k hk => ?_⟩, ?_⟩
    · show spec_near.f k false a false b = _
      unfold spec_near.f
      rw [h1 k (by omega), Option.bind_some, h4 k (by omega), Option.bind_some, h6 k (by omega), Option.bind_some, hc, if_neg (by decide), if_neg (by decide)]
      exact h8 k (by omega)
    · unfold rne
      rw [hR, if_neg (by omega)]
      exact h9
  · have hc : cmp R B = 0 := by unfold cmp; rw [if_neg (by omega), if_pos heq]
    obtain ⟨r, ⟨K5, h8⟩, h9⟩ := near_j h2 (by omega) (A / B % 2 == 1)
    refine ⟨r, ⟨max (max K1 K2) (max (max K3 K4) K5), fun k hk => ?_⟩, ?_⟩
    · show spec_near.f k false a false b = _
      unfold spec_near.f
      rw [h1 k (by omega), Option.bind_some, h4 k (by omega), Option.bind_some, h6 k (by omega), Option.bind_some, hc, if_neg (by decide), if_pos rfl, h7 k (by omega), Option.bind_some, ev]
      exact h8 k (by omega)
    · unfold rne
      rw [hR]
      rcases Nat.mod_two_eq_zero_or_one (A / B) with h | h
      · rw [h] at h9 ⊢
        rw [if_neg (by omega)]
        exact h9
      · rw [h] at h9 ⊢
        rw [if_pos (by omega)]
        exact h9
  · have hc : cmp R B = 1 := by unfold cmp; rw [if_neg (by omega), if_neg (by omega)]
    obtain ⟨r, ⟨K5, h8⟩, h9⟩ := near_j h2 (by omega) true
    refine ⟨r, ⟨max (max K1 K2) (max K3 K5), fun k hk => ?_⟩, ?_⟩
    · show spec_near.f k false a false b = _
      unfold spec_near.f
      rw [h1 k (by omega), Option.bind_some, h4 k (by omega), Option.bind_some, h6 k (by omega), Option.bind_some, hc, if_pos (by decide)]
      exact h8 k (by omega)
    · unfold rne
      rw [hR, if_pos (by omega)]
      exact h9
end Go.Proofs.YtdbjoiojiibdgaaGreatDoor
namespace Go.Proofs.YtdbjoiojiibdgaaGreatDoor
open Go.RowKit Go.Proofs.YtdbjoiojiibdgaaGreatDoorW.PrintWords Go.Proofs.YtdbjoiojiibdgaaGreatDoorW.PrintLast Go.Proofs.YtdbjoiojiibdgaaGreatDoorW.PrintMore
open PFixed
theorem val_snoc (x : Int) : ∀ l : List Int, val (l ++ [x]) = val l * 256 + x.toNat
  | [] => by rw [List.nil_append, val_cons, val_nil]; simp
  | y :: l => by
    rw [List.cons_append, val_cons, val_cons, val_snoc x l, List.length_append, List.length_singleton, Nat.pow_succ, Nat.add_mul, ← Nat.mul_assoc, Nat.add_assoc]
theorem take_set {l : List Int} {i : Nat} (hi : i < l.length) (v : Int) : (l.set i v).take (i + 1) = l.take i ++ [v] := by
  rw [List.take_succ_eq_append_getElem (by simpa using hi), List.take_set_of_le (by omega)]
  simp
theorem drop_set {l : List Int} {i : Nat} (v : Int) : (l.set i v).drop (i + 1) = l.drop (i + 1) := List.drop_set_of_lt (by omega)
def dle (N : Nat) : List Int := if h : N = 0 then [] else ((48 + N % 10 : Nat) : Int) :: dle (N / 10)
termination_by N
decreasing_by omega
theorem tdiv10 (s : Nat) : Int.tdiv (s : Int) 10 = ((s / 10 : Nat) : Int) := tdiv_nat s 10
theorem tmod10 (s : Nat) : Int.tmod (s : Int) 10 = ((s % 10 : Nat) : Int) := tmod_nat s 10
theorem dig_bt (d : Nat) (h : d < 10) : bt (⟨#[48, 49, 50, 51, 52, 53, 54, 55, 56, 57, 97, 98, 99, 100, 101, 102, 103, 104, 105, 106, 107, 108, 109, 110, 111, 112, 113, 114, 115, 116, 117, 118, 119, 120, 121, 122]⟩ : ByteArray) (d : Int) = ((48 + d : Nat) : Int) := by
  match d, h with
  | 0, _ => rfl
  | 1, _ => rfl
  | 2, _ => rfl
  | 3, _ => rfl
  | 4, _ => rfl
  | 5, _ => rfl
  | 6, _ => rfl
  | 7, _ => rfl
  | 8, _ => rfl
  | 9, _ => rfl
theorem base_step {V left x s p q r N : Nat} (hs : s = left * 256 + x) (hq : q = p * 256) (h : (V * 10 + left) * q + (x * p + r) = N) : ((V * 256 + s / 10) * 10 + s % 10) * p + r = N := by
  have e : (V * 256 + s / 10) * 10 + s % 10 = (V * 10 + left) * 256 + x := by omega
  have e2 : (V * 10 + left) * 256 * p = (V * 10 + left) * q := by rw [hq, Nat.mul_assoc, Nat.mul_comm 256 p]
  rw [e, Nat.add_mul, e2]
  omega
theorem w64_mul256 {n : Nat} (h : n ≤ 1000) : wrap64 ((n : Int) * 256) = ((n * 256 : Nat) : Int) := by rw [w64 (by omega) (by omega)]; omega
theorem div10_mod (s : Nat) (h : s / 10 < 256) : ((s / 10 : Nat) : Int) % 256 = ((s / 10 : Nat) : Int) := by omega
section
variable {N : Nat} {res : ByteArray}
theorem base_row (x5 : List Int) (h5 : x5.length ≤ 100000) (F : Bool) (y : List Int) (L : Nat) (hL : L ≤ 10000)
    (next : ∀ m, Can m (N / 10) → m.length ≤ L → Ev (fun k => spec_Int_Base.l0 k 10 (x5 ++ [((48 + N % 10 : Nat) : Int)]) m F y) res) :
    ∀ (d i : Nat) (m : List Int) (left : Nat), L - i = d → i ≤ L → m.length = L → Byt m → left < 10 → (val (m.take i) * 10 + left) * 256 ^ (L - i) + val (m.drop i) = N →
      Ev (fun k => spec_Int_Base.l1 k 10 x5 m (left : Int) (i : Int) F y) res
  | 0, i, m, left, hd, hi, hm, hb, hl, h => by
    obtain rfl : i = L := by omega
    rw [List.take_of_length_le (by omega), List.drop_eq_nil_of_le (by omega), Nat.sub_self, Nat.pow_zero, Nat.mul_one, val_nil, Nat.add_zero] at h
    obtain ⟨r, ⟨K, h1⟩, h2, h3⟩ := cut_ev hb (by omega)
    have e1 : N / 10 = val m := by omega
    have e2 : N % 10 = left := by omega
    rw [e1] at next
    obtain ⟨K2, h4⟩ := next r h2 (by omega)
    refine ⟨max K K2 + 1, fun k hk => ?_⟩
    obtain ⟨k', rfl⟩ := pred_of hk
    dsimp only at h1 h4
    simp only [spec_Int_Base.l1]
    rw [if_neg (by omega), h1 k' (by omega), Option.bind_some, if_pos (by omega), if_pos (by omega), if_pos (by omega), dig_bt left hl, ← e2]
    exact h4 k' (by omega)
  | d + 1, i, m, left, hd, hi, hm, hb, hl, h => by
    have hlt : i < m.length := by omega
    have hx := hb.getD i
    obtain ⟨x, hxe⟩ : ∃ x : Nat, m.getD i 0 = (x : Int) := ⟨(m.getD i 0).toNat, by omega⟩
    rw [hxe] at hx
    have hx1 : x < 256 := by omega
    obtain ⟨s, hs⟩ : ∃ s, s = left * 256 + x := ⟨_, rfl⟩
    have hs1 : s < 2560 := by omega
    have hrd : rd m (i : Int) = (x : Int) := hxe
    have f1 : (i : Int) < (m.length : Int) := Int.ofNat_lt.2 hlt
    have f2 : (0 : Int) ≤ (i : Int) := Int.natCast_nonneg _
    have f3 : i ≤ 100000000 := by omega
    have f4 : s / 10 < 256 := by omega
    have f5 : s % 10 < 10 := by omega
    have f6 : s / 10 ≤ 1000000000 := by omega
    have f7 : L - i = (L - (i + 1)) + 1 := by omega
    have f8 : left ≤ 1000 := by omega
    have f9 : s ≤ 1000000000 := by omega
    have fa : x ≤ 1000000000 := by omega
    have fb : L - (i + 1) = d := by omega
    have fc : i + 1 ≤ L := by omega
    clear hd hi hx
    obtain ⟨K, h1⟩ := base_row x5 h5 F y L hL next d (i + 1) (m.set i ((s / 10 : Nat) : Int)) (s % 10) fb fc (by simp [hm]) (hb.set _ (Int.natCast_nonneg _) (Int.ofNat_lt.2 f4)) f5 (by
      rw [take_set hlt, drop_set, val_snoc, Int.toNat_natCast]
      rw [List.drop_eq_getElem_cons hlt, val_cons, List.length_drop, hm] at h
      rw [show m[i] = (x : Int) from by rw [← hxe]; simp [List.getD, hlt], Int.toNat_natCast] at h
      exact base_step (q := 256 ^ (L - i)) hs (by rw [show L - i = (L - (i + 1)) + 1 from f7, Nat.pow_succ]) h)
    refine ⟨K + 1, fun k hk => ?_⟩
    obtain ⟨k', rfl⟩ := pred_of hk
    dsimp only at h1
    have i1 : wrap64 ((left : Int) * 256) = ((left * 256 : Nat) : Int) := w64_mul256 f8
    have i2 : wrap64 (x : Int) = (x : Int) := w64_nat fa
    have i3 : wrap64 (((left * 256 : Nat) : Int) + (x : Int)) = (s : Int) := by rw [← Int.natCast_add, ← hs]; exact w64_nat f9
    have i4 : ((s / 10 : Nat) : Int) % 256 = ((s / 10 : Nat) : Int) := div10_mod s f4
    simp only [spec_Int_Base.l1]
    rw [if_pos f1, if_pos f2, if_neg (by decide), hrd, i1, i2, i3, tdiv10, tmod10, w64_nat f6, i4, w64_succ f3, Int.toNat_natCast]
    exact h1 k' (Nat.le_of_succ_le_succ hk)
theorem base_loop (F : Bool) (y : List Int) (hF : F = false) : ∀ (N : Nat) (x5 m : List Int), x5.length + (dle N).length ≤ 100000 → Can m N → m.length ≤ 10000 →
    Ev (fun k => spec_Int_Base.j2 k (x5 ++ dle N)) res → Ev (fun k => spec_Int_Base.l0 k 10 x5 m F y) res := by
  intro N
  induction N using Nat.strongRecOn with
  | _ N ih =>
    intro x5 m h5 hm hl h
    by_cases h0 : N = 0
    · obtain ⟨K, h1⟩ := h
      refine ⟨K + 1, fun k hk => ?_⟩
      obtain ⟨k', rfl⟩ := pred_of hk
      have hm0 := hm.zero_iff.2 h0
      have e : dle N = [] := by rw [dle, dif_pos h0]
      rw [e, List.append_nil] at h1
      dsimp only at h1
      simp only [spec_Int_Base.l0]
      rw [if_neg (by omega), if_neg (by rw [hF]; decide)]
      exact h1 k' (Nat.le_of_succ_le_succ hk)
    · have e : dle N = ((48 + N % 10 : Nat) : Int) :: dle (N / 10) := by rw [dle, dif_neg h0]
      rw [e, List.length_cons] at h5
      have hm0 : 0 < m.length := by
        rcases Nat.eq_zero_or_pos m.length with hz | hz
        · exact absurd (hm.zero_iff.1 hz) h0
        · exact hz
      obtain ⟨K, h1⟩ := base_row (N := N) (res := res) x5 (by omega) F y m.length hl (fun m' hm' hl' => ih (N / 10) (by omega) _ m' (by simp; omega) hm' (by omega) (by
        rw [e] at h
        rw [List.append_assoc]
        exact h)) _ 0 m 0 rfl (Nat.zero_le _) rfl hm.byt (by decide) (by rw [List.take_zero, val_nil, List.drop_zero, hm.val]; simp)
      refine ⟨K + 1, fun k hk => ?_⟩
      obtain ⟨k', rfl⟩ := pred_of hk
      dsimp only at h1
      simp only [spec_Int_Base.l0]
      rw [if_pos (by omega)]
      exact h1 k' (Nat.le_of_succ_le_succ hk)
end
def turned (o : List Int) (i : Nat) (y : List Int) : Prop := y.length = o.length ∧ ∀ j, j < o.length → y.getD j 0 = if j < i ∨ o.length - 1 - i < j then o.getD (o.length - 1 - j) 0 else o.getD j 0
theorem getD_set (l : List Int) (i j : Nat) (v : Int) (hi : i < l.length) : (l.set i v).getD j 0 = if j = i then v else l.getD j 0 := by
  by_cases e : j = i
  · subst e
    rw [if_pos rfl, List.getD, List.getElem?_set_self hi]
    rfl
  · rw [if_neg e, List.getD, List.getD, List.getElem?_set_ne (by omega)]
theorem turn_loop (o : List Int) (ho : o.length ≤ 100000) (h0 : 0 < o.length) : ∀ (d i : Nat) (y : List Int), o.length - 2 * i = d → 2 * i ≤ o.length + 1 → turned o i y → Ev (fun k => spec_Int_Base.l2 k y (i : Int) ((o.length : Int) - 1 - (i : Int))) (strOfNums o.reverse) := by
  intro d
  induction d using Nat.strongRecOn with
  | _ d ih =>
    intro i y hd hi hy
    obtain ⟨hl, hy⟩ := hy
    by_cases hlt : i + 1 < o.length - i
    · have a1 : (i : Int) < ((o.length - 1 - i : Nat) : Int) := Int.ofNat_lt.2 (by omega)
      have a2 : (0 : Int) ≤ ((o.length - 1 - i : Nat) : Int) := Int.natCast_nonneg _
      have a3 : ((o.length - 1 - i : Nat) : Int) < (y.length : Int) := Int.ofNat_lt.2 (by omega)
      have a4 : (0 : Int) ≤ (i : Int) := Int.natCast_nonneg _
      have a5 : (i : Int) < (y.length : Int) := Int.ofNat_lt.2 (by omega)
      have a6 : i ≤ 100000000 := by omega
      have g1 : (o.length : Int) - 1 - (i : Int) = ((o.length - 1 - i : Nat) : Int) := by omega
      have g3 : wrap64 (((o.length - 1 - i : Nat) : Int) - 1) = (o.length : Int) - 1 - ((i + 1 : Nat) : Int) := by
        have q : ((o.length - 1 - i : Nat) : Int) - 1 = (o.length : Int) - 1 - ((i + 1 : Nat) : Int) := by omega
        rw [w64 (by omega) (by omega), q]
      have g3 := Lib.hid g3
      have e1 := hy i (by omega)
      have e2 := hy (o.length - 1 - i) (by omega)
      rw [if_neg (by omega)] at e1 e2
      obtain ⟨K, h1⟩ := ih (o.length - 2 * (i + 1)) (by omega) (i + 1) ((y.set i (o.getD (o.length - 1 - i) 0)).set (o.length - 1 - i) (o.getD i 0)) rfl (by omega) ⟨by simp [hl], fun j hj => by
        rw [getD_set _ _ _ _ (by simp; omega), getD_set _ _ _ _ (by omega), hy j hj]
        by_cases c1 : j = o.length - 1 - i
        · subst c1
          rw [if_pos rfl, if_pos (by omega), show o.length - 1 - (o.length - 1 - i) = i from by omega]
        · rw [if_neg c1]
          by_cases c2 : j = i
          · subst c2
            rw [if_pos rfl, if_pos (by omega)]
          · rw [if_neg c2]
            by_cases c3 : j < i ∨ o.length - 1 - i < j
            · rw [if_pos c3, if_pos (by omega)]
            · rw [if_neg c3, if_neg (by omega)]⟩
      refine ⟨K + 1, fun k hk => ?_⟩
      obtain ⟨k', rfl⟩ := pred_of hk
      dsimp only at h1
      have g2 : wrap64 ((i : Int) + 1) = ((i + 1 : Nat) : Int) := w64_succ a6
      have r1 : rd y ((o.length - 1 - i : Nat) : Int) = o.getD (o.length - 1 - i) 0 := e2
      have r2 : rd y (i : Int) = o.getD i 0 := e1
      show spec_Int_Base.l2 (k' + 1) y (i : Int) ((o.length : Int) - 1 - (i : Int)) = _
      rw [g1]
      simp only [spec_Int_Base.l2]
      rw [if_pos a1, if_pos a2, if_pos a3, if_pos a4, if_pos a5, r1, r2, g2, g3.out, Int.toNat_natCast, Int.toNat_natCast]
      exact h1 k' (Nat.le_of_succ_le_succ hk)
    · refine ⟨1, fun k hk => ?_⟩
      obtain ⟨k', rfl⟩ := pred_of (K := 0) hk
      simp only [spec_Int_Base.l2]
      rw [if_neg (by omega)]
      congr 2
      apply List.ext_getElem (by simp [hl])
      intro j hj1 hj2
      have hj : j < o.length := by omega
      have h := hy j hj
      rw [List.getElem_reverse]
      have e1 : y.getD j 0 = y[j] := by simp [List.getD, hj1]
      have e2 : ∀ q (hq : q < o.length), o.getD q 0 = o[q] := fun q hq => by simp [List.getD, hq]
      rw [e1] at h
      rw [h]
      split
      · exact e2 _ _
      · rw [e2 _ hj]
        congr 1
        omega
theorem base_ev {m : List Int} {N : Nat} (hm : Can m N) (hl : m.length ≤ 10000) (hd : (dle N).length ≤ 100000) (h0 : N ≠ 0) : Ev (fun k => spec_Int_Text.f k false m) (strOfNums (dle N).reverse) := by
  have hne : 0 < (dle N).length := by rw [dle, dif_neg h0]; simp
  obtain ⟨K, h1⟩ := turn_loop (dle N) hd hne _ 0 (dle N) rfl (by omega) ⟨rfl, fun j hj => by rw [if_neg (by omega)]⟩
  obtain ⟨K2, h2⟩ := base_loop (res := strOfNums (dle N).reverse) false m rfl N [] m (by simpa using hd) hm hl ⟨K + 1, fun k hk => by
    obtain ⟨k', rfl⟩ := pred_of hk
    have e := h1 k' (Nat.le_of_succ_le_succ hk)
    dsimp only at e
    simp only [spec_Int_Base.j2]
    rw [List.nil_append, w64 (by omega) (by omega)]
    simpa using e⟩
  refine ⟨K2, fun k hk => ?_⟩
  have hz := hm.zero_iff
  have hm0 : m.length ≠ 0 := fun h => h0 (hz.1 h)
  show spec_Int_Text.f k false m = _
  unfold spec_Int_Text.f spec_Int_Base.f spec_Int_Zero.f
  rw [Option.bind_some, if_neg (fun h => hm0 (by simpa using h)), Option.bind_some, if_pos (by simp; omega), List.nil_append]
  have e := h2 k hk
  dsimp only at e
  rw [e, Option.bind_some]
end Go.Proofs.YtdbjoiojiibdgaaGreatDoor
namespace Go.Proofs.YtdbjoiojiibdgaaGreatDoor
open Go.RowKit Go.Proofs.YtdbjoiojiibdgaaGreatDoorW.PrintWords Go.Proofs.YtdbjoiojiibdgaaGreatDoorW.PrintLast Go.Proofs.YtdbjoiojiibdgaaGreatDoorW.PrintMore
open PFixed
theorem tens_ev : ∀ k, 60 ≤ k → spec_frontTens.f k 6 = some (false, [15, 66, 64]) := fun k hk => at_rounds (fun k => spec_frontTens.mono 6 k) hk (by kernel_rfl)
theorem can_tens : Can [15, 66, 64] 1000000 := ⟨fun x hx => by simp at hx; rcases hx with rfl | rfl | rfl <;> decide, rfl, by decide⟩
theorem bytes_f (u : Nat) : ∀ k, 20 ≤ k → spec_bytesOf.f k (u : Int) = some [(u : Int) / 256 / 256 / 256 / 256 / 256 / 256 / 256 % 256, (u : Int) / 256 / 256 / 256 / 256 / 256 / 256 % 256, (u : Int) / 256 / 256 / 256 / 256 / 256 % 256, (u : Int) / 256 / 256 / 256 / 256 % 256, (u : Int) / 256 / 256 / 256 % 256, (u : Int) / 256 / 256 % 256, (u : Int) / 256 % 256, (u : Int) % 256] :=
  fun k hk => at_rounds (fun k => spec_bytesOf.mono u k) hk (by kernel_rfl)
theorem dv256 (u : Nat) : (u : Int) / 256 = ((u / 256 : Nat) : Int) := by omega
theorem md256 (u : Nat) : (u : Int) % 256 = ((u % 256 : Nat) : Int) := by omega
theorem eight {u a b c d e f g : Nat} (hu : u < 18446744073709551616) (ha : a = u / 256) (hb : b = a / 256) (hc : c = b / 256) (hd : d = c / 256) (he : e = d / 256) (hf : f = e / 256) (hg : g = f / 256) :
    g % 256 * 72057594037927936 + (f % 256 * 281474976710656 + (e % 256 * 1099511627776 + (d % 256 * 4294967296 + (c % 256 * 16777216 + (b % 256 * 65536 + (a % 256 * 256 + u % 256)))))) = u := by
  have h0 : g < 256 := by omega
  have h1 : f = g * 256 + f % 256 := by omega
  have h2 : e = f * 256 + e % 256 := by omega
  have h3 : d = e * 256 + d % 256 := by omega
  have h4 : c = d * 256 + c % 256 := by omega
  have h5 : b = c * 256 + b % 256 := by omega
  have h6 : a = b * 256 + a % 256 := by omega
  have h7 : u = a * 256 + u % 256 := by omega
  rw [Nat.mod_eq_of_lt h0]
  clear ha hb hc hd he hf hg
  generalize f % 256 = r1 at *
  generalize e % 256 = r2 at *
  generalize d % 256 = r3 at *
  generalize c % 256 = r4 at *
  generalize b % 256 = r5 at *
  generalize a % 256 = r6 at *
  generalize u % 256 = r7 at *
  omega
theorem bytes_val {u : Nat} (hu : u < 18446744073709551616) : val [(u : Int) / 256 / 256 / 256 / 256 / 256 / 256 / 256 % 256, (u : Int) / 256 / 256 / 256 / 256 / 256 / 256 % 256, (u : Int) / 256 / 256 / 256 / 256 / 256 % 256, (u : Int) / 256 / 256 / 256 / 256 % 256, (u : Int) / 256 / 256 / 256 % 256, (u : Int) / 256 / 256 % 256, (u : Int) / 256 % 256, (u : Int) % 256] = u := by
  simp only [dv256, md256, val_cons, val_nil, List.length_cons, List.length_nil, Int.toNat_natCast, Nat.reduceAdd, Nat.reducePow, Nat.mul_one, Nat.add_zero]
  exact eight hu rfl rfl rfl rfl rfl rfl rfl
theorem bytes_byt (u : Nat) : Byt [(u : Int) / 256 / 256 / 256 / 256 / 256 / 256 / 256 % 256, (u : Int) / 256 / 256 / 256 / 256 / 256 / 256 % 256, (u : Int) / 256 / 256 / 256 / 256 / 256 % 256, (u : Int) / 256 / 256 / 256 / 256 % 256, (u : Int) / 256 / 256 / 256 % 256, (u : Int) / 256 / 256 % 256, (u : Int) / 256 % 256, (u : Int) % 256] := fun x hx => by
  simp only [List.mem_cons, List.not_mem_nil, or_false] at hx
  rcases hx with rfl | rfl | rfl | rfl | rfl | rfl | rfl | rfl <;> omega
theorem pad_ev (n : Nat) (hn : n ≤ 1000) : ∀ (d : Nat) (s : ByteArray), n - s.size = d → s.size ≤ 1000000 → Ev (fun k => spec_padded.l0 k s (n : Int)) (⟨(List.replicate (n - s.size) (48 : UInt8)).toArray⟩ ++ s)
  | 0, s, hd, hs => by
    refine ⟨1, fun k hk => ?_⟩
    obtain ⟨k', rfl⟩ := pred_of (K := 0) hk
    simp only [spec_padded.l0]
    rw [if_neg (by omega), hd]
    congr 1
  | d + 1, s, hd, hs => by
    have e : ((⟨#[48]⟩ : ByteArray) ++ s).size = 1 + s.size := ByteArray.size_append
    obtain ⟨K, h⟩ := pad_ev n hn d ((⟨#[48]⟩ : ByteArray) ++ s) (by omega) (by omega)
    refine ⟨K + 1, fun k hk => ?_⟩
    obtain ⟨k', rfl⟩ := pred_of hk
    dsimp only at h
    simp only [spec_padded.l0]
    rw [if_pos (by omega), if_pos (by omega), h k' (Nat.le_of_succ_le_succ hk), e]
    rw [show n - s.size = (n - (1 + s.size)) + 1 from by omega, List.replicate_succ']
    obtain ⟨⟨l⟩⟩ := s
    apply congrArg some
    apply ByteArray.ext
    simp [ByteArray.data_append]
end Go.Proofs.YtdbjoiojiibdgaaGreatDoor
namespace Go.Proofs.YtdbjoiojiibdgaaGreatDoor
open Go.RowKit Go.Proofs.YtdbjoiojiibdgaaGreatDoorW.PrintWords Go.Proofs.YtdbjoiojiibdgaaGreatDoorW.PrintLast Go.Proofs.YtdbjoiojiibdgaaGreatDoorW.PrintMore
open PFixed
theorem pow2_lt {n m : Nat} (h : n < 8 * m) : 2 ^ n < 256 ^ m := by
  rw [show (256 : Nat) = 2 ^ 8 from rfl, ← Nat.pow_mul]
  exact (Nat.pow_lt_pow_iff_right (by decide)).2 h
theorem lsh_ev {a : List Int} {A : Nat} (ha : Can a A) (hla : a.length ≤ 100) (n : Nat) (hn : n ≤ 2000) : ∃ r, Ev (fun k => spec_Int_Lsh.f k false a (n : Int)) (false, r) ∧ Can r (A * 2 ^ n) := by
  have hz := ha.zero_iff
  by_cases h0 : a.length = 0
  · refine ⟨[], ⟨0, fun k _ => ?_⟩, by rw [hz.1 h0, Nat.zero_mul]; exact Can.nil⟩
    show spec_Int_Lsh.f k false a (n : Int) = _
    unfold spec_Int_Lsh.f spec_Int_Zero.f
    rw [Option.bind_some, if_pos (by simp; exact List.eq_nil_of_length_eq_zero h0)]
  · obtain ⟨p, ⟨K1, h1⟩, h2⟩ := power_ev n (by omega)
    have hp : p.length ≤ n / 8 + 1 := h2.len_le (pow2_lt (by omega))
    obtain ⟨r, ⟨K2, h3⟩, h4⟩ := mul_ev ha h2 (by omega) (by omega)
    refine ⟨r, ⟨max K1 K2, fun k hk => ?_⟩, h4⟩
    dsimp only at h1 h3
    show spec_Int_Lsh.f k false a (n : Int) = _
    unfold spec_Int_Lsh.f spec_Int_Zero.f
    rw [Option.bind_some, if_neg (fun h => h0 (by simpa using h)), h1 k (by omega), Option.bind_some, h3 k (by omega), Option.bind_some]
theorem ev_at {α : Type} {g : Nat → Option α} {r : α} (h : Ev g r) : ∃ k, g k = some r := h.rounds
theorem m_can {u : Nat} (hu : u < 18446744073709551616) : ∃ l, (∃ k, (spec_bytesOf.f k (u : Int)).bind (fun t => spec_Of.f k false t) = some (false, l)) ∧ Can l u ∧ l.length ≤ 8 := by
  obtain ⟨l, ⟨K, h1⟩, h2⟩ := of_ev (bytes_byt u) (by simp)
  rw [bytes_val hu] at h2
  refine ⟨l, ⟨max K 20, ?_⟩, h2, h2.len_le (by omega)⟩
  dsimp only at h1
  rw [bytes_f u _ (by omega), Option.bind_some, h1 _ (by omega)]
end Go.Proofs.YtdbjoiojiibdgaaGreatDoor
namespace Go.Proofs.YtdbjoiojiibdgaaGreatDoor
open Go.RowKit
def dgl (N n : Nat) : List Int := (List.range n).map fun j => ((48 + N / 10 ^ (n - 1 - j) % 10 : Nat) : Int)
theorem dgl_len (N n : Nat) : (dgl N n).length = n := by simp [dgl]
theorem dgl_at (N n j : Nat) (h : j < n) : (dgl N n).getD j 0 = ((48 + N / 10 ^ (n - 1 - j) % 10 : Nat) : Int) := by
  simp [dgl, List.getD, h]
theorem dgl_snoc (N n : Nat) : dgl N (n + 1) = dgl (N / 10) n ++ [((48 + N % 10 : Nat) : Int)] := by
  unfold dgl
  rw [List.range_succ, List.map_append]
  congr 1
  · apply List.map_congr_left
    intro j hj
    have hj := List.mem_range.1 hj
    rw [show n + 1 - 1 - j = (n - 1 - j) + 1 from by omega, Nat.pow_succ, Nat.mul_comm, ← Nat.div_div_eq_div_mul]
  · simp
theorem dgl_tail (U n : Nat) : ∀ k, dgl (U * 10 ^ k) (n + k) = dgl U n ++ List.replicate k 48
  | 0 => by simp
  | k + 1 => by
    rw [show n + (k + 1) = (n + k) + 1 from by omega, dgl_snoc, Nat.pow_succ, ← Nat.mul_assoc, Nat.mul_div_cancel _ (by decide), Nat.mul_mod_left, dgl_tail U n k, List.append_assoc, List.replicate_succ']
    rfl
theorem dgl_zero : ∀ n, dgl 0 n = List.replicate n 48
  | 0 => rfl
  | n + 1 => by rw [dgl_snoc, Nat.zero_div, dgl_zero n, List.replicate_succ']; rfl
theorem dgl_lead (m : Nat) : ∀ (n N : Nat), N < 10 ^ n → dgl N (m + n) = List.replicate m 48 ++ dgl N n
  | 0, N, h => by
    have : N = 0 := by simpa using h
    subst this
    rw [Nat.add_zero, dgl_zero]
    simp [dgl]
  | n + 1, N, h => by
    rw [← Nat.add_assoc, dgl_snoc, dgl_snoc, dgl_lead m n (N / 10) (by rw [Nat.pow_succ] at h; omega), List.append_assoc]
theorem dle_law : ∀ (N : Nat), (dle N).reverse = dgl N (dle N).length ∧ N < 10 ^ (dle N).length ∧ (N ≠ 0 → 10 ^ ((dle N).length - 1) ≤ N ∧ 1 ≤ (dle N).length) := by
  intro N
  induction N using Nat.strongRecOn with
  | _ N ih =>
    by_cases h0 : N = 0
    · have e : dle N = [] := by rw [dle, dif_pos h0]
      rw [e]
      subst h0
      exact ⟨rfl, by decide, fun h => absurd rfl h⟩
    · have e : dle N = ((48 + N % 10 : Nat) : Int) :: dle (N / 10) := by rw [dle, dif_neg h0]
      obtain ⟨h1, h2, h3⟩ := ih (N / 10) (by omega)
      rw [e, List.reverse_cons, h1, List.length_cons]
      refine ⟨(dgl_snoc N _).symm, by rw [Nat.pow_succ]; omega, fun _ => ⟨?_, by omega⟩⟩
      rw [Nat.add_sub_cancel]
      by_cases h9 : N / 10 = 0
      · have : dle (N / 10) = [] := by rw [dle, dif_pos h9]
        rw [this, List.length_nil, Nat.pow_zero]
        omega
      · obtain ⟨h4, h5⟩ := h3 h9
        rw [show (dle (N / 10)).length = ((dle (N / 10)).length - 1) + 1 from by omega, Nat.pow_succ]
        omega
theorem len_of (N n : Nat) (h1 : 10 ^ (n - 1) ≤ N) (h2 : N < 10 ^ n) : (dle N).length = n := by
  have h0 : N ≠ 0 := by
    have : 0 < 10 ^ (n - 1) := Nat.pow_pos (by decide)
    omega
  obtain ⟨_, a1, a2⟩ := dle_law N
  obtain ⟨a2, a3⟩ := a2 h0
  obtain ⟨l, hl⟩ : ∃ l, l = (dle N).length := ⟨_, rfl⟩
  rw [← hl] at a1 a2 a3 ⊢
  rcases Nat.lt_trichotomy l n with a | a | a
  · have : 10 ^ l ≤ 10 ^ (n - 1) := Nat.pow_le_pow_right (by decide) (by omega)
    omega
  · exact a
  · have : 10 ^ n ≤ 10 ^ (l - 1) := Nat.pow_le_pow_right (by decide) (by omega)
    omega
def tx (N : Nat) : List Int :=
  (dgl N (max (dle N).length 7)).take (max (dle N).length 7 - 6) ++ [46] ++ (dgl N (max (dle N).length 7)).drop (max (dle N).length 7 - 6)
theorem tx_of (N m : Nat) (h : max (dle N).length 7 = m) : tx N = (dgl N m).take (m - 6) ++ [46] ++ (dgl N m).drop (m - 6) := by
  unfold tx
  rw [h]
theorem text_a (U k q N : Nat) (hk : 1 ≤ k + q) (hU0 : 10 ^ (k - 1) ≤ U) (hU : U < 10 ^ k) (hN : U * 10 ^ (q + 6) = N) : dgl U k ++ List.replicate q 48 ++ [46] ++ List.replicate 6 48 = tx N := by
  have hk1 : 1 ≤ k := by
    rcases Nat.eq_zero_or_pos k with e | e
    · subst e
      have : U = 0 := by simpa using hU
      subst this
      simp at hU0
    · exact e
  have hl : (dle N).length = k + (q + 6) := by
    apply len_of
    · rw [show k + (q + 6) - 1 = (k - 1) + (q + 6) from by omega, Nat.pow_add, ← hN]
      exact Nat.mul_le_mul_right _ hU0
    · rw [Nat.pow_add, ← hN]
      exact Nat.mul_lt_mul_of_pos_right hU (Nat.pow_pos (by decide))
  rw [tx_of N (k + (q + 6)) (by omega), ← hN, dgl_tail, show k + (q + 6) - 6 = k + q from by omega]
  have e1 : List.replicate (q + 6) (48 : Int) = List.replicate q 48 ++ List.replicate 6 48 := List.replicate_append_replicate.symm
  rw [e1, ← List.append_assoc]
  have e2 : (dgl U k ++ List.replicate q (48 : Int)).length = k + q := by simp [dgl_len]
  rw [List.take_left' e2, List.drop_left' e2]
theorem text_b (U dp n2 z2 N : Nat) (hz : n2 + z2 = 6) (hdp : 1 ≤ dp) (hU0 : 10 ^ (dp + n2 - 1) ≤ U) (hU : U < 10 ^ (dp + n2)) (hN : U * 10 ^ z2 = N) : (dgl U (dp + n2)).take dp ++ [46] ++ (dgl U (dp + n2)).drop dp ++ List.replicate z2 48 = tx N := by
  have hl : (dle N).length = dp + n2 + z2 := by
    apply len_of
    · rw [show dp + n2 + z2 - 1 = (dp + n2 - 1) + z2 from by omega, Nat.pow_add, ← hN]
      exact Nat.mul_le_mul_right _ hU0
    · rw [Nat.pow_add, ← hN]
      exact Nat.mul_lt_mul_of_pos_right hU (Nat.pow_pos (by decide))
  rw [tx_of N (dp + n2 + z2) (by omega), ← hN, dgl_tail, show dp + n2 + z2 - 6 = dp from by omega]
  rw [List.take_append_of_le_length (by rw [dgl_len]; omega), List.drop_append_of_le_length (by rw [dgl_len]; omega), ← List.append_assoc]
theorem text_c (U k z z2 N : Nat) (hz : z + k + z2 = 6) (hU : U < 10 ^ k) (hN : U * 10 ^ z2 = N) : [48] ++ [46] ++ List.replicate z 48 ++ dgl U k ++ List.replicate z2 48 = tx N := by
  have hNlt : N < 10 ^ (k + z2) := by
    rw [Nat.pow_add, ← hN]
    exact Nat.mul_lt_mul_of_pos_right hU (Nat.pow_pos (by decide))
  have hl : (dle N).length ≤ 6 := by
    by_cases h0 : N = 0
    · rw [h0, dle, dif_pos rfl]; decide
    · obtain ⟨_, _, a⟩ := dle_law N
      obtain ⟨a, b⟩ := a h0
      rcases Nat.lt_or_ge 6 (dle N).length with c | c
      · have : 10 ^ (k + z2) ≤ 10 ^ ((dle N).length - 1) := Nat.pow_le_pow_right (by decide) (by omega)
        omega
      · exact c
  rw [tx_of N 7 (by omega)]
  have e : dgl N 7 = [48] ++ (List.replicate z 48 ++ dgl U k ++ List.replicate z2 48) := by
    have h7 : 7 = (z + 1) + (k + z2) := by omega
    rw [h7, dgl_lead (z + 1) (k + z2) N hNlt, ← hN, dgl_tail, List.replicate_succ]
    simp
  rw [e]
  simp
end Go.Proofs.YtdbjoiojiibdgaaGreatDoor
