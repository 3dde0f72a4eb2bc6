/-
  A part of the proof of FnIntText: long division: the test of the guess; plain laws of a round.
-/
import Derived.Test.YtdidglfaogmnfaaGreatDoorL
namespace Go.Proofs.YtdidglfaogmnfaaGreatDoor
open Go.RowKit

/-- the test of the guess -/
def gtB (x1 x2 y1 y2 : Nat) : Bool := decide (y1 * 18446744073709551616 + y2 < x1 * 18446744073709551616 + x2)
theorem gt_c (x1 x2 y1 y2 : Nat) (h2 : x2 < 18446744073709551616) (h4 : y2 < 18446744073709551616) (w : World) :
    Calls Tryz.prog 136 #[.int .u64 x1, .int .u64 x2, .int .u64 y1, .int .u64 y2] w fun e w' => e = .returned (.bool (gtB x1 x2 y1 y2)) ∧ w' = w := by
  by_cases ha : y1 < x1
  · have e : gtB x1 x2 y1 y2 = true := by unfold gtB; simp; omega
    rw [e]
    clear h2 h4 e
    have h1 : decide (y1 < x1) = true := by simp [ha]
    have h1' : decide ((y1 : Int) < (x1 : Int)) = true := by simp [ha]
    go_enter Tryz.func136, Tryz.ntmps136
    go_wp2_with fail
    go_returns
    exact ⟨rfl, rfl⟩
  · by_cases hb : x1 = y1
    · subst hb
      have e : gtB x1 x2 x1 y2 = decide (y2 < x2) := by unfold gtB; simp
      rw [e]
      clear h2 h4 e
      have h1 : decide (x1 < x1) = false := by simp
      have h1' : decide ((x1 : Int) < (x1 : Int)) = false := by simp
      go_enter Tryz.func136, Tryz.ntmps136
      go_wp2_with fail
      go_returns
      exact ⟨rfl, rfl⟩
    · have e : gtB x1 x2 y1 y2 = false := by unfold gtB; simp; omega
      rw [e]
      clear h2 h4 e
      have h1 : decide (y1 < x1) = false := by simp; omega
      have h1' : decide ((y1 : Int) < (x1 : Int)) = false := by simp; omega
      have h3 : ((x1 : Int) == (y1 : Int)) = false := by simp; omega
      have h3' : (x1 == y1) = false := by simp; omega
      go_enter Tryz.func136, Tryz.ntmps136
      go_wp2_with fail
      go_returns
      exact ⟨rfl, rfl⟩

/-- one round of a long division: the section's words -/
theorem sec_lo (r x : Nat) (hx : x < 18446744073709551616) : wd (r * 18446744073709551616 + x) 0 = x := by
  unfold wd; rw [Nat.pow_zero, Nat.div_one]; omega
theorem sec_hi (r x k : Nat) (hx : x < 18446744073709551616) : wd (r * 18446744073709551616 + x) (k + 1) = wd r k := by
  unfold wd
  rw [Nat.pow_succ, Nat.mul_comm (18446744073709551616 ^ k), ← Nat.div_div_eq_div_mul, show (r * 18446744073709551616 + x) / 18446744073709551616 = r from by omega]
theorem sec_ws {w : World} {b j n r X : Nat} (h1 : w.cell? ⟨b, j, none⟩ = some (.int .u64 ((wd X j : Nat) : Int))) (h2 : Ws w b (j + 1) n r) : Ws w b j (n + 1) (r * 18446744073709551616 + wd X j) := fun i hi => by
  cases i with
  | zero => rw [sec_lo _ _ (wd_lt X j)]; exact h1
  | succ k => rw [sec_hi _ _ _ (wd_lt X j), show j + (k + 1) = j + 1 + k from by omega]; exact h2 k (by omega)
/-- at the first round there is no word above -/
theorem sec_top {v T q R c P : Nat} (hT : T < v) (_hv : v ≤ P) (hq : q ≤ 1) (hR : R < P) (h : R + q * v = T + c * P) (hc : c ≤ 1) : (c = 0 → q = 0 ∧ R = T) ∧ (c = 1 → q = 1 ∧ R + v = P + T) := by
  have hq2 : q = 0 ∨ q = 1 := by omega
  have hc2 : c = 0 ∨ c = 1 := by omega
  rcases hq2 with rfl | rfl <;> rcases hc2 with rfl | rfl <;> constructor <;> intro h1 <;> first | (exfalso; omega) | (constructor <;> omega)
/-- the loop that mends the guess: its invariant -/
def Gs (a b U u2 q r x1 x2 : Nat) : Prop := q ≤ 18446744073709551615 ∧ r < 18446744073709551616 ∧ x1 < 18446744073709551616 ∧ x2 < 18446744073709551616 ∧ q * a + r = U ∧ q * b = x1 * 18446744073709551616 + x2 ∧ U * 18446744073709551616 + u2 < (q + 1) * (a * 18446744073709551616 + b)
def Ge (a b U u2 q : Nat) : Prop := q ≤ 18446744073709551615 ∧ q * (a * 18446744073709551616 + b) ≤ U * 18446744073709551616 + u2 ∧ U * 18446744073709551616 + u2 < (q + 1) * (a * 18446744073709551616 + b)
theorem gs_end {a b U u2 q r x1 x2 : Nat} (h : Gs a b U u2 q r x1 x2) (hn : gtB x1 x2 r u2 = false) : Ge a b U u2 q := by
  obtain ⟨h1, h2, h3, h4, h5, h6, h7⟩ := h
  unfold gtB at hn
  rw [decide_eq_false_iff_not] at hn
  refine ⟨h1, ?_, h7⟩
  rw [← h5, Nat.mul_add, ← Nat.mul_assoc, Nat.add_mul, h6]
  omega
theorem gs_pos {a b U u2 q r x1 x2 : Nat} (h : Gs a b U u2 q r x1 x2) (hn : gtB x1 x2 r u2 = true) : 1 ≤ q ∧ U * 18446744073709551616 + u2 < q * (a * 18446744073709551616 + b) := by
  obtain ⟨h1, h2, h3, h4, h5, h6, h7⟩ := h
  unfold gtB at hn
  rw [decide_eq_true_iff] at hn
  refine ⟨?_, ?_⟩
  · rcases Nat.eq_zero_or_pos q with e | e
    · rw [e, Nat.zero_mul] at h6
      clear h5 h7 h1 e
      omega
    · exact e
  · rw [← h5, Nat.mul_add, ← Nat.mul_assoc, Nat.add_mul, h6]
    clear h1 h2 h3 h4 h5 h6 h7
    generalize q * a = y
    rw [Nat.add_assoc]; exact Nat.add_lt_add_left hn _
/-- the remainder has run over: the guess is mended -/
theorem gs_break {a b U u2 q r x1 x2 : Nat} (h : Gs a b U u2 q r x1 x2) (hn : gtB x1 x2 r u2 = true) (hb : b < 18446744073709551616) (ho : 18446744073709551616 ≤ r + a) : Ge a b U u2 (q - 1) := by
  obtain ⟨p1, p2⟩ := gs_pos h hn
  obtain ⟨h1, h2, h3, h4, h5, h6, h7⟩ := h
  obtain ⟨k, rfl⟩ : ∃ k, q = k + 1 := ⟨q - 1, by omega⟩
  rw [Nat.add_sub_cancel]
  refine ⟨by omega, ?_, p2⟩
  rw [← h5, Nat.mul_add, ← Nat.mul_assoc, Nat.add_mul k 1, Nat.one_mul, Nat.add_mul, Nat.add_mul]
  have hkb : k * b ≤ 18446744073709551615 * 18446744073709551615 := Nat.mul_le_mul (by omega) (by omega)
  omega
theorem gs_next {a b U u2 q r x1 x2 : Nat} (h : Gs a b U u2 q r x1 x2) (hn : gtB x1 x2 r u2 = true) (hb : b < 18446744073709551616) (ho : r + a < 18446744073709551616) :
    (x2 < b → 1 ≤ x1 ∧ Gs a b U u2 (q - 1) (r + a) (x1 - 1) (x2 + 18446744073709551616 - b)) ∧ (b ≤ x2 → Gs a b U u2 (q - 1) (r + a) x1 (x2 - b)) := by
  obtain ⟨p1, p2⟩ := gs_pos h hn
  obtain ⟨h1, h2, h3, h4, h5, h6, h7⟩ := h
  obtain ⟨k, rfl⟩ : ∃ k, q = k + 1 := ⟨q - 1, by omega⟩
  rw [Nat.add_sub_cancel]
  rw [Nat.add_mul, Nat.one_mul] at h5 h6
  constructor
  · intro hx
    have hx1 : 1 ≤ x1 := by omega
    exact ⟨hx1, by omega, ho, by omega, by omega, by omega, by omega, p2⟩
  · intro hx
    exact ⟨by omega, ho, h3, by omega, by omega, by omega, p2⟩
end Go.Proofs.YtdidglfaogmnfaaGreatDoor
