/-
  Numbers written in bytes, the highest one first: plain facts, no program in sight.
-/
import Derived.Below
namespace Go.Proofs.YtdidglfaogmnfaaGreatDoor.Ref

/-- the i-th byte from the low end -/
def dg (l : List Int) (i : Nat) : Nat := if i < l.length then (l.getD (l.length - 1 - i) 0).toNat else 0
def S (f : Nat → Nat) : Nat → Nat
  | 0 => 0
  | n + 1 => S f n + f n * 256 ^ n
def val (l : List Int) : Nat := S (dg l) l.length
def Byt (l : List Int) : Prop := ∀ x ∈ l, 0 ≤ x ∧ x < 256
/-- l is N, without a zero ahead -/
structure Can (l : List Int) (N : Nat) : Prop where
  byt : Byt l
  val : val l = N
  top : l.getD 0 1 ≠ 0

theorem S_congr {f g : Nat → Nat} : ∀ {n : Nat}, (∀ j, j < n → f j = g j) → S f n = S g n
  | 0, _ => rfl
  | n + 1, h => by
    show S f n + f n * 256 ^ n = S g n + g n * 256 ^ n
    rw [S_congr (fun j hj => h j (by omega)), h n (by omega)]
theorem S_more {f : Nat → Nat} {n : Nat} : ∀ {m : Nat}, n ≤ m → (∀ j, n ≤ j → j < m → f j = 0) → S f m = S f n
  | 0, h, _ => by obtain rfl : n = 0 := by omega
                  rfl
  | m + 1, h, h0 => by
    by_cases e : n = m + 1
    · subst e; rfl
    · show S f m + f m * 256 ^ m = _
      rw [S_more (by omega) (fun j h1 h2 => h0 j h1 (by omega)), h0 m (by omega) (by omega), Nat.zero_mul, Nat.add_zero]
theorem S_lt {f : Nat → Nat} : ∀ {n : Nat}, (∀ j, j < n → f j < 256) → S f n < 256 ^ n
  | 0, _ => Nat.zero_lt_one
  | n + 1, h => by
    have h1 := S_lt (n := n) (fun j hj => h j (by omega))
    have h2 := h n (by omega)
    have h3 : f n * 256 ^ n ≤ 255 * 256 ^ n := Nat.mul_le_mul_right _ (by omega)
    show S f n + f n * 256 ^ n < 256 ^ (n + 1)
    rw [Nat.pow_succ]
    omega
theorem dg_lt {l : List Int} (h : Byt l) (i : Nat) : dg l i < 256 := by
  unfold dg
  split
  · rename_i hi
    have hm : l.getD (l.length - 1 - i) 0 ∈ l := by
      rw [List.getD, List.getElem?_eq_getElem (by omega : l.length - 1 - i < l.length)]
      exact List.getElem_mem _
    have := h _ hm
    omega
  · decide
theorem dg_ge {l : List Int} {i : Nat} (h : l.length ≤ i) : dg l i = 0 := by
  unfold dg
  rw [if_neg (by omega)]
theorem val_eq {l : List Int} {n : Nat} (h : l.length ≤ n) : S (dg l) n = val l := S_more h (fun _ hj _ => dg_ge hj)
theorem val_lt {l : List Int} (h : Byt l) : val l < 256 ^ l.length := S_lt (fun j _ => dg_lt h j)
theorem dg_cons (x : Int) (l : List Int) (i : Nat) : dg (x :: l) i = if i = l.length then x.toNat else dg l i := by
  unfold dg
  rw [List.length_cons]
  by_cases e : i = l.length
  · subst e
    rw [if_pos (by omega), if_pos rfl, show l.length + 1 - 1 - l.length = 0 from by omega]
    rfl
  · rw [if_neg e]
    by_cases h : i < l.length
    · rw [if_pos (by omega), if_pos h, show l.length + 1 - 1 - i = (l.length - 1 - i) + 1 from by omega]
      simp [List.getD]
    · rw [if_neg (by omega), if_neg h]
theorem val_cons (x : Int) (l : List Int) : val (x :: l) = x.toNat * 256 ^ l.length + val l := by
  unfold val
  rw [List.length_cons]
  show S (dg (x :: l)) l.length + dg (x :: l) l.length * 256 ^ l.length = _
  rw [S_congr (g := dg l) (fun j hj => by rw [dg_cons, if_neg (by omega)]), dg_cons, if_pos rfl, Nat.add_comm]
theorem val_nil : val [] = 0 := rfl
theorem dg_set {l : List Int} {i : Nat} (hi : i < l.length) (v : Int) (j : Nat) : dg (l.set (l.length - 1 - i) v) j = if j = i then v.toNat else dg l j := by
  unfold dg
  rw [List.length_set]
  by_cases hj : j < l.length
  · rw [if_pos hj, if_pos hj]
    by_cases e : j = i
    · subst e
      rw [if_pos rfl, List.getD, List.getElem?_set_self (by omega)]
      rfl
    · rw [if_neg e, List.getD, List.getD, List.getElem?_set_ne (by omega)]
  · rw [if_neg hj, if_neg hj, if_neg (by omega)]
theorem dg_zeros (n j : Nat) : dg (List.replicate n 0) j = 0 := by
  unfold dg
  split
  · rename_i h
    rw [List.length_replicate] at h
    rw [List.getD, List.getElem?_replicate]
    split <;> rfl
  · rfl
theorem S_zero (n : Nat) : ∀ {f : Nat → Nat}, (∀ j, j < n → f j = 0) → S f n = 0 := fun h => by
  rw [S_more (n := 0) (m := n) (Nat.zero_le _) (fun j _ hj => h j hj)]; rfl
theorem Byt.set {l : List Int} (h : Byt l) (i : Nat) {v : Int} (h0 : 0 ≤ v) (h1 : v < 256) : Byt (l.set i v) := fun x hx => by
  rcases List.mem_or_eq_of_mem_set hx with hx | rfl
  · exact h x hx
  · exact ⟨h0, h1⟩
theorem Byt.zeros (n : Nat) : Byt (List.replicate n 0) := fun x hx => by
  obtain ⟨_, rfl⟩ := List.mem_replicate.1 hx
  decide
theorem Byt.tail {x : Int} {l : List Int} (h : Byt (x :: l)) : Byt l := fun y hy => h y (List.mem_cons_of_mem _ hy)
theorem Byt.getD {l : List Int} (h : Byt l) (i : Nat) : 0 ≤ l.getD i 0 ∧ l.getD i 0 < 256 := by
  by_cases hi : i < l.length
  · have hm : l.getD i 0 ∈ l := by
      rw [List.getD, List.getElem?_eq_getElem hi]
      exact List.getElem_mem _
    exact h _ hm
  · rw [List.getD, List.getElem?_eq_none (by omega)]; decide
/-- a canonical one is at least 256 to its length less one -/
theorem Can.low {l : List Int} {N : Nat} (h : Can l N) (h0 : 0 < l.length) : 256 ^ (l.length - 1) ≤ N := by
  obtain ⟨hb, rfl, ht⟩ := h
  match l, h0 with
  | x :: l, _ =>
    have hx := hb x (by simp)
    have hx0 : x ≠ 0 := by simpa [List.getD] using ht
    rw [val_cons, List.length_cons, Nat.add_sub_cancel]
    have : 1 * 256 ^ l.length ≤ x.toNat * 256 ^ l.length := Nat.mul_le_mul_right _ (by omega)
    omega
theorem Can.len_le {l : List Int} {N n : Nat} (h : Can l N) (hN : N < 256 ^ n) : l.length ≤ n := by
  by_cases h0 : 0 < l.length
  · have h1 := h.low h0
    have h2 : 256 ^ (l.length - 1) < 256 ^ n := Nat.lt_of_le_of_lt h1 hN
    have := (Nat.pow_lt_pow_iff_right (by decide : 1 < 256)).1 h2
    omega
  · omega
theorem Can.zero_iff {l : List Int} {N : Nat} (h : Can l N) : l.length = 0 ↔ N = 0 := by
  constructor
  · intro e
    rw [← h.val, List.eq_nil_of_length_eq_zero e]; rfl
  · intro e
    by_cases h0 : 0 < l.length
    · have h1 := h.low h0
      have : 0 < 256 ^ (l.length - 1) := Nat.pow_pos (by decide)
      omega
    · omega
theorem Can.nil : Can [] 0 := ⟨fun _ h => (by cases h), rfl, by decide⟩
theorem Can.unique {a b : List Int} {N : Nat} (ha : Can a N) (hb : Can b N) : a = b := by
  have hl : a.length = b.length := by
    have h1 := ha.len_le (n := b.length) (by rw [← hb.val]; exact val_lt hb.byt)
    have h2 := hb.len_le (n := a.length) (by rw [← ha.val]; exact val_lt ha.byt)
    omega
  have hv : _root_.Go.Proofs.YtdidglfaogmnfaaGreatDoor.Ref.val a = _root_.Go.Proofs.YtdidglfaogmnfaaGreatDoor.Ref.val b := ha.val.trans hb.val.symm
  have hA := ha.byt
  have hB := hb.byt
  clear ha hb
  induction a generalizing b with
  | nil => exact (List.eq_nil_of_length_eq_zero hl.symm).symm
  | cons x a ih =>
    match b, hl with
    | y :: b, hl =>
      have hl' : a.length = b.length := by simpa using hl
      rw [val_cons, val_cons, hl'] at hv
      have h1 : _root_.Go.Proofs.YtdidglfaogmnfaaGreatDoor.Ref.val a < 256 ^ b.length := hl' ▸ val_lt hA.tail
      have h2 := val_lt hB.tail
      have hx := hA x (by simp)
      have hy := hB y (by simp)
      have hxy : x.toNat = y.toNat := by
        rcases Nat.lt_trichotomy x.toNat y.toNat with h | h | h
        · have : (x.toNat + 1) * 256 ^ b.length ≤ y.toNat * 256 ^ b.length := Nat.mul_le_mul_right _ h
          rw [Nat.add_mul] at this
          omega
        · exact h
        · have : (y.toNat + 1) * 256 ^ b.length ≤ x.toNat * 256 ^ b.length := Nat.mul_le_mul_right _ h
          rw [Nat.add_mul] at this
          omega
      rw [hxy] at hv
      rw [show x = y from by omega, ih hl' (by omega) hA.tail hB.tail]
end Go.Proofs.YtdidglfaogmnfaaGreatDoor.Ref
