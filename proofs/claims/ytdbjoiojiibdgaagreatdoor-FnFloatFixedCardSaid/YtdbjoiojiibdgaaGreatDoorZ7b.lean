/-
  A part of the proof of FnFloatFixed (packed out of smaller texts by a program of this session; what the proof does not reach is left out).
-/
import Derived.Test.YtdbjoiojiibdgaaGreatDoorZ7
import Derived.Maps.Range
import Derived.Laws.Alloc2
import GoSem.PinnedTables
import Derived.Deep.DeepCutAuto
import Derived.Deep.CutBlock
namespace Go.Proofs.YtdbjoiojiibdgaaGreatDoor
open Go.RowKit
def Bf (w : World) (b : Nat) (f : Nat → Int) : Prop :=
  ∃ arr, w.heap[b]? = some (.cells arr 92 (0, 0)) ∧ arr.size = 24 ∧ ∀ i, i < 24 → arr[i]? = some (.int .u8 (f i))
theorem Bf.cd {w : World} {b : Nat} {f : Nat → Int} (h : Bf w b f) (i : Nat) (hi : i < 24) : w.cell? ⟨b, i, none⟩ = some (.int .u8 (f i)) := by
  obtain ⟨arr, h1, h2, h3⟩ := h
  rw [cell_of_row w b i arr 92 (0, 0) h1, h3 i hi]
theorem Bf.fz {w : World} {b : Nat} {f : Nat → Int} (h : Bf w b f) (i : Nat) : w.frozen? ⟨b, i, none⟩ = false := by
  obtain ⟨arr, h1, _⟩ := h
  exact frozen_of_row w b i arr 92 h1
theorem Bf.set {w : World} {b : Nat} {f : Nat → Int} (h : Bf w b f) (i : Nat) (x : Int) (hi : i < 24) : Bf (w.setCell ⟨b, i, none⟩ (.int .u8 x)) b (fun j => if j = i then x else f j) := by
  obtain ⟨arr, h1, h2, h3⟩ := h
  refine ⟨_, heap_setCell_same w b i arr 92 _ h1, by simp [h2], fun j hj => ?_⟩
  rw [Array.getElem?_setIfInBounds]
  by_cases e : i = j
  · subst e; simp only [if_true, if_pos (show i < arr.size by omega)]
  · simp only [if_neg e, if_neg (show ¬ j = i from fun c => e c.symm)]; exact h3 j hj
theorem Bf.far {w : World} {b : Nat} {f : Nat → Int} (h : Bf w b f) (a : Addr) (u : Value) (ha : b ≠ a.block) : Bf (w.setCell a u) b f := by
  obtain ⟨arr, h1, h2, h3⟩ := h
  exact ⟨arr, (heap_setCell_other w a b u ha).trans h1, h2, h3⟩
theorem Dn.far {w0 w : World} {b : Nat} {g : Nat → Int} {nd dp : Int} (h : Dn w0 w b g nd dp) (a : Addr) (u : Value) (hb : b < w0.heap.size) (ha : w0.heap.size ≤ a.block) : Dn w0 (w.setCell a u) b g nd dp := by
  obtain ⟨hg, arr, h1, h2⟩ := h
  refine ⟨hg.andThen (grown_set w a u) (fun j hj => Or.inl (by rw [← Option.some.inj hj]; exact ha)), arr, (heap_setCell_other w a b u (by omega)).trans h1, h2⟩
theorem Dn.laid {w0 : World} {b : Nat} {g : Nat → Int} {nd dp : Int} (h : Dn w0 w0 b g nd dp) (o : Obj) (hb : b < w0.heap.size) : Dn w0 (w0.alloc o) b g nd dp := by
  obtain ⟨hg, arr, h1, h2⟩ := h
  exact ⟨World.grownBy_alloc _ _ _, arr, (Below.heap_alloc w0 o b hb).trans h1, h2⟩
theorem Dn.lt {w0 w : World} {b : Nat} {g : Nat → Int} {nd dp : Int} (h : Dn w0 w b g nd dp) : b < w.heap.size := by
  obtain ⟨_, arr, h1, _⟩ := h
  exact (Array.getElem?_eq_some_iff.1 h1).1
theorem div_succ (V i : Nat) : V / 10 ^ (i + 1) = V / 10 ^ i / 10 := by rw [Nat.pow_succ, Nat.div_div_eq_div_mul]
theorem lt_20 (V i : Nat) (h : 0 < V / 10 ^ i) (h1 : V < 18446744073709551616) : i < 20 := by
  rcases Nat.lt_or_ge i 20 with a | a
  · exact a
  · have h2 : 10 ^ 20 ≤ 10 ^ i := Nat.pow_le_pow_right (by decide) a
    have h3 : V < 10 ^ i := by omega
    rw [Nat.div_eq_of_lt h3] at h
    omega
def Rev (V i : Nat) (f : Nat → Int) : Prop := ∀ j, j < i → f j = 48 + ((V / 10 ^ j % 10 : Nat) : Int)
theorem Rev.next {V i : Nat} {f : Nat → Int} (h : Rev V i f) : Rev V (i + 1) (fun j => if j = i then 48 + ((V / 10 ^ i % 10 : Nat) : Int) else f j) := fun j hj => by
  by_cases e : j = i
  · subst e; simp
  · simp only [if_neg e]; exact h j (by omega)
set_option maxHeartbeats 1000000 in
theorem assign_c (b V : Nat) (w : World) (h : Dn w w b (fun _ => 0) 0 0) (h0 : 0 < V) (h1 : V < 18446744073709551616) :
    Calls Tryz.prog 64 #[.pointer (some ⟨b, 0, none⟩), .int .u64 V] w fun e w' => e = .returned (.tuple #[]) ∧ ∃ (g : Nat → Int) (n k U : Nat), k ≤ n ∧ n ≤ 20 ∧ Dn w w' b g k n ∧ Dg g k U ∧ V = U * 10 ^ (n - k) ∧ U % 10 ≠ 0 ∧ U < 10 ^ k ∧ 10 ^ (n - 1) ≤ V := by
  have HD := Lib.hid h
  have hlt := h.lt
  clear h
  go_enter Tryz.func64, Tryz.ntmps64
  go_wp2_with fail
  have HB : Hid (Dn w (w.alloc (.cells (Array.replicate 24 (.int .u8 0)) 92)) b (fun _ => 0) 0 0 ∧ Bf (w.alloc (.cells (Array.replicate 24 (.int .u8 0)) 92)) w.heap.size (fun _ => 0)) :=
    Lib.hid ⟨HD.out.laid _ hlt, _, heap_alloc_new w (.cells (Array.replicate 24 (.int .u8 0)) 92), by simp, fun i hi => by rw [Array.getElem?_replicate, if_pos hi]⟩
  go_loopw [1, 5] (fun v1 v5 wr => ∃ i : Nat, i ≤ 20 ∧ v1 = .int .u64 (V / 10 ^ i : Nat) ∧ v5 = .int .i64 i ∧ Hid (10 ^ (i - 1) ≤ V ∧ Dn w wr b (fun _ => 0) 0 0 ∧ ∃ f, Bf wr w.heap.size f ∧ Rev V i f)) (fun v1 _ _ => (intOf v1).toNat)
  case atStart => exact ⟨0, by omega, by simp, rfl, Lib.hid ⟨by simp only [Nat.zero_sub, Nat.pow_zero]; omega, HB.out.1, _, HB.out.2, fun j hj => by omega⟩⟩
  case round =>
    obtain ⟨i, hi, rfl, rfl, HR⟩ := hrel
    obtain ⟨x, hx⟩ : ∃ x, x = V / 10 ^ i := ⟨_, rfl⟩
    have hxV : x ≤ V := hx ▸ Nat.div_le_self _ _
    have HX := Lib.hid hx
    rw [← hx]
    by_cases hp : 0 < x
    · have hi20 : i < 20 := lt_20 V i (hx ▸ hp) h1
      clear hx
      obtain ⟨_, hDn, f, hBf, hf⟩ := HR.out
      clear HR
      have fz := hBf.fz i
      have cd := hBf.cd i (by omega)
      have HN : Hid (10 ^ (i + 1 - 1) ≤ V ∧ Dn w (wr.setCell ⟨w.heap.size, i, none⟩ (.int .u8 ((x : Int) - 10 * ((x : Int) / 10) + 48))) b (fun _ => 0) 0 0 ∧ ∃ f, Bf (wr.setCell ⟨w.heap.size, i, none⟩ (.int .u8 ((x : Int) - 10 * ((x : Int) / 10) + 48))) w.heap.size f ∧ Rev V (i + 1) f) := Lib.hid (by
        refine ⟨?_, hDn.far _ _ hlt (Nat.le_refl _), _, hBf.set i _ (by omega), ?_⟩
        · rw [HX.out] at hp
          exact (Nat.div_pos_iff.1 hp).2
        · rw [show (x : Int) - 10 * ((x : Int) / 10) + 48 = 48 + ((x % 10 : Nat) : Int) from by omega, HX.out]; exact hf.next)
      clear hDn hBf hf
      go_wp2_with fail
      go_roundw
      case rel => exact ⟨i + 1, by omega, by rw [div_succ, ← HX.out]; rfl, by go_num, HN⟩
      case measure => simp [intOf]; omega
    · obtain rfl : x = 0 := by omega
      clear hx
      obtain ⟨hlow, hDn, f, hBf, hf⟩ := HR.out
      clear HR
      have hi1 : 1 ≤ i := by
        rcases Nat.eq_zero_or_pos i with e | e
        · subst e
          have := HX.out
          simp at this
          omega
        · exact e
      have hV : V < 10 ^ i := by
        have := HX.out.symm
        rcases Nat.div_eq_zero_iff.1 this with e | e
        · have : 0 < 10 ^ i := Nat.pow_pos (by decide)
          omega
        · exact e
      have f0 := hDn.fz 800
      have c0 := hDn.cn
      have HN : Hid (Dn w (wr.setCell ⟨b, 800, none⟩ (.int .i64 0)) b (fun _ => 0) 0 0 ∧ Bf (wr.setCell ⟨b, 800, none⟩ (.int .i64 0)) w.heap.size f) := Lib.hid ⟨hDn.setn 0, hBf.far _ _ (by simp; omega)⟩
      have HL := Lib.hid hlow
      have HV := Lib.hid hV
      have HF := Lib.hid hf
      clear hDn hBf hf hlow hV
      go_wp2_with fail
      go_loopw [5] (fun v5 wr => ∃ m : Nat, m ≤ i ∧ v5 = .int .i64 ((i : Int) - 1 - m) ∧ Hid (∃ g, Dn w wr b g m 0 ∧ Bf wr w.heap.size f ∧ ∀ j, j < m → g j = 48 + ((V / 10 ^ (i - 1 - j) % 10 : Nat) : Int))) (fun v5 _ => (intOf v5 + 1).toNat)
      case atStart => exact ⟨0, by omega, by go_num, Lib.hid ⟨_, HN.out.1, HN.out.2, fun j hj => by omega⟩⟩
      case round =>
        clear HN
        obtain ⟨m, hm, rfl, HR⟩ := hrel
        obtain ⟨g, hDn, hBf, hg⟩ := HR.out
        clear HR
        by_cases hp : m < i
        · obtain ⟨q, rfl⟩ : ∃ q, i = m + 1 + q := ⟨i - m - 1, by omega⟩
          rw [show ((m + 1 + q : Nat) : Int) - 1 - m = q from by omega]
          have c1 := hDn.cn
          have c2 := hBf.cd q (by omega)
          have c3 := hDn.cd m (by omega)
          have f1 := hDn.fz 800
          have f2 := hDn.fz m
          have hfq := HF.out q (by omega)
          have KN : Hid (∃ g', Dn w ((wr.drew.setCell ⟨b, m, none⟩ (.int .u8 (f q))).setCell ⟨b, 800, none⟩ (.int .i64 ((m : Int) + 1))) b g' (m + 1 : Nat) 0 ∧ Bf ((wr.drew.setCell ⟨b, m, none⟩ (.int .u8 (f q))).setCell ⟨b, 800, none⟩ (.int .i64 ((m : Int) + 1))) w.heap.size f ∧ ∀ j, j < m + 1 → g' j = 48 + ((V / 10 ^ (m + 1 + q - 1 - j) % 10 : Nat) : Int)) := Lib.hid (by
            refine ⟨_, (hDn.drew.setd m (f q) (by omega)).setn _, (Bf.far (Bf.far (w := wr.drew) hBf _ _ (by simp; omega)) _ _ (by simp; omega)), fun j hj => ?_⟩
            by_cases e : j = m
            · subst e
              simp only [if_true]
              rw [hfq, show j + 1 + q - 1 - j = q from by omega]
            · simp only [if_neg e]; exact hg j (by omega))
          clear hDn hBf hg hfq HL HV HF HX
          go_wp2_with fail
          go_region
          go_wp2_with fail
          go_roundw
          case rel => exact ⟨m + 1, by omega, by go_num, KN⟩
          case measure => simp [intOf] <;> omega
        · obtain rfl : m = i := by omega
          have c0 := hDn.cn
          have c1 := hDn.cp
          have f1 := hDn.fz 801
          have KN : Hid (Calls Tryz.prog 83 #[.pointer (some ⟨b, 0, none⟩)] (wr.setCell ⟨b, 801, none⟩ (.int .i64 (m : Int))) fun e w' => e = .returned (.tuple #[]) ∧ ∃ (g : Nat → Int) (n k U : Nat), k ≤ n ∧ n ≤ 20 ∧ Dn w w' b g k n ∧ Dg g k U ∧ V = U * 10 ^ (n - k) ∧ U % 10 ≠ 0 ∧ U < 10 ^ k ∧ 10 ^ (n - 1) ≤ V) := Lib.hid (by
            have hs := hDn.setp (m : Int)
            refine (trim_c b m V g m _ hs.here hg h0 HV.out (by omega)).mono ?_
            rintro e w' ⟨rfl, k, U, h2, h3, h4, h5, h6, h7⟩
            exact ⟨rfl, g, m, k, U, h2, hi, hs.join h3, h4, h5, h6, h7, HL.out⟩)
          clear hDn hBf hg HL HV HF HX
          go_wp2_with fail
          refine KN.out.mono ?_
          rintro e w' ⟨rfl, h⟩
          have HH := Lib.hid h
          clear h
          go_wp2_with fail
          go_returns
          exact ⟨rfl, HH.out⟩
end Go.Proofs.YtdbjoiojiibdgaaGreatDoor
namespace Go.Proofs.YtdbjoiojiibdgaaGreatDoor
open Go.RowKit
theorem pow_cut (i n : Nat) (h : i < n) : 10 ^ n = 10 ^ (n - 1 - i) * 10 ^ (i + 1) := by
  rw [← Nat.pow_add, show n - 1 - i + (i + 1) = n from by omega]
theorem ten_pos (n : Nat) : 0 < 10 ^ n := Nat.pow_pos (by decide)
theorem lt_of_div {V C X Y p q r : Nat} (hp : 0 < p) (hq : 0 < q) (hr : 0 < r) (hX : V / p = X) (hY : C / q = Y) (h : X < Y) : V * (q * r) < C * (p * r) := by
  have h1 : V < Y * p := by
    have := Nat.lt_mul_div_succ V hp
    rw [hX, Nat.mul_comm] at this
    exact Nat.lt_of_lt_of_le this (Nat.mul_le_mul_right p h)
  have h2 : Y * q ≤ C := by rw [← hY]; exact Nat.div_mul_le_self C q
  have h3 : V * q < Y * p * q := Nat.mul_lt_mul_of_pos_right h1 hq
  have h4 : Y * p * q ≤ C * p := by rw [Nat.mul_right_comm]; exact Nat.mul_le_mul_right p h2
  have h5 : V * q < C * p := Nat.lt_of_lt_of_le h3 h4
  rw [← Nat.mul_assoc, ← Nat.mul_assoc]
  exact Nat.mul_lt_mul_of_pos_right h5 hr
theorem div_next (V i n : Nat) (h : i < n) : V / 10 ^ (n - i) = V / 10 ^ (n - 1 - i) / 10 := by
  rw [Nat.div_div_eq_div_mul, show n - i = (n - 1 - i) + 1 from by omega, Nat.pow_succ]
def Same (V n C l i : Nat) : Prop := V / 10 ^ (n - i) = C / 10 ^ (l - i)
theorem Same.next {V n C l i : Nat} (h : Same V n C l i) (hn : i < n) (hl : i < l) (hd : V / 10 ^ (n - 1 - i) % 10 = C / 10 ^ (l - 1 - i) % 10) : Same V n C l (i + 1) := by
  unfold Same at h ⊢
  rw [div_next V i n hn, div_next C i l hl] at h
  rw [show n - (i + 1) = n - 1 - i from by omega, show l - (i + 1) = l - 1 - i from by omega]
  omega
theorem Same.less {V n C l i : Nat} (h : Same V n C l i) (hn : i < n) (hl : i < l) (hd : V / 10 ^ (n - 1 - i) % 10 < C / 10 ^ (l - 1 - i) % 10) : V * 10 ^ l < C * 10 ^ n := by
  unfold Same at h
  rw [div_next V i n hn, div_next C i l hl] at h
  rw [pow_cut i n hn, pow_cut i l hl]
  exact lt_of_div (ten_pos _) (ten_pos _) (ten_pos _) rfl rfl (by omega)
theorem Same.more {V n C l i : Nat} (h : Same V n C l i) (hn : i < n) (hl : i < l) (hd : C / 10 ^ (l - 1 - i) % 10 < V / 10 ^ (n - 1 - i) % 10) : ¬ V * 10 ^ l < C * 10 ^ n := by
  unfold Same at h
  rw [div_next V i n hn, div_next C i l hl] at h
  rw [pow_cut i n hn, pow_cut i l hl]
  have := lt_of_div (V := C) (C := V) (ten_pos (l - 1 - i)) (ten_pos (n - 1 - i)) (ten_pos (i + 1)) rfl rfl (by omega)
  omega
theorem Same.done {V n C l : Nat} (h : Same V n C l l) (hn : l ≤ n) : ¬ V * 10 ^ l < C * 10 ^ n := by
  unfold Same at h
  rw [Nat.sub_self, Nat.pow_zero, Nat.div_one] at h
  have h1 : C * 10 ^ (n - l) ≤ V := by rw [← h]; exact Nat.div_mul_le_self _ _
  have h2 : C * 10 ^ n ≤ V * 10 ^ l := by
    have := Nat.mul_le_mul_right (10 ^ l) h1
    rwa [Nat.mul_assoc, ← Nat.pow_add, show n - l + l = n from by omega] at this
  omega
theorem Same.short {V n C l : Nat} (h : Same V n C l n) (hn : n < l) (hC : C % 10 ≠ 0) : V * 10 ^ l < C * 10 ^ n := by
  unfold Same at h
  rw [Nat.sub_self, Nat.pow_zero, Nat.div_one] at h
  have h1 : V * 10 ^ (l - n) ≤ C := by rw [h]; exact Nat.div_mul_le_self _ _
  have h2 : V * 10 ^ (l - n) ≠ C := fun e => by
    rw [← e, show l - n = (l - n - 1) + 1 from by omega, Nat.pow_succ, ← Nat.mul_assoc] at hC
    omega
  have h3 : V * 10 ^ (l - n) < C := by omega
  have h4 := Nat.mul_lt_mul_of_pos_right h3 (ten_pos n)
  rwa [Nat.mul_assoc, ← Nat.pow_add, show l - n + n = l from by omega] at h4
def Cut (s : ByteArray) (C l : Nat) : Prop := s.size = l ∧ ∀ j (h : j < s.size), (s[j]'h).toNat = 48 + C / 10 ^ (l - 1 - j) % 10
set_option maxRecDepth 100000 in
theorem pre_c (b n V l C cap : Nat) (g : Nat → Int) (s : ByteArray) (w : World) (hc : ∀ j, j < n → w.cell? ⟨b, j, none⟩ = some (.int .u8 (g j))) (hg : Dg g n V) (hs : Cut s C l) (hn : n ≤ 800) (hl : l ≤ 60) (hC : C % 10 ≠ 0) (hV : V < 10 ^ n) (hCl : C < 10 ^ l) :
    Calls Tryz.prog 94 #[.slice (some ⟨b, 0, none⟩) n cap, .string s] w fun e w' => e = .returned (.bool (decide (V * 10 ^ l < C * 10 ^ n))) ∧ ∃ m, w' = w.drewN m := by
  obtain ⟨hs1, hs2⟩ := hs
  subst hs1
  have HV := Lib.hid hV
  have HL := Lib.hid hCl
  have HC := Lib.hid hc
  have HG := Lib.hid hg
  have H2 := Lib.hid hs2
  have H3 := Lib.hid hC
  clear hV hCl hc hg hs2 hC
  go_enter Tryz.func94, Tryz.ntmps94
  go_wp2_with fail
  go_loopw [5] (fun v5 wr => ∃ i : Nat, i ≤ s.size ∧ i ≤ n ∧ v5 = .int .i64 i ∧ Hid (Same V n C s.size i) ∧ ∃ m, wr = w.drewN m) (fun v5 _ => s.size - (intOf v5).toNat)
  case atStart => exact ⟨0, Nat.zero_le _, Nat.zero_le _, rfl, Lib.hid (by unfold Same; rw [Nat.sub_zero, Nat.sub_zero, Nat.div_eq_of_lt HV.out, Nat.div_eq_of_lt HL.out]), 0, rfl⟩
  case round =>
    obtain ⟨i, h1, h2, rfl, HS, m, rfl⟩ := hrel
    by_cases hi : i < s.size
    · by_cases hin : i < n
      · have c0 := HC.out i hin
        have e1 := H2.out i hi
        have e2 := HG.out i hin
        obtain ⟨d, hd⟩ : ∃ d, d = V / 10 ^ (n - 1 - i) % 10 := ⟨_, rfl⟩
        obtain ⟨t, ht⟩ : ∃ t, t = C / 10 ^ (s.size - 1 - i) % 10 := ⟨_, rfl⟩
        rw [← hd] at e2
        rw [← ht] at e1
        rw [e2] at c0
        by_cases hdt : d = t
        · have HN : Hid (Same V n C s.size (i + 1)) := Lib.hid (HS.out.next hin hi (by rw [← hd, ← ht, hdt]))
          clear hd ht HS
          subst hdt
          go_wp2_with fail
          go_quiet (fail)
          go_wp2_with fail
          go_roundw
          case rel => exact ⟨i + 1, by omega, by omega, by go_num, HN, _, rfl⟩
          case measure => simp [intOf]; omega
        · have HR : Hid (decide (V * 10 ^ s.size < C * 10 ^ n) = decide (d < t)) := Lib.hid (by
            rcases Nat.lt_or_ge d t with h | h
            · rw [decide_eq_true (HS.out.less hin hi (by rw [← hd, ← ht]; exact h)), decide_eq_true h]
            · rw [decide_eq_false (HS.out.more hin hi (by rw [← hd, ← ht]; omega)), decide_eq_false (by omega)])
          have hne : ((48 + (d : Int)) != (48 + (t : Int))) = true := by simp; omega
          clear hd ht HS hdt
          go_wp2_with fail
          go_quiet (fail)
          go_wp2_with fail
          go_quiet (fail)
          go_wp2_with fail
          go_ret
          exact ⟨by rw [HR.out]; rfl, _, by rw [World.drewN_drewN, World.drewN_drewN]⟩
      · have HR : Hid (decide (V * 10 ^ s.size < C * 10 ^ n) = true) := Lib.hid (by
          obtain rfl : i = n := by omega
          exact decide_eq_true (HS.out.short hi H3.out))
        clear HS
        go_wp2_with fail
        go_ret
        exact ⟨by rw [HR.out]; rfl, m, rfl⟩
    · have HR : Hid (decide (V * 10 ^ s.size < C * 10 ^ n) = false) := Lib.hid (by
        obtain rfl : i = s.size := by omega
        exact decide_eq_false (HS.out.done h2))
      clear HS
      go_wp2_with fail
      go_ret
      exact ⟨by rw [HR.out]; rfl, m, rfl⟩
end Go.Proofs.YtdbjoiojiibdgaaGreatDoor
namespace Go.Proofs.YtdbjoiojiibdgaaGreatDoor
open Go.RowKit
def cheat (k : Nat) : Nat × List UInt8 := Pinned.cheatRows.getD k (0, [])
def cheatOk (k : Nat) : Bool :=
  let x := cheat k
  decide (1 ≤ x.1) && decide (x.2.length + x.1 = k + 1) && decide (2 ^ k < 10 ^ x.1) && decide (10 ^ (x.1 - 1) ≤ 2 ^ k) && decide (x.2.length ≤ 60) && decide (x.1 ≤ 19) &&
    (List.range x.2.length).all fun j => (x.2.getD j 0).toNat == 48 + 5 ^ k / 10 ^ (x.2.length - 1 - j) % 10
theorem cheat_all : ((List.range 61).all fun k => k == 0 || cheatOk k) = true := by decide +kernel
theorem cheat_ok (k : Nat) (h : 1 ≤ k) (h1 : k ≤ 60) : cheatOk k = true := by
  have := List.all_eq_true.1 cheat_all k (List.mem_range.2 (by omega))
  simp only [Bool.or_eq_true, beq_iff_eq] at this
  rcases this with e | e
  · omega
  · exact e
def Cheats (w : World) : Prop := ∃ a : Addr, w.cell? ⟨5, 0, none⟩ = some (.slice (some a) 61 61) ∧ ∀ k, 1 ≤ k → k < 61 → w.cell? ⟨a.block, a.off + k * 2, none⟩ = some (.int .i64 (cheat k).1) ∧ w.cell? ⟨a.block, a.off + k * 2 + 1, none⟩ = some (.string ⟨(cheat k).2.toArray⟩)
theorem cut_of (k : Nat) (h : 1 ≤ k) (h1 : k ≤ 60) : Cut ⟨(cheat k).2.toArray⟩ (5 ^ k) (k + 1 - (cheat k).1) ∧ 1 ≤ (cheat k).1 ∧ (cheat k).1 ≤ 19 ∧ 2 ^ k < 10 ^ (cheat k).1 ∧ 10 ^ ((cheat k).1 - 1) ≤ 2 ^ k ∧ (cheat k).1 ≤ k + 1 ∧ k + 1 - (cheat k).1 ≤ 60 := by
  have := cheat_ok k h h1
  unfold cheatOk at this
  simp only [Bool.and_eq_true, decide_eq_true_eq, List.all_eq_true, List.mem_range, beq_iff_eq] at this
  obtain ⟨⟨⟨⟨⟨⟨a1, a2⟩, a3⟩, a4⟩, a5⟩, a6⟩, a7⟩ := this
  refine ⟨⟨?_, fun j hj => ?_⟩, a1, a6, a3, a4, by omega, by omega⟩
  · show (cheat k).2.toArray.size = _
    rw [List.size_toArray]; omega
  · have hj' : j < (cheat k).2.length := hj
    have := a7 j hj'
    rw [show k + 1 - (cheat k).1 - 1 - j = (cheat k).2.length - 1 - j from by omega, ← this]
    simp only [List.getD, List.getElem?_eq_getElem hj', Option.getD_some]
    rfl
theorem five_mod (k : Nat) (h : 1 ≤ k) : 5 ^ k % 10 ≠ 0 := by
  obtain ⟨m, rfl⟩ : ∃ m, k = m + 1 := ⟨k - 1, by omega⟩
  have h1 : 5 ^ (m + 1) % 2 = 1 := by
    rw [Nat.pow_mod]; simp
  omega
theorem five_lt (k d : Nat) (h1 : 1 ≤ d) (h2 : d ≤ k + 1) (h : 10 ^ (d - 1) ≤ 2 ^ k) : 5 ^ k ≤ 10 ^ (k + 1 - d) := by
  have e : 2 ^ k * 5 ^ k = 10 ^ (d - 1) * 10 ^ (k + 1 - d) := by
    rw [← Nat.mul_pow, ← Nat.pow_add, show d - 1 + (k + 1 - d) = k from by omega]
  rcases Nat.lt_or_ge (10 ^ (k + 1 - d)) (5 ^ k) with a | a
  · have := Nat.mul_lt_mul_of_le_of_lt h a (by have := ten_pos (d-1); omega)
    omega
  · exact a
theorem delta_law (V n k d : Nat) (hk : 1 ≤ k) (h1 : 1 ≤ d) (h2 : d ≤ k + 1) (hV : V < 10 ^ n) (hV0 : 10 ^ (n - 1) ≤ V) (hn : 1 ≤ n) (hl : 10 ^ (d - 1) ≤ 2 ^ k) (hu : 2 ^ k < 10 ^ d) :
    (V * 10 ^ (k + 1 - d) < 5 ^ k * 10 ^ n → 10 ^ (n + (d - 1) - 1) ≤ V * 2 ^ k ∧ V * 2 ^ k < 10 ^ (n + (d - 1))) ∧ (¬ V * 10 ^ (k + 1 - d) < 5 ^ k * 10 ^ n → 10 ^ (n + d - 1) ≤ V * 2 ^ k ∧ V * 2 ^ k < 10 ^ (n + d)) := by
  have e : 2 ^ k * 5 ^ k = 10 ^ (d - 1) * 10 ^ (k + 1 - d) := by
    rw [← Nat.mul_pow, ← Nat.pow_add, show d - 1 + (k + 1 - d) = k from by omega]
  have p2 : 0 < 2 ^ k := Nat.pow_pos (by decide)
  have pp := ten_pos (k + 1 - d)
  have key : V * 10 ^ (k + 1 - d) < 5 ^ k * 10 ^ n ↔ V * 2 ^ k < 10 ^ (n + (d - 1)) := by
    have a1 : V * 10 ^ (k + 1 - d) < 5 ^ k * 10 ^ n ↔ V * 10 ^ (k + 1 - d) * 2 ^ k < 5 ^ k * 10 ^ n * 2 ^ k := (Nat.mul_lt_mul_right p2).symm
    have a2 : V * 2 ^ k < 10 ^ (n + (d - 1)) ↔ V * 2 ^ k * 10 ^ (k + 1 - d) < 10 ^ (n + (d - 1)) * 10 ^ (k + 1 - d) := (Nat.mul_lt_mul_right pp).symm
    have e1 : V * 10 ^ (k + 1 - d) * 2 ^ k = V * 2 ^ k * 10 ^ (k + 1 - d) := Nat.mul_right_comm _ _ _
    have e2 : 5 ^ k * 10 ^ n * 2 ^ k = 10 ^ (n + (d - 1)) * 10 ^ (k + 1 - d) := by
      rw [Nat.mul_right_comm, Nat.mul_comm (5 ^ k), e, Nat.pow_add, Nat.mul_right_comm, Nat.mul_comm (10 ^ (d - 1)) (10 ^ n)]
    rw [a1, a2, e1, e2]
  refine ⟨fun h => ⟨?_, key.1 h⟩, fun h => ⟨?_, ?_⟩⟩
  · rw [show n + (d - 1) - 1 = (n - 1) + (d - 1) from by omega, Nat.pow_add]
    exact Nat.mul_le_mul hV0 hl
  · rw [show n + d - 1 = n + (d - 1) from by omega]
    exact Nat.le_of_not_lt (fun c => h (key.2 c))
  · rw [Nat.pow_add]
    exact Nat.mul_lt_mul'' hV hu
end Go.Proofs.YtdbjoiojiibdgaaGreatDoor
namespace Go.Proofs.YtdbjoiojiibdgaaGreatDoor
open Go.RowKit
def Nm (w0 w : World) (b k dp U : Nat) : Prop := ∃ g, Dn w0 w b g k dp ∧ Dg g k U ∧ U % 10 ≠ 0 ∧ U < 10 ^ k ∧ 10 ^ (k - 1) ≤ U
def carry (V k m : Nat) : Nat := V % 10 ^ m * 2 ^ k / 10 ^ m
theorem carry_lt (V k m : Nat) : carry V k m < 2 ^ k := by
  unfold carry
  rw [Nat.div_lt_iff_lt_mul (ten_pos m), Nat.mul_comm]
  exact Nat.mul_lt_mul_of_pos_left (Nat.mod_lt _ (ten_pos m)) (Nat.pow_pos (by decide))
theorem mod_next (V m : Nat) : V % 10 ^ (m + 1) = V / 10 ^ m % 10 * 10 ^ m + V % 10 ^ m := by
  rw [Nat.pow_succ, Nat.mod_mul, Nat.add_comm, Nat.mul_comm]
theorem carry_step (V k m : Nat) : V % 10 ^ (m + 1) * 2 ^ k / 10 ^ m = V / 10 ^ m % 10 * 2 ^ k + carry V k m := by
  rw [mod_next, Nat.add_mul, Nat.mul_right_comm, Nat.add_comm, Nat.add_mul_div_right _ _ (ten_pos m), Nat.add_comm]
  rfl
theorem carry_succ (V k m : Nat) : carry V k (m + 1) = (carry V k m + V / 10 ^ m % 10 * 2 ^ k) / 10 := by
  rw [Nat.add_comm (carry V k m), ← carry_step, Nat.div_div_eq_div_mul, ← Nat.pow_succ]
  rfl
theorem carry_digit (V k m : Nat) : (carry V k m + V / 10 ^ m % 10 * 2 ^ k) % 10 = V * 2 ^ k / 10 ^ m % 10 := by
  have h : V * 2 ^ k / 10 ^ m = V / 10 ^ m * 2 ^ k + carry V k m := by
    have e : V = V / 10 ^ m * 10 ^ m + V % 10 ^ m := by
      have := Nat.div_add_mod V (10 ^ m)
      rw [Nat.mul_comm] at this
      exact this.symm
    exact calc V * 2 ^ k / 10 ^ m = (V / 10 ^ m * 10 ^ m + V % 10 ^ m) * 2 ^ k / 10 ^ m := by rw [← e]
      _ = (V / 10 ^ m * 2 ^ k * 10 ^ m + V % 10 ^ m * 2 ^ k) / 10 ^ m := by rw [Nat.add_mul, Nat.mul_right_comm]
      _ = V / 10 ^ m * 2 ^ k + carry V k m := by rw [Nat.add_comm, Nat.add_mul_div_right _ _ (ten_pos m), Nat.add_comm]; rfl
  rw [h, Nat.add_mod, Nat.mod_mul_mod, ← Nat.add_mod, Nat.add_comm]
def Mid (g : Nat → Int) (V n δ k m : Nat) : Prop := (∀ j, j < n - m → g j = 48 + ((V / 10 ^ (n - 1 - j) % 10 : Nat) : Int)) ∧ ∀ t, t < m → g (n + δ - 1 - t) = 48 + ((V * 2 ^ k / 10 ^ t % 10 : Nat) : Int)
theorem Mid.next {g : Nat → Int} {V n δ k m : Nat} (h : Mid g V n δ k m) (hm : m < n + δ) (x : Int) (hx : x = 48 + ((V * 2 ^ k / 10 ^ m % 10 : Nat) : Int)) : Mid (fun j => if j = n + δ - 1 - m then x else g j) V n δ k (m + 1) := by
  refine ⟨fun j hj => ?_, fun t ht => ?_⟩
  · simp only [if_neg (show ¬ j = n + δ - 1 - m by omega)]
    exact h.1 j (by omega)
  · by_cases e : t = m
    · subst e; simp only [if_true]; exact hx
    · simp only [if_neg (show ¬ n + δ - 1 - t = n + δ - 1 - m by omega)]
      exact h.2 t (by omega)
theorem Mid.done {g : Nat → Int} {V n δ k : Nat} (h : Mid g V n δ k (n + δ)) : Dg g (n + δ) (V * 2 ^ k) := fun j hj => by
  have := h.2 (n + δ - 1 - j) (by omega)
  rwa [show n + δ - 1 - (n + δ - 1 - j) = j from by omega] at this
theorem low_of {Z n U k : Nat} (h : 10 ^ (n - 1) ≤ Z) (e : Z = U * 10 ^ (n - k)) (hk : k ≤ n) : 10 ^ (k - 1) ≤ U := by
  rcases Nat.eq_zero_or_pos k with a | a
  · subst a
    rw [Nat.zero_sub, Nat.pow_zero]
    rcases Nat.eq_zero_or_pos U with b | b
    · subst b
      have := ten_pos (n - 1)
      omega
    · exact b
  · rw [e, show n - 1 = (k - 1) + (n - k) from by omega, Nat.pow_add] at h
    exact Nat.le_of_mul_le_mul_right h (ten_pos _)
theorem slice_d (b n : Nat) (hn : n ≤ 800) (w : World) : (Instr.sliceAt 95 (.pointer (some ⟨b, 0, none⟩)) (some (.int .i64 0)) (some (.int .i64 n)) none).run Tryz.prog w = .ok (.slice (some ⟨b, 0, none⟩) n 800) w := by
  have ha : Tryz.prog.arrayLen 95 = 800 := by kernel_rfl
  rw [run_sliceAt_array_lh w 95 ⟨b, 0, none⟩ (by kernel_rfl) .i64 .i64 0 n (by omega) (by omega) (by rw [ha]; omega), show Tryz.prog.elem 95 = 5 from by kernel_rfl, ha, show (sizeOf 5).run Tryz.prog w = .ok 1 w from Tryz.sizeOf5 w]
  simp [slicedAt, Addr.add]
set_option maxHeartbeats 4000000 in
set_option maxRecDepth 100000 in
theorem left_c (b s n dp V : Nat) (w : World) (h : Nm w w b n dp V) (hs : 1 ≤ s) (hs1 : s ≤ 60) (hn : n ≤ 400) (hp : dp ≤ 1000) (hC : Cheats w) :
    Calls Tryz.prog 84 #[.pointer (some ⟨b, 0, none⟩), .int .u64 s] w fun e w' => e = .returned (.tuple #[]) ∧ ∃ δ k U : Nat, δ ≤ 19 ∧ Nm w w' b k (dp + δ) U ∧ k ≤ n + δ ∧ V * 2 ^ s = U * 10 ^ (n + δ - k) := by
  obtain ⟨g, hD, hG, hV10, hV, hV0⟩ := h
  obtain ⟨hcut, hd1, hd19, hu, hl, hdk, hl60⟩ := cut_of s hs hs1
  have hn1 : 1 ≤ n := by
    rcases Nat.eq_zero_or_pos n with e | e
    · subst e
      have : V = 0 := by simpa using hV
      subst this
      omega
    · exact e
  obtain ⟨d, hd⟩ : ∃ d, d = (cheat s).1 := ⟨_, rfl⟩
  obtain ⟨ct, hct⟩ : ∃ ct : ByteArray, ct = ⟨(cheat s).2.toArray⟩ := ⟨_, rfl⟩
  obtain ⟨⟨ab, ao, asp⟩, ct0, htb⟩ := hC
  obtain ⟨ct1, ct2⟩ := htb s hs (by omega)
  dsimp only at ct1 ct2
  have hadd : (⟨ab, ao, asp⟩ : Addr).add (s * 2) = ⟨ab, ao + s * 2, none⟩ := by unfold Addr.add; rw [if_neg (by omega)]
  rw [← hct] at ct2 hcut
  rw [← hd] at ct1 hcut hd1 hd19 hu hl hdk hl60
  clear htb hct hd
  obtain ⟨δ, hδ⟩ : ∃ δ, δ = if V * 10 ^ (s + 1 - d) < 5 ^ s * 10 ^ n then d - 1 else d := ⟨_, rfl⟩
  have hlaw := delta_law V n s d hs hd1 hdk hV hV0 hn1 hl hu
  have hδ19 : δ ≤ 19 := by rw [hδ]; split <;> omega
  have hZ : 10 ^ (n + δ - 1) ≤ V * 2 ^ s ∧ V * 2 ^ s < 10 ^ (n + δ) := by
    rw [hδ]
    split
    · next a => exact hlaw.1 a
    · next a => exact hlaw.2 a
  have HP : Hid (∀ m, Calls Tryz.prog 94 #[.slice (some ⟨b, 0, none⟩) n 800, .string ct] (w.drewN m) fun e w' => e = .returned (.bool (decide (V * 10 ^ (s + 1 - d) < 5 ^ s * 10 ^ n))) ∧ ∃ m', w' = (w.drewN m).drewN m') := Lib.hid (fun m =>
    pre_c b n V (s + 1 - d) (5 ^ s) 800 g ct (w.drewN m) (fun j hj => hD.cd j (by omega)) hG hcut (by omega) hl60 (five_mod s hs) hV (Nat.lt_of_le_of_ne (five_lt s d hd1 hdk hl) (fun e => by
      rcases Nat.eq_or_lt_of_le hdk with a | a
      · rw [a] at hl
        have : 10 ^ s ≤ 2 ^ s := by rwa [Nat.add_sub_cancel] at hl
        have h2 : 2 ^ s < 10 ^ s := Nat.pow_lt_pow_left (by decide) (by omega)
        omega
      · have := five_mod s hs
        rw [e, show s + 1 - d = (s - d) + 1 from by omega, Nat.pow_succ] at this
        omega)))
  have c0 := hD.cn
  have HD := Lib.hid hD
  have HG := Lib.hid hG
  have HZ := Lib.hid hZ
  have HA := Lib.hid hδ
  have HV := Lib.hid hV
  clear hcut hlaw hV10 hV hV0 hl hu hD hG hZ hδ
  obtain ⟨c, hc⟩ : ∃ c, c = decide (V * 10 ^ (s + 1 - d) < 5 ^ s * 10 ^ n) := ⟨_, rfl⟩
  rw [← hc] at HP
  have HC : Hid ((c = true → ((d : Int) - 1 = δ)) ∧ (c = false → (d : Int) = δ)) := Lib.hid (by
    rw [HA.out, hc]
    constructor
    · intro e; rw [if_pos (of_decide_eq_true e)]; omega
    · intro e; rw [if_neg (of_decide_eq_false e)])
  clear hc HA
  go_enter Tryz.func84, Tryz.ntmps84
  have hn8 : n ≤ 800 := by omega
  have hsl := slice_d b n hn8
  go_upto_region 1 with fail
  go_cut [30] (fun s30 wx => s30 = .bool c ∧ ∃ q, wx = w.drewN q)
  case first =>
    go_quiet ((go_at_call 94; exact Calls.quiet_of (HP.out _)))
    go_wp2_with fail
    go_meet
    case rel => exact ⟨rfl, _, rfl⟩
  case rest =>
    obtain ⟨rfl, q, rfl⟩ := hcut
    go_upto_if 30 with fail
    go_cut [4] (fun s4 wx => s4 = .int .i64 δ ∧ wx = w.drewN q)
    case first =>
      cases c
      · go_wp2_with fail
        go_meet
        case rel => exact ⟨by rw [HC.out.2 (by simp)], rfl⟩
      · go_wp2_with fail
        go_meet
        case rel => exact ⟨by rw [← HC.out.1 (by simp)], rfl⟩
    case rest =>
      obtain ⟨rfl, rfl⟩ := hcut
      go_wp2_with fail
      have HM : Hid (Dn w (w.drewN q) b g n dp ∧ Mid g V n δ s 0) := Lib.hid ⟨HD.out.drewN q, fun j hj => HG.out j (by omega), fun t ht => by omega⟩
      go_loopw [5, 6, 7] (fun v5 v6 v7 wr => ∃ m : Nat, m ≤ n ∧ v5 = .int .i64 ((n : Int) - m - 1) ∧ v6 = .int .i64 (((n + δ : Nat) : Int) - m) ∧ v7 = .int .u64 (carry V s m : Nat) ∧ Hid (∃ g', Dn w wr b g' n dp ∧ Mid g' V n δ s m)) (fun v5 _ _ _ => (intOf v5 + 1).toNat)
      case atStart => exact ⟨0, by omega, by go_num, by go_num, by simp [carry, Nat.mod_one], Lib.hid ⟨g, HM.out⟩⟩
      case round =>
        clear HM
        obtain ⟨m, hm, rfl, rfl, rfl, HR⟩ := hrel
        obtain ⟨g', hDn, hMid⟩ := HR.out
        clear HR
        by_cases hlt : m < n
        · obtain ⟨q', hq⟩ : ∃ q', n = m + 1 + q' := ⟨n - m - 1, by omega⟩
          obtain ⟨e, he⟩ : ∃ e, e = q' + δ := ⟨_, rfl⟩
          rw [show (n : Int) - m - 1 = (q' : Int) from by omega, show ((n + δ : Nat) : Int) - m = ((e + 1 : Nat) : Int) from by omega]
          have hcq := hDn.cd q' (by omega)
          have hce := hDn.cd e (by omega)
          have fe := hDn.fz e
          have hdq := hMid.1 q' (by omega)
          rw [show n - 1 - q' = m from by omega] at hdq
          rw [hdq] at hcq
          obtain ⟨dd, hdd⟩ : ∃ dd, dd = V / 10 ^ m % 10 := ⟨_, rfl⟩
          obtain ⟨cc, hcc⟩ : ∃ cc, cc = carry V s m := ⟨_, rfl⟩
          rw [← hdd] at hcq
          rw [← hcc]
          have hd9 : dd ≤ 9 := by omega
          have hc9 : cc < 2 ^ s := hcc ▸ carry_lt V s m
          have h60 : 2 ^ s ≤ 2 ^ 60 := Nat.pow_le_pow_right (by decide) hs1
          have hdm : dd * 2 ^ s ≤ 9 * 2 ^ 60 := Nat.mul_le_mul hd9 h60
          obtain ⟨sh, hsh⟩ : ∃ sh, sh = dd * 2 ^ s := ⟨_, rfl⟩
          obtain ⟨x, hx⟩ : ∃ x, x = cc + sh := ⟨_, rfl⟩
          have hx64 : x < 18446744073709551616 := by omega
          have e1 : IntKind.u64.wrap ((48 + (dd : Int) - 48) * 2 ^ s) = (sh : Int) := by
            have : (48 + (dd : Int) - 48) * 2 ^ s = ((sh : Nat) : Int) := by
              rw [hsh, Int.natCast_mul, Int.natCast_pow, show 48 + (dd : Int) - 48 = dd from by omega]; rfl
            rw [this, IntKind.wrap_u64]; omega
          have e2 : IntKind.u64.wrap ((cc : Int) + sh) = (x : Int) := by rw [hx, IntKind.wrap_u64]; omega
          have KN : Hid (carry V s (m + 1) = x / 10 ∧ ∃ g', Dn w (wr.setCell ⟨b, e, none⟩ (.int .u8 ((x : Int) - 10 * ((x : Int) / 10) + 48))) b g' n dp ∧ Mid g' V n δ s (m + 1)) := Lib.hid (by
            refine ⟨by rw [carry_succ, hx, hcc, hsh, hdd], _, hDn.setd e _ (by omega), ?_⟩
            have he' : e = n + δ - 1 - m := by omega
            rw [he']
            refine hMid.next (by omega) _ ?_
            rw [← carry_digit, ← hcc, ← hdd, ← hsh, ← hx]
            omega)
          have KE : Hid (n = m + 1 + q' ∧ e = q' + δ) := Lib.hid ⟨hq, he⟩
          have he8 : e < 800 := by omega
          have hq8 : q' < 800 := by omega
          clear hdq hDn hMid hdm h60 hc9 hsh hx hcc hdd hq he
          go_wp2_with fail
          obtain ⟨hq, he⟩ := KE.out
          go_roundw
          case rel => exact ⟨m + 1, by omega, congrArg (Value.int .i64) (by omega), congrArg (Value.int .i64) (by omega), by rw [KN.out.1]; rfl, Lib.hid KN.out.2⟩
          case measure => simp [intOf] <;> omega
        · obtain rfl : m = n := by omega
          have hcz : carry V s m = V * 2 ^ s / 10 ^ m := by
            unfold carry
            rw [Nat.mod_eq_of_lt HV.out]
          rw [hcz, show (m : Int) - m - 1 = -1 from by omega, show ((m + δ : Nat) : Int) - m = (δ : Int) from by omega]
          have HM : Hid (∃ g', Dn w wr b g' m dp ∧ Mid g' V m δ s m) := Lib.hid ⟨g', hDn, hMid⟩
          clear hDn hMid hcz hlt hm
          obtain ⟨Z, hZe⟩ : ∃ Z, Z = V * 2 ^ s := ⟨_, rfl⟩
          rw [← hZe]
          have HZE := Lib.hid hZe
          have HZ' : Hid (10 ^ (m + δ - 1) ≤ Z ∧ Z < 10 ^ (m + δ)) := Lib.hid (hZe ▸ HZ.out)
          clear hZe HZ
          obtain ⟨Y, hY⟩ : ∃ Y, Y = Z / 10 ^ m := ⟨_, rfl⟩
          rw [← hY]
          have HY := Lib.hid hY
          have hY64 : Y < 18446744073709551616 := by
            have h1 : Y = carry V s m := by
              rw [hY, HZE.out]; unfold carry; rw [Nat.mod_eq_of_lt HV.out]
            have h2 := carry_lt V s m
            have h3 : 2 ^ s ≤ 2 ^ 60 := Nat.pow_le_pow_right (by decide) hs1
            omega
          clear hY
          go_wp2_with fail
          go_loopw [6, 7] (fun v6 v7 wr => ∃ t : Nat, t ≤ δ ∧ v6 = .int .i64 ((δ : Int) - t) ∧ v7 = .int .u64 (Y / 10 ^ t : Nat) ∧ Hid (∃ g', Dn w wr b g' m dp ∧ Mid g' V m δ s (m + t))) (fun _ v7 _ => (intOf v7).toNat)
          case atStart => exact ⟨0, by omega, by go_num, by simp, HM⟩
          case round =>
            clear HM
            obtain ⟨t, ht, rfl, rfl, HR⟩ := hrel
            obtain ⟨g', hDn, hMid⟩ := HR.out
            clear HR
            have hYt : Y / 10 ^ t = Z / 10 ^ (m + t) := by rw [HY.out, Nat.div_div_eq_div_mul, ← Nat.pow_add]
            obtain ⟨x, hx⟩ : ∃ x, x = Y / 10 ^ t := ⟨_, rfl⟩
            have hxY : x ≤ Y := hx ▸ Nat.div_le_self _ _
            rw [← hx]
            by_cases hp0 : 0 < x
            · have htd : t < δ := by
                rcases Nat.lt_or_ge t δ with a | a
                · exact a
                · have : t = δ := by omega
                  rw [this] at hx hYt
                  rw [hYt, Nat.div_eq_of_lt HZ'.out.2] at hx
                  omega
              obtain ⟨e, he⟩ : ∃ e, δ = t + 1 + e := ⟨δ - t - 1, by omega⟩
              rw [show (δ : Int) - t = ((e + 1 : Nat) : Int) from by omega]
              have hce := hDn.cd e (by omega)
              have fe := hDn.fz e
              have KN : Hid (Y / 10 ^ (t + 1) = x / 10 ∧ ∃ g', Dn w (wr.setCell ⟨b, e, none⟩ (.int .u8 ((x : Int) - 10 * ((x : Int) / 10) + 48))) b g' m dp ∧ Mid g' V m δ s (m + (t + 1))) := Lib.hid (by
                refine ⟨by rw [div_succ, ← hx], _, hDn.setd e _ (by omega), ?_⟩
                have he' : e = m + δ - 1 - (m + t) := by omega
                rw [he']
                refine hMid.next (by omega) _ ?_
                rw [← HZE.out, ← hYt, ← hx]
                omega)
              have KE := Lib.hid he
              have he8 : e < 800 := by omega
              clear hDn hMid hYt hx he
              go_wp2_with fail
              obtain he := KE.out
              go_roundw
              case rel => exact ⟨t + 1, by omega, congrArg (Value.int .i64) (by omega), by rw [KN.out.1]; rfl, Lib.hid KN.out.2⟩
              case measure => simp [intOf] <;> omega
            · have htd : t = δ := by
                rcases Nat.lt_or_ge t δ with a | a
                · have h1 : 10 ^ (m + t) ≤ 10 ^ (m + δ - 1) := Nat.pow_le_pow_right (by decide) (by omega)
                  have h2 : 0 < Z / 10 ^ (m + t) := Nat.div_pos (Nat.le_trans h1 HZ'.out.1) (ten_pos _)
                  omega
                · omega
              subst htd
              have c1 := hDn.cn
              have c2 := hDn.cp
              have f1 := hDn.fz 800
              have f2 := hDn.fz 801
              have KN : Hid (Calls Tryz.prog 83 #[.pointer (some ⟨b, 0, none⟩)] ((wr.setCell ⟨b, 800, none⟩ (.int .i64 ((m : Int) + t))).setCell ⟨b, 801, none⟩ (.int .i64 ((dp : Int) + t))) fun e w' => e = .returned (.tuple #[]) ∧ ∃ δ k U : Nat, δ ≤ 19 ∧ Nm w w' b k (dp + δ) U ∧ k ≤ m + δ ∧ V * 2 ^ s = U * 10 ^ (m + δ - k)) := Lib.hid (by
                have hs := (hDn.setn ((m : Int) + t)).setp ((dp : Int) + t)
                have hs' : Dn w ((wr.setCell ⟨b, 800, none⟩ (.int .i64 ((m : Int) + t))).setCell ⟨b, 801, none⟩ (.int .i64 ((dp : Int) + t))) b g' (m + t : Nat) (dp + t : Nat) := hs
                refine (trim_c b (m + t) (V * 2 ^ s) g' _ _ hs'.here hMid.done (by rw [← HZE.out]; have := ten_pos (m + t - 1); have := HZ'.out.1; omega) (HZE.out ▸ HZ'.out.2) (by omega)).mono ?_
                rintro e w' ⟨rfl, k, U, h2, h3, h4, h5, h6, h7⟩
                refine ⟨rfl, t, k, U, hδ19, ⟨g', hs'.join h3, h4, h6, h7, ?_⟩, h2, h5⟩
                exact low_of (HZE.out ▸ HZ'.out.1) h5 h2)
              clear hDn hMid hYt hx
              go_wp2_with fail
              refine KN.out.mono ?_
              rintro e w' ⟨rfl, h⟩
              have HH := Lib.hid h
              clear h
              go_wp2_with fail
              go_returns
              exact ⟨rfl, HH.out⟩
end Go.Proofs.YtdbjoiojiibdgaaGreatDoor
namespace Go.Proofs.YtdbjoiojiibdgaaGreatDoor
open Go.RowKit
def Pr (V n r : Nat) : Nat := V * 10 ^ r / 10 ^ n
theorem Pr_le {V n r : Nat} (h : r ≤ n) : Pr V n r = V / 10 ^ (n - r) := by
  unfold Pr
  rw [show 10 ^ n = 10 ^ (n - r) * 10 ^ r from by rw [← Nat.pow_add, show n - r + r = n from by omega], Nat.mul_div_mul_right _ _ (ten_pos r)]
theorem Pr_ge {V n r : Nat} (h : n ≤ r) : Pr V n r = V * 10 ^ (r - n) := by
  unfold Pr
  rw [show 10 ^ r = 10 ^ (r - n) * 10 ^ n from by rw [← Nat.pow_add, show r - n + n = r from by omega], ← Nat.mul_assoc, Nat.mul_div_cancel _ (ten_pos n)]
theorem Pr_in {V n r : Nat} (h : r < n) : Pr V n (r + 1) = Pr V n r * 10 + V / 10 ^ (n - 1 - r) % 10 := by
  rw [Pr_le h, Pr_le (Nat.le_of_lt h), div_next V r n h, show n - (r + 1) = n - 1 - r from by omega]
  omega
theorem Pr_out {V n r : Nat} (h : n ≤ r) : Pr V n (r + 1) = Pr V n r * 10 := by
  rw [Pr_ge h, Pr_ge (by omega), show r + 1 - n = (r - n) + 1 from by omega, Nat.pow_succ, Nat.mul_assoc]
theorem Pr_mono {V n r t : Nat} (h : r ≤ t) : Pr V n r ≤ Pr V n t := Nat.div_le_div_right (Nat.mul_le_mul_left V (Nat.pow_le_pow_right (by decide) h))
theorem Pr_10 {V n r : Nat} : Pr V n (r + 1) < Pr V n r * 10 + 10 := by
  rcases Nat.lt_or_ge r n with h | h
  · rw [Pr_in h]; omega
  · rw [Pr_out h]; omega
structure Rs (V n s r0 r x W : Nat) : Prop where
  eq : Pr V n r = W * (10 * 2 ^ s) + x
  lt : x < 10 * 2 ^ s
  up : W < 10 ^ (r - r0)
  low : (r = r0 ∧ 2 ^ s ≤ x) ∨ (r0 < r ∧ 10 ^ (r - r0 - 1) ≤ W)
  le : r0 ≤ r
theorem Rs.step {V n s r0 r x W : Nat} (h : Rs V n s r0 r x W) (c : Nat) (hc : c ≤ 9) (hP : Pr V n (r + 1) = Pr V n r * 10 + c) : Rs V n s r0 (r + 1) (x % 2 ^ s * 10 + c) (W * 10 + x / 2 ^ s) := by
  obtain ⟨h1, h2, h3, h4, h5⟩ := h
  have p2 : 0 < 2 ^ s := Nat.pow_pos (by decide)
  suffices hs : ∀ p : Nat, 0 < p → p = 2 ^ s → Pr V n r = W * (10 * p) + x → x < 10 * p → ((r = r0 ∧ p ≤ x) ∨ (r0 < r ∧ 10 ^ (r - r0 - 1) ≤ W)) → Rs V n s r0 (r + 1) (x % p * 10 + c) (W * 10 + x / p) from hs _ p2 rfl h1 h2 h4
  clear h1 h2 h4 p2
  intro p p2 hps h1 h2 h4
  have hd : x / p ≤ 9 := by
    have : x / p < 10 := by rw [Nat.div_lt_iff_lt_mul p2]; exact h2
    omega
  have hm : x % p < p := Nat.mod_lt _ p2
  have hx : x = p * (x / p) + x % p := (Nat.div_add_mod x p).symm
  refine ⟨?_, by rw [← hps]; omega, ?_, Or.inr ⟨by omega, ?_⟩, by omega⟩
  · rw [hP, h1, ← hps]
    obtain ⟨d, hd'⟩ : ∃ d, d = x / p := ⟨_, rfl⟩
    obtain ⟨y, hy⟩ : ∃ y, y = x % p := ⟨_, rfl⟩
    rw [← hd', ← hy] at hx ⊢
    have e1 : (W * 10 + d) * (10 * p) = W * (10 * p) * 10 + p * d * 10 := by
      rw [Nat.add_mul, Nat.mul_right_comm W 10, Nat.mul_comm d, Nat.mul_right_comm 10 p d, Nat.mul_comm 10 d, Nat.mul_right_comm d 10 p, Nat.mul_comm d p]
    rw [e1]
    clear e1 hd hm h1 hP h3 h4
    rw [Nat.add_mul]
    have : x * 10 = p * d * 10 + y * 10 := by rw [← Nat.add_mul, ← hx]
    omega
  · rw [show r + 1 - r0 = (r - r0) + 1 from by omega, Nat.pow_succ]
    omega
  · rcases h4 with ⟨e, h⟩ | ⟨e, h⟩
    · subst e
      rw [show r + 1 - r - 1 = 0 from by omega, Nat.pow_zero]
      have : 0 < x / p := Nat.div_pos h p2
      omega
    · rw [show r + 1 - r0 - 1 = (r - r0 - 1) + 1 from by omega, Nat.pow_succ]
      exact Nat.le_trans (Nat.mul_le_mul_right 10 h) (Nat.le_add_right _ _)
theorem Dg.snoc {g : Nat → Int} {k W d : Nat} (h : Dg g k W) (hd : d ≤ 9) (x : Int) (hx : x = 48 + (d : Int)) : Dg (fun j => if j = k then x else g j) (k + 1) (W * 10 + d) := fun j hj => by
  by_cases e : j = k
  · subst e
    simp only [if_true]
    rw [show j + 1 - 1 - j = 0 from by omega, Nat.pow_zero, Nat.div_one, hx]
    omega
  · simp only [if_neg e]
    rw [h j (by omega), show k + 1 - 1 - j = (k - 1 - j) + 1 from by omega, Nat.pow_succ, Nat.mul_comm (10 ^ _) 10, ← Nat.div_div_eq_div_mul, show (W * 10 + d) / 10 = W from by omega]
theorem and_mask (x s : Nat) (hs : s < 64) (hx : x < 18446744073709551616) : bits .and .u64 (x : Int) (((2 ^ s - 1 : Nat)) : Int) = ((x % 2 ^ s : Nat) : Int) := by
  have hp : 2 ^ s ≤ 2 ^ 63 := Nat.pow_le_pow_right (by decide) (by omega)
  have hp0 : 0 < 2 ^ s := Nat.pow_pos (by decide)
  have h1 : (BitVec.ofInt 64 (x : Int)).toNat = x := by rw [BitVec.toNat_ofInt]; omega
  have h2 : (BitVec.ofInt 64 (((2 ^ s - 1 : Nat)) : Int)).toNat = 2 ^ s - 1 := by
    obtain ⟨p, hp'⟩ : ∃ p, p = 2 ^ s - 1 := ⟨_, rfl⟩
    rw [← hp', BitVec.toNat_ofInt]; omega
  have key : (BitVec.ofInt 64 (x : Int) &&& BitVec.ofInt 64 (((2 ^ s - 1 : Nat)) : Int)).toNat = x % 2 ^ s := by
    rw [BitVec.toNat_and, h1, h2, Nat.and_two_pow_sub_one_eq_mod]
  show IntKind.u64.wrap ((BitVec.ofInt 64 (x : Int) &&& BitVec.ofInt 64 (((2 ^ s - 1 : Nat)) : Int)).toNat : Nat) = _
  rw [key, IntKind.wrap_u64]
  have : x % 2 ^ s ≤ x := Nat.mod_le _ _
  omega
theorem right_val {X V n dp s r r0 W U k : Nat} (hX : X * 10 ^ n = V * 10 ^ dp) (hP : Pr V n r = W * (10 * 2 ^ s)) (hr : n ≤ r) (h0 : r0 ≤ r) (h1 : r0 ≤ dp) (hW : W = U * 10 ^ (r - r0 - k)) (hk : k ≤ r - r0) :
    X * 10 ^ k = U * 2 ^ s * 10 ^ (dp + 1 - r0) := by
  rw [Pr_ge hr] at hP
  have pos : 0 < 10 ^ n * (10 ^ (r - r0 - k) * 10) := Nat.mul_pos (ten_pos _) (Nat.mul_pos (ten_pos _) (by decide))
  apply Nat.eq_of_mul_eq_mul_right pos
  have e1 : X * 10 ^ k * (10 ^ n * (10 ^ (r - r0 - k) * 10)) = V * 10 ^ (dp + (r - r0) + 1) := by
    exact calc X * 10 ^ k * (10 ^ n * (10 ^ (r - r0 - k) * 10)) = X * 10 ^ n * (10 ^ k * 10 ^ (r - r0 - k)) * 10 := by ac_rfl
      _ = V * 10 ^ dp * 10 ^ (r - r0) * 10 := by rw [hX, ← Nat.pow_add, show k + (r - r0 - k) = r - r0 from by omega]
      _ = V * 10 ^ (dp + (r - r0) + 1) := by rw [Nat.pow_succ, Nat.pow_add]; ac_rfl
  have e2 : U * 2 ^ s * 10 ^ (dp + 1 - r0) * (10 ^ n * (10 ^ (r - r0 - k) * 10)) = V * 10 ^ (r - n + n + (dp + 1 - r0)) := by
    exact calc U * 2 ^ s * 10 ^ (dp + 1 - r0) * (10 ^ n * (10 ^ (r - r0 - k) * 10)) = U * 10 ^ (r - r0 - k) * (10 * 2 ^ s) * 10 ^ n * 10 ^ (dp + 1 - r0) := by ac_rfl
      _ = V * 10 ^ (r - n) * 10 ^ n * 10 ^ (dp + 1 - r0) := by rw [← hW, ← hP]
      _ = _ := by rw [Nat.pow_add, Nat.pow_add]; ac_rfl
  rw [e1, e2, show r - n + n + (dp + 1 - r0) = dp + (r - r0) + 1 from by omega]
theorem Pr_ge_of {X V n dp r s : Nat} (hX : X * 10 ^ n = V * 10 ^ dp) (h2 : 2 ^ s ≤ X) (h : Pr V n r < 2 ^ s) : r < dp := by
  rcases Nat.lt_or_ge r dp with a | a
  · exact a
  · have h1 : Pr V n dp ≤ Pr V n r := Pr_mono a
    have h3 : Pr V n dp = X := by unfold Pr; rw [← hX, Nat.mul_div_cancel _ (ten_pos n)]
    omega
end Go.Proofs.YtdbjoiojiibdgaaGreatDoor
namespace Go.Proofs.YtdbjoiojiibdgaaGreatDoor
open Go.RowKit
set_option maxHeartbeats 8000000 in
set_option maxRecDepth 100000 in
theorem right_c (b s n dp V X : Nat) (w : World) (h : Nm w w b n dp V) (hs : 1 ≤ s) (hs1 : s ≤ 13) (hn : n ≤ 20) (hp : dp ≤ 20) (hX : X * 10 ^ n = V * 10 ^ dp) (hX2 : 2 ^ s ≤ X) :
    Calls Tryz.prog 85 #[.pointer (some ⟨b, 0, none⟩), .int .u64 s] w fun e w' => e = .returned (.tuple #[]) ∧ ∃ a k U : Nat, a ≤ 20 ∧ k ≤ 60 ∧ Nm w w' b k a U ∧ X * 10 ^ k = U * 2 ^ s * 10 ^ a := by
  obtain ⟨g, hD, hG, hV10, hV, hV0⟩ := h
  have hn1 : 1 ≤ n := by
    rcases Nat.eq_zero_or_pos n with e | e
    · subst e
      have : V = 0 := by simpa using hV
      subst this
      omega
    · exact e
  have hVp : 0 < V := by
    rcases Nat.eq_zero_or_pos V with e | e
    · subst e; omega
    · exact e
  have h13 : 2 ^ s ≤ 2 ^ 13 := Nat.pow_le_pow_right (by decide) hs1
  have h2p : 2 ≤ 2 ^ s := Nat.pow_le_pow_right (by decide) hs (n := 2)
  obtain ⟨p, hps⟩ : ∃ p, p = 2 ^ s := ⟨_, rfl⟩
  have c0 := hD.cn
  have HD := Lib.hid hD
  have HG := Lib.hid hG
  have HX := Lib.hid hX
  have HX2 := Lib.hid hX2
  have HV := Lib.hid hV
  have HPS := Lib.hid hps
  have hp13 : p ≤ 8192 := by omega
  have hp2 : 2 ≤ p := by omega
  have hpi : (2 : Int) ^ s = (p : Int) := by rw [hps]; exact (Int.natCast_pow 2 s).symm
  clear hV10 hV hV0 hD hG hX hX2 hps h13 h2p
  go_enter Tryz.func85, Tryz.ntmps85
  go_upto_block 0 with fail
  go_cut [4, 6] (fun v4 v6 wx => wx = w ∧ ∃ r x : Nat, v4 = .int .i64 r ∧ v6 = .int .u64 x ∧ r ≤ dp ∧ 1 ≤ r ∧ p ≤ x ∧ x < 10 * p ∧ Hid (x = Pr V n r))
  case first =>
    go_wp2_with fail
    go_loopw [4, 6] (fun v4 v6 wr => wr = w ∧ ∃ r x : Nat, r ≤ n ∧ v4 = .int .i64 r ∧ v6 = .int .u64 x ∧ Hid (x = Pr V n r) ∧ Hid (1 ≤ r → Pr V n (r - 1) < p)) (fun v4 _ _ => n - (intOf v4).toNat)
    case atStart => exact ⟨rfl, 0, 0, Nat.zero_le _, rfl, rfl, Lib.hid (by unfold Pr; rw [Nat.pow_zero, Nat.mul_one, Nat.div_eq_of_lt HV.out]), Lib.hid (fun h => by omega)⟩
    case round =>
      obtain ⟨rfl, r, x, hr, rfl, rfl, hx, HL⟩ := hrel
      by_cases hxp : p ≤ x
      · have KR : Hid (r ≤ dp ∧ 1 ≤ r ∧ x < 10 * p) := Lib.hid (by
          have hr1 : 1 ≤ r := by
            rcases Nat.eq_zero_or_pos r with e | e
            · subst e
              have := hx.out
              unfold Pr at this
              rw [Nat.pow_zero, Nat.mul_one, Nat.div_eq_of_lt HV.out] at this
              omega
            · exact e
          have h1 := HL.out hr1
          have h2 := Pr_10 (V := V) (n := n) (r := r - 1)
          rw [show r - 1 + 1 = r from by omega, ← hx.out] at h2
          have h3 := Pr_ge_of HX.out HX2.out (HPS.out ▸ h1)
          omega)
        have hq : ((x : Int) / (p : Int) == 0) = false := by
          have : 1 ≤ x / p := (Nat.le_div_iff_mul_le (by omega)).2 (by omega)
          have h : ((x / p : Nat) : Int) = (x : Int) / p := rfl
          simp; omega
        go_wp2_with fail
        go_meet
        case rel => exact ⟨rfl, r, x, rfl, rfl, KR.out.1, KR.out.2.1, hxp, KR.out.2.2, hx⟩
      · have hq : ((x : Int) / (p : Int) == 0) = true := by
          have : x / p = 0 := Nat.div_eq_of_lt (by omega)
          have h : ((x / p : Nat) : Int) = (x : Int) / p := rfl
          simp; omega
        by_cases hrn : r < n
        · have c1 := HD.out.cd r (by omega)
          have hgr := HG.out r hrn
          rw [hgr] at c1
          obtain ⟨d, hd⟩ : ∃ d, d = V / 10 ^ (n - 1 - r) % 10 := ⟨_, rfl⟩
          rw [← hd] at c1
          have hd9 : d ≤ 9 := by omega
          have KN : Hid (x * 10 + d = Pr V n (r + 1)) := Lib.hid (by rw [Pr_in hrn, ← hx.out, hd])
          have KM : Hid (1 ≤ r + 1 → Pr V n (r + 1 - 1) < p) := Lib.hid (fun _ => by rw [Nat.add_sub_cancel, ← hx.out]; omega)
          have hx8 : x < 8192 := by omega
          clear hgr hd
          go_wp2_with fail
          go_roundw
          case rel => exact ⟨by simp, r + 1, x * 10 + d, by omega, by go_num, congrArg (Value.int .u64) (by omega), KN, KM⟩
          case measure => simp [intOf]; omega
        · obtain rfl : r = n := by omega
          have hx1 : 1 ≤ x := by
            have := hx.out
            rw [Pr_ge (Nat.le_refl _), Nat.sub_self, Nat.pow_zero, Nat.mul_one] at this
            omega
          have hx0 : ((x : Int) == 0) = false := by simp; omega
          go_wp2_with fail
          obtain ⟨wo, hwo⟩ : ∃ wo : World, wo = wr := ⟨_, rfl⟩
          go_loopw [4, 6] (fun v4 v6 wx => wx = wo ∧ ∃ t y : Nat, r ≤ t ∧ v4 = .int .i64 t ∧ v6 = .int .u64 y ∧ Hid (y = Pr V r t) ∧ Hid (1 ≤ t → Pr V r (t - 1) < p)) (fun v4 _ _ => dp - (intOf v4).toNat)
          case atStart => exact ⟨hwo.symm, r, x, Nat.le_refl _, rfl, rfl, hx, HL⟩
          case round =>
            obtain ⟨hww, t, y, hrt, rfl, rfl, hy, HT⟩ := hrel
            by_cases hyp : p ≤ y
            · have KR : Hid (t ≤ dp ∧ 1 ≤ t ∧ y < 10 * p) := Lib.hid (by
                have h1 := HT.out (by omega)
                have h2 := Pr_10 (V := V) (n := r) (r := t - 1)
                rw [show t - 1 + 1 = t from by omega, ← hy.out] at h2
                have h3 := Pr_ge_of HX.out HX2.out (HPS.out ▸ h1)
                omega)
              have hq : ((y : Int) / (p : Int) == 0) = false := by
                have : 1 ≤ y / p := (Nat.le_div_iff_mul_le (by omega)).2 (by omega)
                have h : ((y / p : Nat) : Int) = (y : Int) / p := rfl
                simp; omega
              go_wp2_with fail
              go_meet
              case rel => exact ⟨by first | rfl | exact hww.trans hwo | simp [hww, hwo], t, y, rfl, rfl, KR.out.1, KR.out.2.1, hyp, KR.out.2.2, hy⟩
            · have hq : ((y : Int) / (p : Int) == 0) = true := by
                have : y / p = 0 := Nat.div_eq_of_lt (by omega)
                have h : ((y / p : Nat) : Int) = (y : Int) / p := rfl
                simp; omega
              have KN : Hid (y * 10 = Pr V r (t + 1)) := Lib.hid (by rw [Pr_out hrt, ← hy.out])
              have KM : Hid (1 ≤ t + 1 → Pr V r (t + 1 - 1) < p) := Lib.hid (fun _ => by rw [Nat.add_sub_cancel, ← hy.out]; omega)
              have htd : t < dp := Pr_ge_of HX.out HX2.out (HPS.out ▸ (by rw [← hy.out]; omega))
              have hy8 : y < 8192 := by omega
              go_wp2_with fail
              go_roundw
              case rel => exact ⟨by first | rfl | exact hww | simp [hww, hwo], t + 1, y * 10, by omega, by go_num, congrArg (Value.int .u64) (by omega), KN, KM⟩
              case measure => simp [intOf]; omega
  case rest =>
    obtain ⟨rfl, r0, x0, rfl, rfl, hr0, hr1, hx0, hx10, HX0⟩ := hcut
    have c1 := HD.out.cp
    have f1 := HD.out.fz 801
    have hmask : IntKind.u64.wrap (1 * (p : Int)) - 1 = ((p - 1 : Nat) : Int) := by rw [IntKind.wrap_u64]; omega
    have KI : Hid (Dn wc (wc.setCell ⟨b, 801, none⟩ (.int .i64 ((dp : Int) - ((r0 : Int) - 1)))) b g n ((dp + 1 - r0 : Nat) : Int)) := Lib.hid (by
      rw [show (dp : Int) - ((r0 : Int) - 1) = ((dp + 1 - r0 : Nat) : Int) from by omega]
      exact HD.out.setp _)
    have KR : Hid (Rs V n s r0 r0 x0 0) := Lib.hid ⟨by rw [← HX0.out]; simp, HPS.out ▸ hx10, by rw [Nat.sub_self]; decide, Or.inl ⟨rfl, HPS.out ▸ hx0⟩, Nat.le_refl _⟩
    go_wp2_with fail
    go_loopw [4, 5, 6] (fun v4 v5 v6 wr => ∃ r i x : Nat, r = r0 + i ∧ r ≤ 40 ∧ (r ≤ n ∨ i = 0) ∧ v4 = .int .i64 r ∧ v5 = .int .i64 i ∧ v6 = .int .u64 x ∧ x < 10 * p ∧ Hid (∃ W g', Rs V n s r0 r x W ∧ Dn wc wr b g' n ((dp + 1 - r0 : Nat) : Int) ∧ Dg g' i W ∧ ∀ j, r ≤ j → j < n → g' j = 48 + ((V / 10 ^ (n - 1 - j) % 10 : Nat) : Int))) (fun v4 _ _ _ => n - (intOf v4).toNat)
    case atStart => exact ⟨r0, 0, x0, rfl, by omega, Or.inr rfl, rfl, rfl, rfl, hx10, Lib.hid ⟨0, g, KR.out, KI.out, fun j hj => by omega, fun j _ hj => HG.out j hj⟩⟩
    case round =>
      clear KI KR
      obtain ⟨r, i, x, hri, hr40, hrn, rfl, rfl, rfl, hx10, HR⟩ := hrel
      obtain ⟨W, g', hRs, hDn, hDg, hun⟩ := HR.out
      clear HR
      have cn := hDn.cn
      obtain ⟨dg, hdg⟩ : ∃ dg, dg = x / p := ⟨_, rfl⟩
      obtain ⟨ym, hym⟩ : ∃ ym, ym = x % p := ⟨_, rfl⟩
      have hand : bits .and .u64 (x : Int) ((p : Int) - 1) = (ym : Int) := by
        have := and_mask x s (by omega) (by omega)
        rw [← HPS.out] at this
        rw [hym, ← this, show ((p - 1 : Nat) : Int) = (p : Int) - 1 from by omega]
      have hxd : dg ≤ 9 := by
        have : x / p < 10 := by rw [Nat.div_lt_iff_lt_mul (by omega)]; exact hx10
        omega
      have hxm : ym < p := by rw [hym]; exact Nat.mod_lt x (by omega)
      have hdi : (x : Int) / (p : Int) = (dg : Int) := by rw [hdg]; rfl
      by_cases hlt : r < n
      · have c4 := hDn.cd r (by omega)
        have c5 := hDn.cd i (by omega)
        have f5 := hDn.fz i
        have hgr := hun r (Nat.le_refl _) hlt
        rw [hgr] at c4
        obtain ⟨d, hd⟩ : ∃ d, d = V / 10 ^ (n - 1 - r) % 10 := ⟨_, rfl⟩
        rw [← hd] at c4
        have hd9 : d ≤ 9 := by omega
        have KN : Hid (∃ W g2, Rs V n s r0 (r + 1) (ym * 10 + d) W ∧ Dn wc (wr.setCell ⟨b, i, none⟩ (.int .u8 ((dg : Int) + 48))) b g2 n ((dp + 1 - r0 : Nat) : Int) ∧ Dg g2 (i + 1) W ∧ ∀ j, r + 1 ≤ j → j < n → g2 j = 48 + ((V / 10 ^ (n - 1 - j) % 10 : Nat) : Int)) := Lib.hid (by
          have h1 := hRs.step d hd9 (by rw [Pr_in hlt, hd])
          rw [← HPS.out, ← hym, ← hdg] at h1
          refine ⟨_, _, h1, hDn.setd i _ (by omega), hDg.snoc hxd _ (by omega), fun j hj hjn => ?_⟩
          simp only [if_neg (show ¬ j = i by omega)]
          exact hun j (by omega) hjn)
        have HRI := Lib.hid hri
        have hi40 : i < 40 := by omega
        clear hri hgr hd hRs hDn hDg hun hdg hym
        go_wp2_with fail
        have hri := HRI.out
        go_roundw
        case rel => exact ⟨r + 1, i + 1, ym * 10 + d, by omega, by omega, Or.inl (by omega), by go_num, by go_num, congrArg (Value.int .u64) (by omega), by omega, KN⟩
        case measure => simp [intOf]; omega
      · have HRI := Lib.hid hri
        have HM : Hid (∃ W g', Rs V n s r0 r x W ∧ Dn wc wr b g' n ((dp + 1 - r0 : Nat) : Int) ∧ Dg g' i W) := Lib.hid ⟨W, g', hRs, hDn, hDg⟩
        clear hri hRs hDn hDg hun hdg hym hdi hxm hxd hand
        have hnr : n ≤ r := by omega
        go_wp2_with fail
        go_loopg [5, 6] (s + 1) (fun k v5 v6 wr => ∃ i' y : Nat, r + s + 1 = r0 + i' + k ∧ i' ≤ 60 ∧ n ≤ r0 + i' ∧ v5 = .int .i64 i' ∧ v6 = .int .u64 y ∧ y < 10 * p ∧ (y = 0 ∨ 1 ≤ k) ∧ k ≤ s + 1 ∧ Hid (2 ^ (s + 1 - k) ∣ y) ∧ Hid (∃ W g', Rs V n s r0 (r0 + i') y W ∧ Dn wc wr b g' n ((dp + 1 - r0 : Nat) : Int) ∧ Dg g' i' W))
        case atStart => exact ⟨i, x, by have := HRI.out; omega, by have := HRI.out; omega, by have := HRI.out; omega, rfl, rfl, hx10, Or.inr (by omega), by omega, Lib.hid (by simp), by rw [← HRI.out]; exact HM⟩
        case round =>
          clear HM HRI
          obtain ⟨i', y, hk, hi6, hni, rfl, rfl, hy10, hy0, hks, HDV, HR⟩ := hrel
          obtain ⟨W, g', hRs, hDn, hDg⟩ := HR.out
          clear HR
          by_cases hyp : 0 < y
          · obtain ⟨dg, hdg⟩ : ∃ dg, dg = y / p := ⟨_, rfl⟩
            obtain ⟨ym, hym⟩ : ∃ ym, ym = y % p := ⟨_, rfl⟩
            have hand : bits .and .u64 (y : Int) ((p : Int) - 1) = (ym : Int) := by
              have := and_mask y s (by omega) (by omega)
              rw [← HPS.out] at this
              rw [hym, ← this, show ((p - 1 : Nat) : Int) = (p : Int) - 1 from by omega]
            have hxd : dg ≤ 9 := by
              have : y / p < 10 := by rw [Nat.div_lt_iff_lt_mul (by omega)]; exact hy10
              omega
            have hxm : ym < p := by rw [hym]; exact Nat.mod_lt y (by omega)
            have hdi : (y : Int) / (p : Int) = (dg : Int) := by rw [hdg]; rfl
            have c5 := hDn.cd i' (by omega)
            have f5 := hDn.fz i'
            obtain ⟨k, rfl⟩ : ∃ k, gk = k + 1 := ⟨gk - 1, by omega⟩
            have KD : Hid ((ym * 10 = 0 ∨ 1 ≤ k) ∧ 2 ^ (s + 1 - k) ∣ ym * 10) := Lib.hid (by
              have h1 : 2 ^ (s - k) ∣ ym := by
                have hd := HDV.out
                rw [show s + 1 - (k + 1) = s - k from by omega] at hd
                rw [hym]
                refine (Nat.dvd_mod_iff ?_).2 hd
                rw [HPS.out]
                exact Nat.pow_dvd_pow 2 (by omega)
              refine ⟨?_, ?_⟩
              · rcases Nat.eq_zero_or_pos k with e | e
                · subst e
                  left
                  rw [Nat.sub_zero, ← HPS.out] at h1
                  have := Nat.eq_zero_of_dvd_of_lt h1 hxm
                  omega
                · exact Or.inr e
              · rw [show s + 1 - k = (s - k) + 1 from by omega, Nat.pow_succ]
                exact Nat.mul_dvd_mul h1 (by decide))
            have KN : Hid (∃ W g2, Rs V n s r0 (r0 + (i' + 1)) (ym * 10) W ∧ Dn wc (wr.setCell ⟨b, i', none⟩ (.int .u8 ((dg : Int) + 48))) b g2 n ((dp + 1 - r0 : Nat) : Int) ∧ Dg g2 (i' + 1) W) := Lib.hid (by
              have h1 := hRs.step 0 (by omega) (by rw [Pr_out hni, Nat.add_zero])
              rw [← HPS.out, ← hym, ← hdg] at h1
              exact ⟨_, _, h1, hDn.setd i' _ (by omega), hDg.snoc hxd _ (by omega)⟩)
            have KK : Hid (r + s + 1 = r0 + (i' + 1) + k) := Lib.hid (by omega)
            clear hRs hDn hDg hdg hym hk
            go_wp2_with fail
            go_roundg k
            case rel => exact ⟨i' + 1, ym * 10, KK.out, by have := KK.out; omega, by omega, by go_num, congrArg (Value.int .u64) (by omega), by omega, KD.out.1, by omega, Lib.hid KD.out.2, KN⟩
            case measure => omega
          · obtain rfl : y = 0 := by omega
            have f1 := hDn.fz 800
            have c1 := hDn.cn
            have KN : Hid (Calls Tryz.prog 83 #[.pointer (some ⟨b, 0, none⟩)] (wr.setCell ⟨b, 800, none⟩ (.int .i64 (i' : Int))) fun e w' => e = .returned (.tuple #[]) ∧ ∃ a k U : Nat, a ≤ 20 ∧ k ≤ 60 ∧ Nm wc w' b k a U ∧ X * 10 ^ k = U * 2 ^ s * 10 ^ a) := Lib.hid (by
              have hs := hDn.setn (i' : Int)
              obtain ⟨q1, q2, q3, q4, q5⟩ := hRs
              have hpp : 0 < 2 ^ s := Nat.pow_pos (by decide)
              rcases q4 with ⟨_, q4⟩ | ⟨q4, q6⟩
              · omega
              rw [show r0 + i' - r0 = i' from by omega] at q3 q6
              have hW0 : 0 < W := by have := ten_pos (i' - 1); omega
              refine (trim_c b i' W g' _ _ hs.here hDg hW0 q3 (by omega)).mono ?_
              rintro e w' ⟨rfl, k, U, h2, h3, h4, h5, h6, h7⟩
              refine ⟨rfl, dp + 1 - r0, k, U, by omega, by omega, ⟨g', hs.join h3, h4, h6, h7, low_of q6 h5 h2⟩, ?_⟩
              exact right_val (r := r0 + i') (W := W) HX.out (by rw [q1, Nat.add_zero]) hni q5 hr0 (by rw [show r0 + i' - r0 - k = i' - k from by omega]; exact h5) (by omega))
            clear hRs hDn hDg hk
            go_wp2_with fail
            refine KN.out.mono ?_
            rintro e w' ⟨rfl, h⟩
            have HH := Lib.hid h
            clear h
            go_wp2_with fail
            go_returns
            exact ⟨rfl, HH.out⟩
end Go.Proofs.YtdbjoiojiibdgaaGreatDoor
namespace Go.Proofs.YtdbjoiojiibdgaaGreatDoor
open Go.RowKit
def upB (V n q : Nat) : Bool := if V / 10 ^ (n - 1 - q) % 10 = 5 ∧ q + 1 = n then V / 10 ^ (n - q) % 10 % 2 != 0 else decide (5 ≤ V / 10 ^ (n - 1 - q) % 10)
set_option maxRecDepth 100000 in
theorem sru_c (b n dp q V : Nat) (g : Nat → Int) (w : World) (h : Dn w w b g n dp) (hg : Dg g n V) (hq : q < n) (hq1 : 1 ≤ q) (hn : n ≤ 400) :
    Calls Tryz.prog 86 #[.pointer (some ⟨b, 0, none⟩), .int .i64 q] w fun e w' => e = .returned (.bool (upB V n q)) ∧ w' = w := by
  have c0 := h.cn
  have c1 := h.ct
  have c2 := h.cd q (by omega)
  have c3 := h.cd (q - 1) (by omega)
  rw [hg q hq] at c2
  rw [hg (q - 1) (by omega), show n - 1 - (q - 1) = n - q from by omega] at c3
  unfold upB
  obtain ⟨d, hd⟩ : ∃ d, d = V / 10 ^ (n - 1 - q) % 10 := ⟨_, rfl⟩
  obtain ⟨t, ht⟩ : ∃ t, t = V / 10 ^ (n - q) % 10 := ⟨_, rfl⟩
  rw [← hd] at c2 ⊢
  rw [← ht] at c3 ⊢
  have hd9 : d ≤ 9 := by omega
  have ht9 : t ≤ 9 := by omega
  obtain ⟨m, rfl⟩ : ∃ m, q = m + 1 := ⟨q - 1, by omega⟩
  rw [Nat.add_sub_cancel] at c3
  clear h hg hd ht
  by_cases h5 : d = 5
  · subst h5
    by_cases hn1 : m + 1 + 1 = n
    · rw [if_pos ⟨rfl, hn1⟩]
      subst hn1
      go_enter Tryz.func86, Tryz.ntmps86
      go_wp2_with fail
      go_ret
      refine ⟨?_, rfl⟩
      show Ending.returned (Value.bool ((48 + (t : Int) - 48) % 2 != 0)) = _
      have : ((48 + (t : Int) - 48) % 2 != 0) = (t % 2 != 0) := by
        rcases Nat.mod_two_eq_zero_or_one t with e | e
        · rw [e, show (48 + (t : Int) - 48) % 2 = 0 from by omega]; rfl
        · rw [e, show (48 + (t : Int) - 48) % 2 = 1 from by omega]; rfl
      rw [this]
    · rw [if_neg (fun c => hn1 c.2)]
      have hne : ((m : Int) + 1 + 1 == n) = false := by simp; omega
      go_enter Tryz.func86, Tryz.ntmps86
      go_wp2_with fail
      go_ret
      exact ⟨rfl, rfl⟩
  · rw [if_neg (fun c => h5 c.1)]
    have hne : ((48 + (d : Int)) == 53) = false := by simp; omega
    go_enter Tryz.func86, Tryz.ntmps86
    go_wp2_with fail
    go_ret
    refine ⟨?_, rfl⟩
    show Ending.returned (Value.bool (decide (53 ≤ 48 + (d : Int)))) = _
    have : decide (53 ≤ 48 + (d : Int)) = decide (5 ≤ d) := by
      rw [decide_eq_decide]; omega
    rw [this]
theorem Dg.cut {g : Nat → Int} {n V : Nat} (h : Dg g n V) (q : Nat) (hq : q ≤ n) : Dg g q (V / 10 ^ (n - q)) := fun j hj => by
  rw [h j (by omega), Nat.div_div_eq_div_mul, ← Nat.pow_add, show n - q + (q - 1 - j) = n - 1 - j from by omega]
set_option maxHeartbeats 1000000 in
set_option maxRecDepth 100000 in
theorem up_c (b n dp q Q : Nat) (g : Nat → Int) (w : World) (h : Dn w w b g n dp) (hg : Dg g q Q) (hq : q < n) (hq1 : 1 ≤ q) (hn : n ≤ 400) (hp : dp ≤ 1000) (hQ : 10 ^ (q - 1) ≤ Q) (hQ1 : Q < 10 ^ q) :
    Calls Tryz.prog 87 #[.pointer (some ⟨b, 0, none⟩), .int .i64 q] w fun e w' => e = .returned (.tuple #[]) ∧ ∃ k a U : Nat, Nm w w' b k a U ∧ dp ≤ a ∧ a ≤ dp + 1 ∧ k ≤ q + (a - dp) ∧ U * 10 ^ (q + (a - dp) - k) = Q + 1 := by
  have c0 := h.cn
  have HD := Lib.hid h
  have HG := Lib.hid hg
  have HQ := Lib.hid hQ
  have HQ1 := Lib.hid hQ1
  clear h hg hQ hQ1
  go_enter Tryz.func87, Tryz.ntmps87
  go_wp2_with fail
  go_loopw [4] (fun v4 wr => wr = w ∧ ∃ j : Nat, j ≤ q ∧ v4 = .int .i64 ((j : Int) - 1) ∧ Hid (Q + 1 = (Q / 10 ^ (q - j) + 1) * 10 ^ (q - j))) (fun v4 _ => (intOf v4 + 1).toNat)
  case atStart => exact ⟨rfl, q, Nat.le_refl _, by go_num, Lib.hid (by rw [Nat.sub_self, Nat.pow_zero, Nat.div_one, Nat.mul_one])⟩
  case round =>
    obtain ⟨rfl, j, hj, rfl, HJ⟩ := hrel
    by_cases hj0 : 0 < j
    · obtain ⟨i, rfl⟩ : ∃ i, j = i + 1 := ⟨j - 1, by omega⟩
      rw [show ((i + 1 : Nat) : Int) - 1 = (i : Int) from by omega]
      have ci := HD.out.cd i (by omega)
      have fi := HD.out.fz i
      have hgi := (HG.out.cut (i + 1) (by omega)).last
      obtain ⟨d, hd⟩ : ∃ d, d = Q / 10 ^ (q - (i + 1)) % 10 := ⟨_, rfl⟩
      rw [← hd] at hgi
      rw [hgi] at ci
      have hd9 : d ≤ 9 := by omega
      have hdv : Q / 10 ^ (q - (i + 1)) = Q / 10 ^ (q - i) * 10 + d := by
        rw [show q - i = (q - (i + 1)) + 1 from by omega, div_succ]; omega
      by_cases h9 : d = 9
      · have KN : Hid (Q + 1 = (Q / 10 ^ (q - i) + 1) * 10 ^ (q - i)) := Lib.hid (by
          have e := HJ.out
          have e2 : 10 ^ (q - i) = 10 * 10 ^ (q - (i + 1)) := by rw [show q - i = (q - (i + 1)) + 1 from by omega, Nat.pow_succ, Nat.mul_comm]
          rw [hdv, h9] at e
          rw [e2] at e ⊢
          have hh : ∀ A P : Nat, (A * 10 + 9 + 1) * P = (A + 1) * (10 * P) := fun A P => by
            rw [← Nat.mul_assoc, show A * 10 + 9 + 1 = (A + 1) * 10 from by omega]
          exact e.trans (hh _ _))
        subst h9
        clear hgi hd hdv
        go_wp2_with fail
        go_roundw
        case rel => exact ⟨by simp, i, by omega, by go_num, KN⟩
        case measure => simp [intOf] <;> omega
      · have hlt9 : decide ((48 + (d : Int)) < 57) = true := decide_eq_true (by omega)
        have f8 := HD.out.fz 800
        have KN : Hid (∀ W, W = (wr.drew.setCell ⟨b, i, none⟩ (.int .u8 (48 + (d : Int) + 1))).setCell ⟨b, 800, none⟩ (.int .i64 ((i : Int) + 1)) → ∃ k a U : Nat, Nm wr W b k a U ∧ dp ≤ a ∧ a ≤ dp + 1 ∧ k ≤ q + (a - dp) ∧ U * 10 ^ (q + (a - dp) - k) = Q + 1) := Lib.hid (by
          rintro W rfl
          have hs := (HD.out.drew.setd i (48 + (d : Int) + 1) (by omega)).setn ((i : Int) + 1)
          have hsn : Dg (fun j => if j = i then 48 + (d : Int) + 1 else g j) (i + 1) (Q / 10 ^ (q - i) * 10 + (d + 1)) := (HG.out.cut i (by omega)).snoc (by omega) _ (by omega)
          refine ⟨i + 1, dp, Q / 10 ^ (q - i) * 10 + (d + 1), ⟨_, hs, hsn, by omega, ?_, ?_⟩, Nat.le_refl _, by omega, by omega, ?_⟩
          · have h1 : Q / 10 ^ (q - i) < 10 ^ i := by
              rw [Nat.div_lt_iff_lt_mul (ten_pos _), ← Nat.pow_add, show i + (q - i) = q from by omega]
              exact HQ1.out
            rw [Nat.pow_succ]
            omega
          · have h1 : 10 ^ i ≤ Q / 10 ^ (q - (i + 1)) := by
              rw [Nat.le_div_iff_mul_le (ten_pos _), ← Nat.pow_add, show i + (q - (i + 1)) = q - 1 from by omega]
              exact HQ.out
            rw [Nat.add_sub_cancel]
            omega
          · rw [show q + (dp - dp) - (i + 1) = q - (i + 1) from by omega, HJ.out, hdv, Nat.add_assoc])
        clear hgi hd hdv HJ
        go_wp2_with fail
        go_region
        go_wp2_with fail
        go_returns
        exact ⟨rfl, KN.out _ rfl⟩
    · obtain rfl : j = 0 := by omega
      have f0 := HD.out.fz 0
      have f8 := HD.out.fz 800
      have f1 := HD.out.fz 801
      have cd0 := HD.out.cd 0 (by omega)
      have cp0 := HD.out.cp
      have KN : Hid (∀ W, W = ((wr.setCell ⟨b, 0, none⟩ (.int .u8 49)).setCell ⟨b, 800, none⟩ (.int .i64 1)).setCell ⟨b, 801, none⟩ (.int .i64 ((dp : Int) + 1)) → ∃ k a U : Nat, Nm wr W b k a U ∧ dp ≤ a ∧ a ≤ dp + 1 ∧ k ≤ q + (a - dp) ∧ U * 10 ^ (q + (a - dp) - k) = Q + 1) := Lib.hid (by
        rintro W rfl
        have hs := ((HD.out.setd 0 49 (by omega)).setn 1).setp ((dp : Int) + 1)
        have e := HJ.out
        rw [Nat.sub_zero, Nat.div_eq_of_lt HQ1.out, Nat.zero_add, Nat.one_mul] at e
        refine ⟨1, dp + 1, 1, ⟨_, hs, fun j hj => ?_, by decide, by decide, by decide⟩, by omega, by omega, by omega, ?_⟩
        · obtain rfl : j = 0 := by omega
          rfl
        · rw [e, Nat.one_mul, show q + (dp + 1 - dp) - 1 = q from by omega])
      clear HJ
      go_wp2_with fail
      go_returns
      exact ⟨rfl, KN.out _ rfl⟩
set_option maxRecDepth 100000 in
theorem down_c (b n dp q Q : Nat) (g : Nat → Int) (w : World) (h : Dn w w b g n dp) (hg : Dg g q Q) (hq : q < n) (hq1 : 1 ≤ q) (hn : n ≤ 400) (hQ : 10 ^ (q - 1) ≤ Q) (hQ1 : Q < 10 ^ q) :
    Calls Tryz.prog 88 #[.pointer (some ⟨b, 0, none⟩), .int .i64 q] w fun e w' => e = .returned (.tuple #[]) ∧ ∃ k U : Nat, Nm w w' b k dp U ∧ k ≤ q ∧ U * 10 ^ (q - k) = Q := by
  have c0 := h.cn
  have f0 := h.fz 800
  have KN : Hid (Calls Tryz.prog 83 #[.pointer (some ⟨b, 0, none⟩)] (w.setCell ⟨b, 800, none⟩ (.int .i64 (q : Int))) fun e w' => e = .returned (.tuple #[]) ∧ ∃ k U : Nat, Nm w w' b k dp U ∧ k ≤ q ∧ U * 10 ^ (q - k) = Q) := Lib.hid (by
    have hs := h.setn (q : Int)
    refine (trim_c b q Q g _ _ hs.here hg (by have := ten_pos (q - 1); omega) hQ1 (by omega)).mono ?_
    rintro e w' ⟨rfl, k, U, h2, h3, h4, h5, h6, h7⟩
    exact ⟨rfl, k, U, ⟨g, hs.join h3, h4, h6, h7, low_of hQ h5 h2⟩, h2, h5.symm⟩)
  clear h hg hQ hQ1
  go_enter Tryz.func88, Tryz.ntmps88
  go_wp2_with fail
  refine KN.out.mono ?_
  rintro e w' ⟨rfl, h⟩
  have HH := Lib.hid h
  clear h
  go_wp2_with fail
  go_returns
  exact ⟨rfl, HH.out⟩
def rnd (V n q : Nat) : Nat := if q < n then V / 10 ^ (n - q) + (if upB V n q = true then 1 else 0) else V * 10 ^ (q - n)
set_option maxRecDepth 100000 in
theorem round10_c (b n dp q V : Nat) (w : World) (h : Nm w w b n dp V) (hq : q = dp + 6) (hn : n ≤ 400) (hp : dp ≤ 1000) :
    Calls Tryz.prog 66 #[.pointer (some ⟨b, 0, none⟩), .int .i64 q] w fun e w' => e = .returned (.tuple #[]) ∧ ∃ k a U : Nat, Nm w w' b k a U ∧ a ≤ dp + 1 ∧ k ≤ a + 6 ∧ U * 10 ^ (a + 6 - k) = rnd V n q := by
  obtain ⟨g, hD, hG, hV10, hV, hV0⟩ := h
  have c0 := hD.cn
  by_cases hlt : q < n
  · have hQ : 10 ^ (q - 1) ≤ V / 10 ^ (n - q) := by
      rw [Nat.le_div_iff_mul_le (ten_pos _), ← Nat.pow_add, show q - 1 + (n - q) = n - 1 from by omega]
      exact hV0
    have hQ1 : V / 10 ^ (n - q) < 10 ^ q := by
      rw [Nat.div_lt_iff_lt_mul (ten_pos _), ← Nat.pow_add, show q + (n - q) = n from by omega]
      exact hV
    have HS := Lib.hid (sru_c b n dp q V g w hD hG hlt (by omega) hn)
    have HU : Hid (upB V n q = true → Calls Tryz.prog 87 #[.pointer (some ⟨b, 0, none⟩), .int .i64 q] w fun e w' => e = .returned (.tuple #[]) ∧ ∃ k a U : Nat, Nm w w' b k a U ∧ a ≤ dp + 1 ∧ k ≤ a + 6 ∧ U * 10 ^ (a + 6 - k) = rnd V n q) := Lib.hid (fun hu =>
      (up_c b n dp q _ g w hD (hG.cut q (by omega)) hlt (by omega) hn hp hQ hQ1).mono (by
        rintro e w' ⟨rfl, k, a, U, h1, h2, h3, h4, h5⟩
        refine ⟨rfl, k, a, U, h1, h3, by omega, ?_⟩
        unfold rnd
        rw [if_pos hlt, hu, if_pos rfl, ← h5, show a + 6 - k = q + (a - dp) - k from by omega]))
    have HW : Hid (upB V n q = false → Calls Tryz.prog 88 #[.pointer (some ⟨b, 0, none⟩), .int .i64 q] w fun e w' => e = .returned (.tuple #[]) ∧ ∃ k a U : Nat, Nm w w' b k a U ∧ a ≤ dp + 1 ∧ k ≤ a + 6 ∧ U * 10 ^ (a + 6 - k) = rnd V n q) := Lib.hid (fun hu =>
      (down_c b n dp q _ g w hD (hG.cut q (by omega)) hlt (by omega) hn hQ hQ1).mono (by
        rintro e w' ⟨rfl, k, U, h1, h2, h3⟩
        refine ⟨rfl, k, dp, U, h1, by omega, by omega, ?_⟩
        unfold rnd
        rw [if_pos hlt, hu, ← hq, h3]
        rfl))
    clear hD hG hV10 hV hV0 hQ hQ1 hq
    obtain ⟨R, hR⟩ : ∃ R, R = rnd V n q := ⟨_, rfl⟩
    rw [← hR] at HU HW ⊢
    clear hR
    obtain ⟨c, hc⟩ : ∃ c, c = upB V n q := ⟨_, rfl⟩
    rw [← hc] at HS HU HW
    clear hc
    have hb : (decide ((q : Int) < 0) || decide ((n : Int) ≤ q)) = false := by simp; omega
    cases c
    · go_enter Tryz.func66, Tryz.ntmps66
      go_wp2_with fail
      refine HS.out.mono ?_
      rintro e w' ⟨rfl, rfl⟩
      go_wp2_with fail
      refine (HW.out (by simp)).mono ?_
      rintro e w2 ⟨rfl, h⟩
      have HH := Lib.hid h
      clear h
      go_wp2_with fail
      go_returns
      exact ⟨rfl, HH.out⟩
    · go_enter Tryz.func66, Tryz.ntmps66
      go_wp2_with fail
      refine HS.out.mono ?_
      rintro e w' ⟨rfl, rfl⟩
      go_wp2_with fail
      refine (HU.out (by simp)).mono ?_
      rintro e w2 ⟨rfl, h⟩
      have HH := Lib.hid h
      clear h
      go_wp2_with fail
      go_returns
      exact ⟨rfl, HH.out⟩
  · have KN : Hid (∃ k a U : Nat, Nm w w b k a U ∧ a ≤ dp + 1 ∧ k ≤ a + 6 ∧ U * 10 ^ (a + 6 - k) = rnd V n q) := Lib.hid ⟨n, dp, V, ⟨g, hD, hG, hV10, hV, hV0⟩, by omega, by omega, by unfold rnd; rw [if_neg hlt, hq]⟩
    have hb : (decide ((q : Int) < 0) || decide ((n : Int) ≤ q)) = true := by simp; omega
    clear hD hG hV10 hV hV0 hq
    go_enter Tryz.func66, Tryz.ntmps66
    go_wp2_with fail
    go_returns
    exact ⟨rfl, KN.out⟩
end Go.Proofs.YtdbjoiojiibdgaaGreatDoor
namespace Go.Proofs.YtdbjoiojiibdgaaGreatDoor
open Go.RowKit
def CheatsB (w : World) (b : Nat) : Prop := b ≠ 5 ∧ ∃ a : Addr, a.block ≠ b ∧ w.cell? ⟨5, 0, none⟩ = some (.slice (some a) 61 61) ∧ ∀ k, 1 ≤ k → k < 61 → w.cell? ⟨a.block, a.off + k * 2, none⟩ = some (.int .i64 (cheat k).1) ∧ w.cell? ⟨a.block, a.off + k * 2 + 1, none⟩ = some (.string ⟨(cheat k).2.toArray⟩)
theorem CheatsB.plain {w : World} {b : Nat} (h : CheatsB w b) : Cheats w := by
  obtain ⟨_, tb, _, h1, h2⟩ := h
  exact ⟨tb, h1, h2⟩
theorem cell_kept {w w' : World} {b : Nat} (hg : w.grownBy w' (some b)) (a : Addr) (ha : a.block ≠ b) (v : Value) (h : w.cell? a = some v) : w'.cell? a = some v := by
  have hlt : a.block < w.heap.size := by
    rcases Nat.lt_or_ge a.block w.heap.size with h' | h'
    · exact h'
    · simp [World.cell?, Array.getElem?_eq_none h'] at h
  rw [← h]
  exact World.cell?_of_block (hg.block _ hlt (fun e => ha (Option.some.inj e)))
theorem CheatsB.grown {w w' : World} {b : Nat} (h : CheatsB w b) (hg : w.grownBy w' (some b)) : CheatsB w' b := by
  obtain ⟨h0, tb, h1, h2, h3⟩ := h
  exact ⟨h0, tb, h1, cell_kept hg _ (fun e => h0 e.symm) _ h2, fun k h1k hk => ⟨cell_kept hg ⟨tb.block, _, none⟩ h1 _ (h3 k h1k hk).1, cell_kept hg ⟨tb.block, _, none⟩ h1 _ (h3 k h1k hk).2⟩⟩
theorem Nm.pos {w0 w : World} {b k dp U : Nat} (h : Nm w0 w b k dp U) : 1 ≤ k := by
  obtain ⟨g, _, _, h1, h2, _⟩ := h
  rcases Nat.eq_zero_or_pos k with e | e
  · subst e
    have : U = 0 := by simpa using h2
    subst this
    omega
  · exact e
theorem Nm.cn {w0 w : World} {b k dp U : Nat} (h : Nm w0 w b k dp U) : w.cell? ⟨b, 800, none⟩ = some (.int .i64 k) := by
  obtain ⟨g, h, _⟩ := h
  exact h.cn
theorem Nm.here {w0 w : World} {b k dp U : Nat} (h : Nm w0 w b k dp U) : Nm w w b k dp U := by
  obtain ⟨g, h, h2⟩ := h
  exact ⟨g, h.here, h2⟩
theorem Nm.join {w0 w w2 : World} {b k dp U k2 dp2 U2 : Nat} (h : Nm w0 w b k dp U) (h2 : Nm w w2 b k2 dp2 U2) : Nm w0 w2 b k2 dp2 U2 := by
  obtain ⟨g, h, _⟩ := h
  obtain ⟨g2, h2, h3⟩ := h2
  exact ⟨g2, h.join h2, h3⟩
structure Hl (w0 w : World) (b k dp U Y : Nat) : Prop where
  nm : Nm w0 w b k dp U
  le : k ≤ dp
  eq : Y = U * 10 ^ (dp - k)
theorem big_lt : 2 ^ 1024 < 10 ^ 309 := by decide +kernel
set_option exponentiation.threshold 2000 in
theorem Hl.bound {w0 w : World} {b k dp U Y : Nat} (h : Hl w0 w b k dp U Y) (hY : Y < 2 ^ 1024) : dp ≤ 309 := by
  obtain ⟨⟨g, _, _, _, _, h0⟩, h1, h2⟩ := h
  rcases Nat.lt_or_ge 309 dp with a | a
  · exfalso
    have hk : 1 ≤ k ∨ k = 0 := by omega
    have e1 : 10 ^ (dp - 1) ≤ Y := by
      rw [h2]
      rcases hk with hk | hk
      · rw [show dp - 1 = (k - 1) + (dp - k) from by omega, Nat.pow_add]
        exact Nat.mul_le_mul_right _ h0
      · subst hk
        rw [Nat.zero_sub, Nat.pow_zero] at h0
        exact Nat.le_trans (Nat.pow_le_pow_right (by decide) (by omega)) (Nat.le_mul_of_pos_left _ h0)
    have e2 : 10 ^ 309 ≤ 10 ^ (dp - 1) := Nat.pow_le_pow_right (by decide) (by omega)
    have := big_lt
    omega
  · exact a
theorem Hl.left {w0 w : World} {b k dp U Y s : Nat} (h : Hl w0 w b k dp U Y) (hY : Y < 2 ^ 1024) (hs : 1 ≤ s) (hs1 : s ≤ 60) (hC : CheatsB w b) :
    Calls Tryz.prog 84 #[.pointer (some ⟨b, 0, none⟩), .int .u64 s] w fun e w' => e = .returned (.tuple #[]) ∧ CheatsB w' b ∧ ∃ k2 dp2 U2, Hl w0 w' b k2 dp2 U2 (Y * 2 ^ s) := by
  have hb := h.bound hY
  have hk := h.le
  refine (left_c b s k dp U w h.nm.here hs hs1 (by omega) (by omega) hC.plain).mono ?_
  rintro e w' ⟨rfl, δ, k2, U2, _, hN, hk2, hv⟩
  refine ⟨rfl, hC.grown ?_, k2, dp + δ, U2, h.nm.join hN, by omega, ?_⟩
  · obtain ⟨g, hD, _⟩ := hN
    exact hD.1
  · rw [h.eq, Nat.mul_right_comm, hv, Nat.mul_assoc, ← Nat.pow_add, show k + δ - k2 + (dp - k) = dp + δ - k2 from by omega]
set_option maxHeartbeats 1000000 in
set_option maxRecDepth 100000 in
set_option exponentiation.threshold 2000 in
theorem shift_pos (b n dp V Y K : Nat) (w : World) (h : Hl w w b n dp V Y) (hC : CheatsB w b) (hK : 1 ≤ K) (hK1 : K ≤ 971) (hY : Y < 2 ^ 53) :
    Calls Tryz.prog 65 #[.pointer (some ⟨b, 0, none⟩), .int .i64 K] w fun e w' => e = .returned (.tuple #[]) ∧ ∃ k2 dp2 U2, Hl w w' b k2 dp2 U2 (Y * 2 ^ K) := by
  have hYs : ∀ j, j ≤ 971 → Y * 2 ^ j < 2 ^ 1024 := fun j hj => by
    have h1 : Y * 2 ^ j < 2 ^ 53 * 2 ^ j := Nat.mul_lt_mul_of_pos_right hY (Nat.pow_pos (by decide))
    rw [← Nat.pow_add] at h1
    exact Nat.lt_of_lt_of_le h1 (Nat.pow_le_pow_right (by decide) (by omega))
  have KY := Lib.hid hYs
  have c0 := h.nm.cn
  have hn0 : ((n : Int) == 0) = false := by have := h.nm.pos; simp; omega
  have KH := Lib.hid h
  have KC := Lib.hid hC
  clear h hC hYs hY
  have hKd : (0 < K) = True := eq_true (by omega)
  go_enter Tryz.func65, Tryz.ntmps65
  go_wp2_with fail
  go_loopw [1] (fun v1 wr => ∃ j kk : Nat, j + kk = K ∧ 1 ≤ kk ∧ v1 = .int .i64 kk ∧ Hid (CheatsB wr b ∧ ∃ k2 dp2 U2, Hl w wr b k2 dp2 U2 (Y * 2 ^ j))) (fun v1 _ => (intOf v1).toNat)
  case atStart => exact ⟨0, K, by omega, hK, rfl, Lib.hid ⟨KC.out, n, dp, V, by rw [Nat.pow_zero, Nat.mul_one]; exact KH.out⟩⟩
  case round =>
    clear KH KC c0
    obtain ⟨j, kk, hjk, hkk, rfl, HR⟩ := hrel
    by_cases h60 : 60 < kk
    · have HL : Hid (Calls Tryz.prog 84 #[.pointer (some ⟨b, 0, none⟩), .int .u64 60] wr fun e w' => e = .returned (.tuple #[]) ∧ CheatsB w' b ∧ ∃ k2 dp2 U2, Hl w w' b k2 dp2 U2 (Y * 2 ^ (j + 60))) := Lib.hid (by
        obtain ⟨hc, k2, dp2, U2, hh⟩ := HR.out
        refine (hh.left (KY.out j (by omega)) (s := 60) (by omega) (by omega) hc).mono ?_
        rintro e w' ⟨rfl, h1, k3, dp3, U3, h2⟩
        exact ⟨rfl, h1, k3, dp3, U3, by rw [Nat.pow_add, ← Nat.mul_assoc]; exact h2⟩)
      clear HR
      go_wp2_with fail
      refine HL.out.mono ?_
      rintro e w' ⟨rfl, h⟩
      have HH := Lib.hid h
      clear h HL
      go_wp2_with fail
      go_roundw
      case rel => exact ⟨j + 60, kk - 60, by omega, by omega, congrArg (Value.int .i64) (by omega), HH⟩
      case measure => simp [intOf] <;> omega
    · have HL : Hid (Calls Tryz.prog 84 #[.pointer (some ⟨b, 0, none⟩), .int .u64 kk] wr fun e w' => e = .returned (.tuple #[]) ∧ ∃ k2 dp2 U2, Hl w w' b k2 dp2 U2 (Y * 2 ^ K)) := Lib.hid (by
        obtain ⟨hc, k2, dp2, U2, hh⟩ := HR.out
        refine (hh.left (KY.out j (by omega)) (s := kk) (by omega) (by omega) hc).mono ?_
        rintro e w' ⟨rfl, h1, k3, dp3, U3, h2⟩
        exact ⟨rfl, k3, dp3, U3, by rw [← hjk, Nat.pow_add, ← Nat.mul_assoc]; exact h2⟩)
      clear HR
      go_wp2_with fail
      refine HL.out.mono ?_
      rintro e w' ⟨rfl, h⟩
      have HH := Lib.hid h
      clear h HL
      go_wp2_with fail
      go_returns
      exact ⟨rfl, HH.out⟩
set_option maxRecDepth 100000 in
theorem shift_zero (b n dp V : Nat) (w : World) (h : Nm w w b n dp V) :
    Calls Tryz.prog 65 #[.pointer (some ⟨b, 0, none⟩), .int .i64 0] w fun e w' => e = .returned (.tuple #[]) ∧ w' = w := by
  have c0 := h.cn
  have hn0 : ((n : Int) == 0) = false := by have := h.pos; simp; omega
  clear h
  go_enter Tryz.func65, Tryz.ntmps65
  go_wp2_with fail
  go_returns
  exact ⟨rfl, rfl⟩
set_option maxRecDepth 100000 in
theorem shift_neg (b n dp V Y s : Nat) (w : World) (h : Hl w w b n dp V Y) (hs : 1 ≤ s) (hs1 : s ≤ 13) (hdp : dp ≤ 20) (hY : 2 ^ s ≤ Y) :
    Calls Tryz.prog 65 #[.pointer (some ⟨b, 0, none⟩), .int .i64 (-(s : Int))] w fun e w' => e = .returned (.tuple #[]) ∧ ∃ a k U : Nat, a ≤ 20 ∧ k ≤ 60 ∧ Nm w w' b k a U ∧ Y * 10 ^ k = U * 2 ^ s * 10 ^ a := by
  have c0 := h.nm.cn
  have hn0 : ((n : Int) == 0) = false := by have := h.nm.pos; simp; omega
  have hle := h.le
  have HL := Lib.hid (right_c b s n dp V Y w h.nm hs hs1 (by omega) hdp (by rw [h.eq, Nat.mul_assoc, ← Nat.pow_add, show dp - n + n = dp from by omega]) hY)
  clear h hY
  have h1 : IntKind.u64.wrap (- -(s : Int)) = s := by rw [IntKind.wrap_u64]; omega
  go_enter Tryz.func65, Tryz.ntmps65
  go_wp2_with fail
  refine wp_loop_rounds 1 ?_
  rw [rounds_succ]
  go_wp2_with fail
  refine HL.out.mono ?_
  rintro e w' ⟨rfl, h⟩
  have HH := Lib.hid h
  clear h HL
  go_wp2_with fail
  go_returns
  exact ⟨rfl, HH.out⟩
end Go.Proofs.YtdbjoiojiibdgaaGreatDoor
