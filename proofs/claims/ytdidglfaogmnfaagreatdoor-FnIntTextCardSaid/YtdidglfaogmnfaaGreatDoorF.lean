/-
  A part of the proof of FnIntText: two words by one: divWW.
-/
import Derived.Test.YtdidglfaogmnfaaGreatDoorE
namespace Go.Proofs.YtdidglfaogmnfaaGreatDoor
open Go.RowKit

set_option maxHeartbeats 1000000 in
set_option maxRecDepth 100000 in
theorem divWW_walk (x1 x0 d m a b s c z t p1 p0 r0 b1 r1 b2 q r : Nat) (hd : 9223372036854775808 ≤ d) (hd1 : d < 18446744073709551616)
    (ma : ∀ w : World, Calls Tryz.prog 88 #[.int .u64 m, .int .u64 x1] w fun e w' => e = .returned (.tuple #[.int .u64 a, .int .u64 b]) ∧ w' = w)
    (ad : ∀ w : World, Calls Tryz.prog 135 #[.int .u64 b, .int .u64 x0, .int .u64 0] w fun e w' => e = .returned (.tuple #[.int .u64 s, .int .u64 c]) ∧ w' = w)
    (ae : ∀ w : World, Calls Tryz.prog 135 #[.int .u64 a, .int .u64 x1, .int .u64 c] w fun e w' => e = .returned (.tuple #[.int .u64 t, .int .u64 z]) ∧ w' = w)
    (mb : ∀ w : World, Calls Tryz.prog 88 #[.int .u64 d, .int .u64 t] w fun e w' => e = .returned (.tuple #[.int .u64 p1, .int .u64 p0]) ∧ w' = w)
    (sa : ∀ w : World, Calls Tryz.prog 141 #[.int .u64 x0, .int .u64 p0, .int .u64 0] w fun e w' => e = .returned (.tuple #[.int .u64 r0, .int .u64 b1]) ∧ w' = w)
    (sb : ∀ w : World, Calls Tryz.prog 141 #[.int .u64 x1, .int .u64 p1, .int .u64 b1] w fun e w' => e = .returned (.tuple #[.int .u64 r1, .int .u64 b2]) ∧ w' = w)
    (hr : r < d) (hq : q < 18446744073709551616)
    (hc : (r1 = 0 ∧ r0 = r ∧ q = t) ∨ (r1 = 0 ∧ r0 = r + d ∧ q = t + 1 ∧ r0 < 18446744073709551616) ∨ (r1 = 1 ∧ r0 + 18446744073709551616 = r + d ∧ q = t + 1) ∨ (r1 = 1 ∧ r0 + 18446744073709551616 = r + d + d ∧ q = t + 2 ∧ r + d < 18446744073709551616)) (w : World) :
    Calls Tryz.prog 104 #[.int .u64 x1, .int .u64 x0, .int .u64 d, .int .u64 m] w fun e w' => e = .returned (.tuple #[.int .u64 q, .int .u64 r]) ∧ w' = w := by
  have hn := nlz_c d hd hd1
  have e0 : IntKind.u64.wrap (r : Int) = (r : Int) := by rw [IntKind.wrap_u64]; omega
  have e1 : IntKind.u64.wrap (q : Int) = (q : Int) := by rw [IntKind.wrap_u64]; omega
  have hnd : ¬ d ≤ r := by omega
  rcases hc with ⟨rfl, rfl, rfl⟩ | ⟨rfl, h1, rfl, h3⟩ | ⟨rfl, h1, rfl⟩ | ⟨rfl, h1, rfl, h3⟩
  · clear hd hd1 hr hq
    go_enter Tryz.func104, Tryz.ntmps104
    go_wp2_with fail
    refine (hn _).mono ?_; rintro e w' ⟨rfl, rfl⟩; go_wp2_with fail
    refine (ma _).mono ?_; rintro e w' ⟨rfl, rfl⟩; go_wp2_with fail
    refine (ad _).mono ?_; rintro e w' ⟨rfl, rfl⟩; go_wp2_with fail
    refine (ae _).mono ?_; rintro e w' ⟨rfl, rfl⟩; go_wp2_with fail
    refine (mb _).mono ?_; rintro e w' ⟨rfl, rfl⟩; go_wp2_with fail
    refine (sa _).mono ?_; rintro e w' ⟨rfl, rfl⟩; go_wp2_with fail
    refine (sb _).mono ?_; rintro e w' ⟨rfl, rfl⟩; go_wp2_with fail
    go_returns
    exact ⟨rfl, rfl⟩
  · have e2 : IntKind.u64.wrap ((r0 : Int) - (d : Int)) = (r : Int) := by rw [IntKind.wrap_u64]; omega
    have e3 : IntKind.u64.wrap ((t : Int) + 1) = (t : Int) + 1 := by rw [IntKind.wrap_u64]; omega
    have hge : d ≤ r0 := by omega
    clear hd hd1 hr hq h1 h3
    go_enter Tryz.func104, Tryz.ntmps104
    go_wp2_with fail
    refine (hn _).mono ?_; rintro e w' ⟨rfl, rfl⟩; go_wp2_with fail
    refine (ma _).mono ?_; rintro e w' ⟨rfl, rfl⟩; go_wp2_with fail
    refine (ad _).mono ?_; rintro e w' ⟨rfl, rfl⟩; go_wp2_with fail
    refine (ae _).mono ?_; rintro e w' ⟨rfl, rfl⟩; go_wp2_with fail
    refine (mb _).mono ?_; rintro e w' ⟨rfl, rfl⟩; go_wp2_with fail
    refine (sa _).mono ?_; rintro e w' ⟨rfl, rfl⟩; go_wp2_with fail
    refine (sb _).mono ?_; rintro e w' ⟨rfl, rfl⟩; go_wp2_with fail
    go_returns
    exact ⟨rfl, rfl⟩
  · have e2 : IntKind.u64.wrap ((r0 : Int) - (d : Int)) = (r : Int) := by rw [IntKind.wrap_u64]; omega
    have e3 : IntKind.u64.wrap ((t : Int) + 1) = (t : Int) + 1 := by rw [IntKind.wrap_u64]; omega
    clear hd hd1 hr hq h1
    go_enter Tryz.func104, Tryz.ntmps104
    go_wp2_with fail
    refine (hn _).mono ?_; rintro e w' ⟨rfl, rfl⟩; go_wp2_with fail
    refine (ma _).mono ?_; rintro e w' ⟨rfl, rfl⟩; go_wp2_with fail
    refine (ad _).mono ?_; rintro e w' ⟨rfl, rfl⟩; go_wp2_with fail
    refine (ae _).mono ?_; rintro e w' ⟨rfl, rfl⟩; go_wp2_with fail
    refine (mb _).mono ?_; rintro e w' ⟨rfl, rfl⟩; go_wp2_with fail
    refine (sa _).mono ?_; rintro e w' ⟨rfl, rfl⟩; go_wp2_with fail
    refine (sb _).mono ?_; rintro e w' ⟨rfl, rfl⟩; go_wp2_with fail
    go_returns
    exact ⟨rfl, rfl⟩
  · obtain ⟨y, hy⟩ : ∃ y, y = r + d := ⟨_, rfl⟩
    have e2 : IntKind.u64.wrap ((r0 : Int) - (d : Int)) = (y : Int) := by rw [IntKind.wrap_u64]; omega
    have e3 : IntKind.u64.wrap ((t : Int) + 1) = (t : Int) + 1 := by rw [IntKind.wrap_u64]; omega
    have e4 : IntKind.u64.wrap ((t : Int) + 1 + 1) = ((t + 2 : Nat) : Int) := by rw [IntKind.wrap_u64]; omega
    have e5 : IntKind.u64.wrap ((y : Int) - (d : Int)) = (r : Int) := by rw [IntKind.wrap_u64]; omega
    have hge : d ≤ y := by omega
    clear hd hd1 hr hq h1 h3 hy
    go_enter Tryz.func104, Tryz.ntmps104
    go_wp2_with fail
    refine (hn _).mono ?_; rintro e w' ⟨rfl, rfl⟩; go_wp2_with fail
    refine (ma _).mono ?_; rintro e w' ⟨rfl, rfl⟩; go_wp2_with fail
    refine (ad _).mono ?_; rintro e w' ⟨rfl, rfl⟩; go_wp2_with fail
    refine (ae _).mono ?_; rintro e w' ⟨rfl, rfl⟩; go_wp2_with fail
    refine (mb _).mono ?_; rintro e w' ⟨rfl, rfl⟩; go_wp2_with fail
    refine (sa _).mono ?_; rintro e w' ⟨rfl, rfl⟩; go_wp2_with fail
    refine (sb _).mono ?_; rintro e w' ⟨rfl, rfl⟩; go_wp2_with fail
    go_returns
    exact ⟨rfl, rfl⟩
set_option maxRecDepth 100000 in
theorem divWW_c (d m x1 x0 : Nat) (hD : Dv d m) (h1 : x1 < d) (h0 : x0 < 18446744073709551616) (w : World) :
    Calls Tryz.prog 104 #[.int .u64 x1, .int .u64 x0, .int .u64 d, .int .u64 m] w fun e w' => e = .returned (.tuple #[.int .u64 ((x1 * 18446744073709551616 + x0) / d : Nat), .int .u64 ((x1 * 18446744073709551616 + x0) % d : Nat)]) ∧ w' = w := by
  obtain ⟨hd, hd1, hm, hrec, _⟩ := hD
  have hg := guess_law d m x1 x0 hd1 (by omega) hrec h1 h0
  obtain ⟨a, b, g1, g2, g3, g4⟩ := mul_c m x1 hm (by omega)
  obtain ⟨s, c, k1, k2, k3, k4⟩ := add_c b x0 0 g2 h0 (by omega)
  obtain ⟨t, z, l1, l2, l3, l4⟩ := add_c a x1 c g1 (by omega) k2
  have et : (m * x1 + x0) / 18446744073709551616 + x1 = z * 18446744073709551616 + t := by omega
  rw [et] at hg
  have hz : z = 0 := by
    rcases Nat.eq_zero_or_pos z with e | e
    · exact e
    · have : d * 18446744073709551616 ≤ d * (z * 18446744073709551616 + t) := Nat.mul_le_mul_left d (by omega)
      have h2 : (x1 + 1) * 18446744073709551616 ≤ d * 18446744073709551616 := Nat.mul_le_mul_right _ h1
      omega
  subst hz
  rw [Nat.zero_mul, Nat.zero_add] at hg
  obtain ⟨p1, p0, n1, n2, n3, n4⟩ := mul_c d t hd1 l1
  rw [n3] at hg
  obtain ⟨r0, b1, o1, o2, o3, o4⟩ := sub_c x0 p0 0 h0 n2 (by omega)
  obtain ⟨r1, b2, q1, q2, q3, q4⟩ := sub_c x1 p1 b1 (by omega) n1 o2
  have hb2 : b2 = 0 := by omega
  subst hb2
  have hX : x1 * 18446744073709551616 + x0 = d * t + (r1 * 18446744073709551616 + r0) := by omega
  have hr1 : r1 ≤ 1 := by omega
  have hlt : r1 * 18446744073709551616 + r0 < 18446744073709551616 + d := by omega
  have key : ∀ k r, r1 * 18446744073709551616 + r0 = k * d + r → r < d → (x1 * 18446744073709551616 + x0) / d = t + k ∧ (x1 * 18446744073709551616 + x0) % d = r := fun k r e hr => by
    rw [hX, e]
    have e2 : d * t + (k * d + r) = r + (t + k) * d := by rw [Nat.add_mul, Nat.mul_comm d]; omega
    rw [e2]
    exact ⟨by rw [Nat.add_mul_div_right _ _ (by omega), Nat.div_eq_of_lt hr, Nat.zero_add], by rw [Nat.add_mul_mod_self_right, Nat.mod_eq_of_lt hr]⟩
  have hql := guess_less h1 h0
  have fin : ∀ q r, (x1 * 18446744073709551616 + x0) / d = q ∧ (x1 * 18446744073709551616 + x0) % d = r → r < d → ((r1 = 0 ∧ r0 = r ∧ q = t) ∨ (r1 = 0 ∧ r0 = r + d ∧ q = t + 1 ∧ r0 < 18446744073709551616) ∨ (r1 = 1 ∧ r0 + 18446744073709551616 = r + d ∧ q = t + 1) ∨ (r1 = 1 ∧ r0 + 18446744073709551616 = r + d + d ∧ q = t + 2 ∧ r + d < 18446744073709551616)) →
      Calls Tryz.prog 104 #[.int .u64 x1, .int .u64 x0, .int .u64 d, .int .u64 m] w fun e w' => e = .returned (.tuple #[.int .u64 ((x1 * 18446744073709551616 + x0) / d : Nat), .int .u64 ((x1 * 18446744073709551616 + x0) % d : Nat)]) ∧ w' = w := fun q r e hr hc => by
    rw [e.1, e.2]
    rw [e.1] at hql
    exact divWW_walk x1 x0 d m a b s c 0 t p1 p0 r0 b1 r1 0 q r hd hd1 g4 k4 l4 n4 o4 q4 hr hql hc w
  have hcase : r1 = 0 ∨ r1 = 1 := by omega
  clear hrec hg g1 g2 g3 g4 k1 k2 k3 k4 l1 l2 l3 l4 n1 n2 n3 n4 o2 o3 o4 q1 q3 q4 et hX hql hr1 hm h0 h1
  rcases hcase with e | e
  · subst e
    by_cases c1 : r0 < d
    · exact fin (t + 0) r0 (key 0 r0 (by omega) c1) c1 (Or.inl ⟨rfl, rfl, rfl⟩)
    · exact fin (t + 1) (r0 - d) (key 1 (r0 - d) (by omega) (by omega)) (by omega) (Or.inr (Or.inl ⟨rfl, by omega, rfl, o1⟩))
  · subst e
    by_cases c1 : r0 + 18446744073709551616 - d < d
    · exact fin (t + 1) (r0 + 18446744073709551616 - d) (key 1 _ (by omega) c1) c1 (Or.inr (Or.inr (Or.inl ⟨rfl, by omega, rfl⟩)))
    · exact fin (t + 2) (r0 + 18446744073709551616 - d - d) (key 2 _ (by omega) (by omega)) (by omega) (Or.inr (Or.inr (Or.inr ⟨rfl, by omega, rfl, by omega⟩)))
end Go.Proofs.YtdidglfaogmnfaaGreatDoor
