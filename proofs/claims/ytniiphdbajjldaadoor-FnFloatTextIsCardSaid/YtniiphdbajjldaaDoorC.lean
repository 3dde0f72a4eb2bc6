/-
  A part of the proof of FnFloatTextIs: shortFloat at float64: some digits and some exponent, the same in every world that holds the tables.
-/
import Derived.Test.YtniiphdbajjldaaDoorB
namespace Go.Proofs.YtniiphdbajjldaaDoor
open Go.RowKit
theorem drewN_below {B : Nat} {a w : World} (n : Nat) : Below B a w = Below B a (w.drewN n) :=
  propext ⟨fun h => ⟨h.os, h.tape, h.output, h.size, h.block⟩, fun h => ⟨h.os, h.tape, h.output, h.size, h.block⟩⟩

set_option maxHeartbeats 2000000 in
theorem short_1 (e : Int) (he0 : -1085 < e) (he1 : e ≤ 971) : ∃ d p : Int, U64 d ∧ -400 ≤ p ∧ p ≤ 400 ∧ ∀ w : World, PowTab w →
    Calls Tryd.prog 39 #[.int .u64 9223372036854775808, .int .i64 e] w fun en w' => en = .returned (.tuple #[.int .u64 d, .int .i64 p]) ∧ Below w.heap.size w w' := by
  obtain ⟨p, hp⟩ : ∃ p, p = -(((e + 11) * 631305 - 261663) / 2097152) := ⟨_, rfl⟩
  have hp0 : -348 ≤ p := by omega
  have hp1 : p < 348 := by omega
  have hs0 : 0 ≤ -(e + p * 108853 / 32768 + 3) := by omega
  have hs1 : -(e + p * 108853 / 32768 + 3) < 64 := by omega
  have hl0 : -2000 ≤ p * 108853 / 32768 := by omega
  have hl1 : p * 108853 / 32768 ≤ 2000 := by omega
  obtain ⟨hph, hpl⟩ := ph_u (p + 348).toNat
  obtain ⟨s, hs⟩ : ∃ s, s = -(e + p * 108853 / 32768 + 3) := ⟨_, rfl⟩
  rw [← hs] at hs0 hs1
  obtain ⟨mn, hmn⟩ : ∃ x, x = 9223372036854775296 := ⟨_, rfl⟩
  obtain ⟨mx, hmx⟩ : ∃ x, x = 9223372036854776832 := ⟨_, rfl⟩
  have hmnu : U64 mn := by rw [hmn]; exact ⟨by omega, by omega⟩
  have hmxu : U64 mx := by rw [hmx]; exact ⟨by omega, by omega⟩
  obtain ⟨u1, hu1, H1⟩ := uscale_at mn _ _ s hmnu hph hpl hs0 hs1
  obtain ⟨u2, hu2, H2⟩ := uscale_at mx _ _ s hmxu hph hpl hs0 hs1
  obtain ⟨u3, hu3, H3⟩ := uscale_at 9223372036854775808 _ _ s ⟨by omega, by omega⟩ hph hpl hs0 hs1
  obtain ⟨od, ho⟩ : ∃ od, bits BinOp.and IntKind.i64 4503599627370496 1 = od := ⟨_, rfl⟩
  have ho0 : 0 ≤ od := by rw [← ho, i64_and1]; omega
  have ho1 : od ≤ 1 := by rw [← ho, i64_and1]; omega
  obtain ⟨dn, hdn⟩ : ∃ x, x = uceil (unudge u1 od) := ⟨_, rfl⟩
  obtain ⟨dx, hdx⟩ : ∃ x, x = ufloor (unudge u2 (-od)) := ⟨_, rfl⟩
  have hn : U64 dn := hdn ▸ uceil_u _
  have hx : U64 dx := hdx ▸ ufloor_u (unudge_u _ _)
  have HP := Lib.hid hp
  have HS := Lib.hid hs
  subst hmn hmx
  have K1 := Lib.hid H1
  have K2 := Lib.hid H2
  have K3 := Lib.hid H3
  have KN := Lib.hid hdn
  have KX := Lib.hid hdx
  clear hp hs H1 H2 H3 hdn hdx
  have R3 := uround_u u3
  obtain ⟨hn0, hn1⟩ := hn
  obtain ⟨hx0, hx1⟩ := hx
  obtain ⟨F, hF⟩ : ∃ F : Int × Int, F = if dn ≤ dx / 10 * 10 then (dx / 10, -(p - 1)) else if dn < dx then (uround u3, -p) else (dn, -p) := ⟨_, rfl⟩
  have hFu : U64 F.1 ∧ -400 ≤ F.2 ∧ F.2 ≤ 400 := by
    rw [hF]
    split
    · exact ⟨⟨by dsimp only; omega, by dsimp only; omega⟩, by dsimp only; omega, by dsimp only; omega⟩
    · split
      · exact ⟨R3, by dsimp only; omega, by dsimp only; omega⟩
      · exact ⟨⟨hn0, hn1⟩, by dsimp only; omega, by dsimp only; omega⟩
  have HF := Lib.hid hF
  clear hF
  refine ⟨F.1, F.2, hFu.1, hFu.2.1, hFu.2.2, fun w hP => ?_⟩
  all_goals (
    by_cases c1 : dn ≤ dx / 10 * 10
    · have hf : F = (dx / 10, -(p - 1)) := by rw [HF.out, if_pos c1]
      rw [hf]
      clear hf HF R3
      go_enter Tryd.func39, Tryd.ntmps39
      go_wp2_with (first | (go_at_call 45; go_in) | (go_at_call 47; go_in))
      rw [← HP.out]
      refine (prescale_any e p _ w hp0 hp1 (by omega) (by omega) hl0 hl1 hP).mono ?_
      rintro en w' ⟨rfl, rfl⟩
      rw [← HS.out]
      go_wp2_with fail
      refine (K1.out _ 0).mono ?_
      rintro en w' ⟨rfl, n, rfl⟩
      go_wp2_with fail
      refine (nudge_c _ _ _).mono ?_
      rintro en w' ⟨rfl, rfl⟩
      go_wp2_with fail
      refine (ceil_c _ (unudge_u _ _) _).mono ?_
      rintro en w' ⟨rfl, rfl⟩
      rw [← KN.out]
      go_wp2_with fail
      refine (K2.out _ _).mono ?_
      rintro en w' ⟨rfl, n2, rfl⟩
      go_wp2_with fail
      refine (nudge_c _ _ _).mono ?_
      rintro en w' ⟨rfl, rfl⟩
      go_wp2_with fail
      refine (floor_c _ (unudge_u _ _) _).mono ?_
      rintro en w' ⟨rfl, rfl⟩
      rw [← KX.out]
      go_wp2_with fail
      go_ret2
      refine ⟨rfl, ?_⟩
      rw [← drewN_below]
      exact (Below.refl _ _).alloc (Nat.le_refl _) _
    · by_cases c2 : dn < dx
      · have hf : F = (uround u3, -p) := by rw [HF.out, if_neg c1, if_pos c2]
        rw [hf]
        replace c1 : dx / 10 * 10 < dn := by omega
        clear hf HF
        obtain ⟨R30, R31⟩ := R3
        go_enter Tryd.func39, Tryd.ntmps39
        go_wp2_with (first | (go_at_call 45; go_in) | (go_at_call 47; go_in))
        rw [← HP.out]
        refine (prescale_any e p _ w hp0 hp1 (by omega) (by omega) hl0 hl1 hP).mono ?_
        rintro en w' ⟨rfl, rfl⟩
        rw [← HS.out]
        go_wp2_with fail
        refine (K1.out _ 0).mono ?_
        rintro en w' ⟨rfl, n, rfl⟩
        go_wp2_with fail
        refine (nudge_c _ _ _).mono ?_
        rintro en w' ⟨rfl, rfl⟩
        go_wp2_with fail
        refine (ceil_c _ (unudge_u _ _) _).mono ?_
        rintro en w' ⟨rfl, rfl⟩
        rw [← KN.out]
        go_wp2_with fail
        refine (K2.out _ _).mono ?_
        rintro en w' ⟨rfl, n2, rfl⟩
        go_wp2_with fail
        refine (nudge_c _ _ _).mono ?_
        rintro en w' ⟨rfl, rfl⟩
        go_wp2_with fail
        refine (floor_c _ (unudge_u _ _) _).mono ?_
        rintro en w' ⟨rfl, rfl⟩
        rw [← KX.out]
        go_wp2_with fail
        refine (K3.out _ _).mono ?_
        rintro en w' ⟨rfl, n3, rfl⟩
        go_wp2_with fail
        refine (round_c _ hu3 _).mono ?_
        rintro en w' ⟨rfl, rfl⟩
        go_wp2_with fail
        go_ret2
        refine ⟨rfl, ?_⟩
        rw [← drewN_below]
        exact (Below.refl _ _).alloc (Nat.le_refl _) _
      · have hf : F = (dn, -p) := by rw [HF.out, if_neg c1, if_neg c2]
        rw [hf]
        replace c1 : dx / 10 * 10 < dn := by omega
        replace c2 : dx ≤ dn := by omega
        clear hf HF R3
        go_enter Tryd.func39, Tryd.ntmps39
        go_wp2_with (first | (go_at_call 45; go_in) | (go_at_call 47; go_in))
        rw [← HP.out]
        refine (prescale_any e p _ w hp0 hp1 (by omega) (by omega) hl0 hl1 hP).mono ?_
        rintro en w' ⟨rfl, rfl⟩
        rw [← HS.out]
        go_wp2_with fail
        refine (K1.out _ 0).mono ?_
        rintro en w' ⟨rfl, n, rfl⟩
        go_wp2_with fail
        refine (nudge_c _ _ _).mono ?_
        rintro en w' ⟨rfl, rfl⟩
        go_wp2_with fail
        refine (ceil_c _ (unudge_u _ _) _).mono ?_
        rintro en w' ⟨rfl, rfl⟩
        rw [← KN.out]
        go_wp2_with fail
        refine (K2.out _ _).mono ?_
        rintro en w' ⟨rfl, n2, rfl⟩
        go_wp2_with fail
        refine (nudge_c _ _ _).mono ?_
        rintro en w' ⟨rfl, rfl⟩
        go_wp2_with fail
        refine (floor_c _ (unudge_u _ _) _).mono ?_
        rintro en w' ⟨rfl, rfl⟩
        rw [← KX.out]
        go_wp2_with fail
        go_ret2
        refine ⟨rfl, ?_⟩
        rw [← drewN_below]
        exact (Below.refl _ _).alloc (Nat.le_refl _) _)

set_option maxHeartbeats 2000000 in
theorem short_2 (m e : Int) (hm0 : 9223372036854775808 ≤ m) (hm1 : m ≤ 18446744073709549568) (he0 : -1085 ≤ e) (he1 : e ≤ 971) (hb : (m == 9223372036854775808) = false) : ∃ d p : Int, U64 d ∧ -400 ≤ p ∧ p ≤ 400 ∧ ∀ w : World, PowTab w →
    Calls Tryd.prog 39 #[.int .u64 m, .int .i64 e] w fun en w' => en = .returned (.tuple #[.int .u64 d, .int .i64 p]) ∧ Below w.heap.size w w' := by
  obtain ⟨p, hp⟩ : ∃ p, p = -((e + 11) * 78913 / 262144) := ⟨_, rfl⟩
  have hp0 : -348 ≤ p := by omega
  have hp1 : p < 348 := by omega
  have hs0 : 0 ≤ -(e + p * 108853 / 32768 + 3) := by omega
  have hs1 : -(e + p * 108853 / 32768 + 3) < 64 := by omega
  have hl0 : -2000 ≤ p * 108853 / 32768 := by omega
  have hl1 : p * 108853 / 32768 ≤ 2000 := by omega
  obtain ⟨hph, hpl⟩ := ph_u (p + 348).toNat
  obtain ⟨s, hs⟩ : ∃ s, s = -(e + p * 108853 / 32768 + 3) := ⟨_, rfl⟩
  rw [← hs] at hs0 hs1
  obtain ⟨mn, hmn⟩ : ∃ x, x = m - 1024 := ⟨_, rfl⟩
  obtain ⟨mx, hmx⟩ : ∃ x, x = m + 1024 := ⟨_, rfl⟩
  have hmnu : U64 mn := by rw [hmn]; exact ⟨by omega, by omega⟩
  have hmxu : U64 mx := by rw [hmx]; exact ⟨by omega, by omega⟩
  obtain ⟨u1, hu1, H1⟩ := uscale_at mn _ _ s hmnu hph hpl hs0 hs1
  obtain ⟨u2, hu2, H2⟩ := uscale_at mx _ _ s hmxu hph hpl hs0 hs1
  obtain ⟨u3, hu3, H3⟩ := uscale_at m _ _ s ⟨by omega, by omega⟩ hph hpl hs0 hs1
  obtain ⟨od, ho⟩ : ∃ od, bits BinOp.and IntKind.i64 (m / 2048) 1 = od := ⟨_, rfl⟩
  have ho0 : 0 ≤ od := by rw [← ho, i64_and1]; omega
  have ho1 : od ≤ 1 := by rw [← ho, i64_and1]; omega
  obtain ⟨dn, hdn⟩ : ∃ x, x = uceil (unudge u1 od) := ⟨_, rfl⟩
  obtain ⟨dx, hdx⟩ : ∃ x, x = ufloor (unudge u2 (-od)) := ⟨_, rfl⟩
  have hn : U64 dn := hdn ▸ uceil_u _
  have hx : U64 dx := hdx ▸ ufloor_u (unudge_u _ _)
  have HP := Lib.hid hp
  have HS := Lib.hid hs
  have HMN := Lib.hid hmn
  have HMX := Lib.hid hmx
  have K1 := Lib.hid H1
  have K2 := Lib.hid H2
  have K3 := Lib.hid H3
  have KN := Lib.hid hdn
  have KX := Lib.hid hdx
  clear hp hs H1 H2 H3 hdn hdx hmn hmx
  have R3 := uround_u u3
  obtain ⟨hn0, hn1⟩ := hn
  obtain ⟨hx0, hx1⟩ := hx
  obtain ⟨F, hF⟩ : ∃ F : Int × Int, F = if dn ≤ dx / 10 * 10 then (dx / 10, -(p - 1)) else if dn < dx then (uround u3, -p) else (dn, -p) := ⟨_, rfl⟩
  have hFu : U64 F.1 ∧ -400 ≤ F.2 ∧ F.2 ≤ 400 := by
    rw [hF]
    split
    · exact ⟨⟨by dsimp only; omega, by dsimp only; omega⟩, by dsimp only; omega, by dsimp only; omega⟩
    · split
      · exact ⟨R3, by dsimp only; omega, by dsimp only; omega⟩
      · exact ⟨⟨hn0, hn1⟩, by dsimp only; omega, by dsimp only; omega⟩
  have HF := Lib.hid hF
  clear hF
  refine ⟨F.1, F.2, hFu.1, hFu.2.1, hFu.2.2, fun w hP => ?_⟩
  all_goals (
    by_cases c1 : dn ≤ dx / 10 * 10
    · have hf : F = (dx / 10, -(p - 1)) := by rw [HF.out, if_pos c1]
      rw [hf]
      clear hf HF R3
      go_enter Tryd.func39, Tryd.ntmps39
      go_wp2_with (first | (go_at_call 34; go_in) | (go_at_call 47; go_in))
      rw [← HP.out]
      refine (prescale_any e p _ w hp0 hp1 (by omega) (by omega) hl0 hl1 hP).mono ?_
      rintro en w' ⟨rfl, rfl⟩
      rw [← HS.out]
      go_wp2_with fail
      rw [← HMN.out]
      refine (K1.out _ 0).mono ?_
      rintro en w' ⟨rfl, n, rfl⟩
      go_wp2_with fail
      refine (nudge_c _ _ _).mono ?_
      rintro en w' ⟨rfl, rfl⟩
      go_wp2_with fail
      refine (ceil_c _ (unudge_u _ _) _).mono ?_
      rintro en w' ⟨rfl, rfl⟩
      rw [← KN.out]
      go_wp2_with fail
      rw [← HMX.out]
      refine (K2.out _ _).mono ?_
      rintro en w' ⟨rfl, n2, rfl⟩
      go_wp2_with fail
      refine (nudge_c _ _ _).mono ?_
      rintro en w' ⟨rfl, rfl⟩
      go_wp2_with fail
      refine (floor_c _ (unudge_u _ _) _).mono ?_
      rintro en w' ⟨rfl, rfl⟩
      rw [← KX.out]
      go_wp2_with fail
      go_ret2
      refine ⟨rfl, ?_⟩
      rw [← drewN_below]
      exact (Below.refl _ _).alloc (Nat.le_refl _) _
    · by_cases c2 : dn < dx
      · have hf : F = (uround u3, -p) := by rw [HF.out, if_neg c1, if_pos c2]
        rw [hf]
        replace c1 : dx / 10 * 10 < dn := by omega
        clear hf HF
        obtain ⟨R30, R31⟩ := R3
        go_enter Tryd.func39, Tryd.ntmps39
        go_wp2_with (first | (go_at_call 34; go_in) | (go_at_call 47; go_in))
        rw [← HP.out]
        refine (prescale_any e p _ w hp0 hp1 (by omega) (by omega) hl0 hl1 hP).mono ?_
        rintro en w' ⟨rfl, rfl⟩
        rw [← HS.out]
        go_wp2_with fail
        rw [← HMN.out]
        refine (K1.out _ 0).mono ?_
        rintro en w' ⟨rfl, n, rfl⟩
        go_wp2_with fail
        refine (nudge_c _ _ _).mono ?_
        rintro en w' ⟨rfl, rfl⟩
        go_wp2_with fail
        refine (ceil_c _ (unudge_u _ _) _).mono ?_
        rintro en w' ⟨rfl, rfl⟩
        rw [← KN.out]
        go_wp2_with fail
        rw [← HMX.out]
        refine (K2.out _ _).mono ?_
        rintro en w' ⟨rfl, n2, rfl⟩
        go_wp2_with fail
        refine (nudge_c _ _ _).mono ?_
        rintro en w' ⟨rfl, rfl⟩
        go_wp2_with fail
        refine (floor_c _ (unudge_u _ _) _).mono ?_
        rintro en w' ⟨rfl, rfl⟩
        rw [← KX.out]
        go_wp2_with fail
        refine (K3.out _ _).mono ?_
        rintro en w' ⟨rfl, n3, rfl⟩
        go_wp2_with fail
        refine (round_c _ hu3 _).mono ?_
        rintro en w' ⟨rfl, rfl⟩
        go_wp2_with fail
        go_ret2
        refine ⟨rfl, ?_⟩
        rw [← drewN_below]
        exact (Below.refl _ _).alloc (Nat.le_refl _) _
      · have hf : F = (dn, -p) := by rw [HF.out, if_neg c1, if_neg c2]
        rw [hf]
        replace c1 : dx / 10 * 10 < dn := by omega
        replace c2 : dx ≤ dn := by omega
        clear hf HF R3
        go_enter Tryd.func39, Tryd.ntmps39
        go_wp2_with (first | (go_at_call 34; go_in) | (go_at_call 47; go_in))
        rw [← HP.out]
        refine (prescale_any e p _ w hp0 hp1 (by omega) (by omega) hl0 hl1 hP).mono ?_
        rintro en w' ⟨rfl, rfl⟩
        rw [← HS.out]
        go_wp2_with fail
        rw [← HMN.out]
        refine (K1.out _ 0).mono ?_
        rintro en w' ⟨rfl, n, rfl⟩
        go_wp2_with fail
        refine (nudge_c _ _ _).mono ?_
        rintro en w' ⟨rfl, rfl⟩
        go_wp2_with fail
        refine (ceil_c _ (unudge_u _ _) _).mono ?_
        rintro en w' ⟨rfl, rfl⟩
        rw [← KN.out]
        go_wp2_with fail
        rw [← HMX.out]
        refine (K2.out _ _).mono ?_
        rintro en w' ⟨rfl, n2, rfl⟩
        go_wp2_with fail
        refine (nudge_c _ _ _).mono ?_
        rintro en w' ⟨rfl, rfl⟩
        go_wp2_with fail
        refine (floor_c _ (unudge_u _ _) _).mono ?_
        rintro en w' ⟨rfl, rfl⟩
        rw [← KX.out]
        go_wp2_with fail
        go_ret2
        refine ⟨rfl, ?_⟩
        rw [← drewN_below]
        exact (Below.refl _ _).alloc (Nat.le_refl _) _)

set_option maxHeartbeats 2000000 in
theorem short_3 (m e : Int) (hm0 : 9223372036854775808 ≤ m) (hm1 : m < 18446744073709551616) (he0 : -1137 ≤ e) (he1 : e < -1085) : ∃ d p : Int, U64 d ∧ -400 ≤ p ∧ p ≤ 400 ∧ ∀ w : World, PowTab w →
    Calls Tryd.prog 39 #[.int .u64 m, .int .i64 e] w fun en w' => en = .returned (.tuple #[.int .u64 d, .int .i64 p]) ∧ Below w.heap.size w w' := by
  have hbe : decide (-1085 < e) = false := by simp; omega
  obtain ⟨p, hp⟩ : ∃ p, p = -((e + (11 + (-1085 - e))) * 78913 / 262144) := ⟨_, rfl⟩
  have hp0 : -348 ≤ p := by omega
  have hp1 : p < 348 := by omega
  have hs0 : 0 ≤ -(e + p * 108853 / 32768 + 3) := by omega
  have hs1 : -(e + p * 108853 / 32768 + 3) < 64 := by omega
  have hl0 : -2000 ≤ p * 108853 / 32768 := by omega
  have hl1 : p * 108853 / 32768 ≤ 2000 := by omega
  obtain ⟨hph, hpl⟩ := ph_u (p + 348).toNat
  obtain ⟨s, hs⟩ : ∃ s, s = -(e + p * 108853 / 32768 + 3) := ⟨_, rfl⟩
  rw [← hs] at hs0 hs1
  obtain ⟨mn, hmn⟩ : ∃ x, x = IntKind.u64.wrap (m - IntKind.u64.wrap (2 ^ ((11 + (-1085 - e)).toNat - 1))) := ⟨_, rfl⟩
  obtain ⟨mx, hmx⟩ : ∃ x, x = IntKind.u64.wrap (m + IntKind.u64.wrap (2 ^ ((11 + (-1085 - e)).toNat - 1))) := ⟨_, rfl⟩
  have hmnu : U64 mn := by rw [hmn]; exact wrapu _
  have hmxu : U64 mx := by rw [hmx]; exact wrapu _
  obtain ⟨u1, hu1, H1⟩ := uscale_at mn _ _ s hmnu hph hpl hs0 hs1
  obtain ⟨u2, hu2, H2⟩ := uscale_at mx _ _ s hmxu hph hpl hs0 hs1
  obtain ⟨u3, hu3, H3⟩ := uscale_at m _ _ s ⟨by omega, by omega⟩ hph hpl hs0 hs1
  obtain ⟨od, ho⟩ : ∃ od, bits BinOp.and IntKind.i64 (wrap64 (m / 2 ^ (11 + (-1085 - e)).toNat)) 1 = od := ⟨_, rfl⟩
  have ho0 : 0 ≤ od := by rw [← ho, i64_and1]; omega
  have ho1 : od ≤ 1 := by rw [← ho, i64_and1]; omega
  obtain ⟨dn, hdn⟩ : ∃ x, x = uceil (unudge u1 od) := ⟨_, rfl⟩
  obtain ⟨dx, hdx⟩ : ∃ x, x = ufloor (unudge u2 (-od)) := ⟨_, rfl⟩
  have hn : U64 dn := hdn ▸ uceil_u _
  have hx : U64 dx := hdx ▸ ufloor_u (unudge_u _ _)
  have HP := Lib.hid hp
  have HS := Lib.hid hs
  have HMN := Lib.hid hmn
  have HMX := Lib.hid hmx
  have K1 := Lib.hid H1
  have K2 := Lib.hid H2
  have K3 := Lib.hid H3
  have KN := Lib.hid hdn
  have KX := Lib.hid hdx
  clear hp hs H1 H2 H3 hdn hdx hmn hmx
  have R3 := uround_u u3
  obtain ⟨hn0, hn1⟩ := hn
  obtain ⟨hx0, hx1⟩ := hx
  obtain ⟨F, hF⟩ : ∃ F : Int × Int, F = if dn ≤ dx / 10 * 10 then (dx / 10, -(p - 1)) else if dn < dx then (uround u3, -p) else (dn, -p) := ⟨_, rfl⟩
  have hFu : U64 F.1 ∧ -400 ≤ F.2 ∧ F.2 ≤ 400 := by
    rw [hF]
    split
    · exact ⟨⟨by dsimp only; omega, by dsimp only; omega⟩, by dsimp only; omega, by dsimp only; omega⟩
    · split
      · exact ⟨R3, by dsimp only; omega, by dsimp only; omega⟩
      · exact ⟨⟨hn0, hn1⟩, by dsimp only; omega, by dsimp only; omega⟩
  have HF := Lib.hid hF
  clear hF
  refine ⟨F.1, F.2, hFu.1, hFu.2.1, hFu.2.2, fun w hP => ?_⟩
  by_cases hb : (m == 9223372036854775808) = true
  all_goals (
    by_cases c1 : dn ≤ dx / 10 * 10
    · have hf : F = (dx / 10, -(p - 1)) := by rw [HF.out, if_pos c1]
      rw [hf]
      clear hf HF R3
      go_enter Tryd.func39, Tryd.ntmps39
      go_wp2_with (first | (go_at_call 34; go_in) | (go_at_call 47; go_in))
      rw [← HP.out]
      refine (prescale_any e p _ w hp0 hp1 (by omega) (by omega) hl0 hl1 hP).mono ?_
      rintro en w' ⟨rfl, rfl⟩
      rw [← HS.out]
      go_wp2_with fail
      rw [← HMN.out]
      refine (K1.out _ 0).mono ?_
      rintro en w' ⟨rfl, n, rfl⟩
      go_wp2_with fail
      refine (nudge_c _ _ _).mono ?_
      rintro en w' ⟨rfl, rfl⟩
      go_wp2_with fail
      refine (ceil_c _ (unudge_u _ _) _).mono ?_
      rintro en w' ⟨rfl, rfl⟩
      rw [← KN.out]
      go_wp2_with fail
      rw [← HMX.out]
      refine (K2.out _ _).mono ?_
      rintro en w' ⟨rfl, n2, rfl⟩
      go_wp2_with fail
      refine (nudge_c _ _ _).mono ?_
      rintro en w' ⟨rfl, rfl⟩
      go_wp2_with fail
      refine (floor_c _ (unudge_u _ _) _).mono ?_
      rintro en w' ⟨rfl, rfl⟩
      rw [← KX.out]
      go_wp2_with fail
      go_ret2
      refine ⟨rfl, ?_⟩
      rw [← drewN_below]
      exact (Below.refl _ _).alloc (Nat.le_refl _) _
    · by_cases c2 : dn < dx
      · have hf : F = (uround u3, -p) := by rw [HF.out, if_neg c1, if_pos c2]
        rw [hf]
        replace c1 : dx / 10 * 10 < dn := by omega
        clear hf HF
        obtain ⟨R30, R31⟩ := R3
        go_enter Tryd.func39, Tryd.ntmps39
        go_wp2_with (first | (go_at_call 34; go_in) | (go_at_call 47; go_in))
        rw [← HP.out]
        refine (prescale_any e p _ w hp0 hp1 (by omega) (by omega) hl0 hl1 hP).mono ?_
        rintro en w' ⟨rfl, rfl⟩
        rw [← HS.out]
        go_wp2_with fail
        rw [← HMN.out]
        refine (K1.out _ 0).mono ?_
        rintro en w' ⟨rfl, n, rfl⟩
        go_wp2_with fail
        refine (nudge_c _ _ _).mono ?_
        rintro en w' ⟨rfl, rfl⟩
        go_wp2_with fail
        refine (ceil_c _ (unudge_u _ _) _).mono ?_
        rintro en w' ⟨rfl, rfl⟩
        rw [← KN.out]
        go_wp2_with fail
        rw [← HMX.out]
        refine (K2.out _ _).mono ?_
        rintro en w' ⟨rfl, n2, rfl⟩
        go_wp2_with fail
        refine (nudge_c _ _ _).mono ?_
        rintro en w' ⟨rfl, rfl⟩
        go_wp2_with fail
        refine (floor_c _ (unudge_u _ _) _).mono ?_
        rintro en w' ⟨rfl, rfl⟩
        rw [← KX.out]
        go_wp2_with fail
        refine (K3.out _ _).mono ?_
        rintro en w' ⟨rfl, n3, rfl⟩
        go_wp2_with fail
        refine (round_c _ hu3 _).mono ?_
        rintro en w' ⟨rfl, rfl⟩
        go_wp2_with fail
        go_ret2
        refine ⟨rfl, ?_⟩
        rw [← drewN_below]
        exact (Below.refl _ _).alloc (Nat.le_refl _) _
      · have hf : F = (dn, -p) := by rw [HF.out, if_neg c1, if_neg c2]
        rw [hf]
        replace c1 : dx / 10 * 10 < dn := by omega
        replace c2 : dx ≤ dn := by omega
        clear hf HF R3
        go_enter Tryd.func39, Tryd.ntmps39
        go_wp2_with (first | (go_at_call 34; go_in) | (go_at_call 47; go_in))
        rw [← HP.out]
        refine (prescale_any e p _ w hp0 hp1 (by omega) (by omega) hl0 hl1 hP).mono ?_
        rintro en w' ⟨rfl, rfl⟩
        rw [← HS.out]
        go_wp2_with fail
        rw [← HMN.out]
        refine (K1.out _ 0).mono ?_
        rintro en w' ⟨rfl, n, rfl⟩
        go_wp2_with fail
        refine (nudge_c _ _ _).mono ?_
        rintro en w' ⟨rfl, rfl⟩
        go_wp2_with fail
        refine (ceil_c _ (unudge_u _ _) _).mono ?_
        rintro en w' ⟨rfl, rfl⟩
        rw [← KN.out]
        go_wp2_with fail
        rw [← HMX.out]
        refine (K2.out _ _).mono ?_
        rintro en w' ⟨rfl, n2, rfl⟩
        go_wp2_with fail
        refine (nudge_c _ _ _).mono ?_
        rintro en w' ⟨rfl, rfl⟩
        go_wp2_with fail
        refine (floor_c _ (unudge_u _ _) _).mono ?_
        rintro en w' ⟨rfl, rfl⟩
        rw [← KX.out]
        go_wp2_with fail
        go_ret2
        refine ⟨rfl, ?_⟩
        rw [← drewN_below]
        exact (Below.refl _ _).alloc (Nat.le_refl _) _)

set_option maxHeartbeats 2000000 in
theorem short_4 (e : Int) (he0 : e = -1085) : ∃ d p : Int, U64 d ∧ -400 ≤ p ∧ p ≤ 400 ∧ ∀ w : World, PowTab w →
    Calls Tryd.prog 39 #[.int .u64 9223372036854775808, .int .i64 e] w fun en w' => en = .returned (.tuple #[.int .u64 d, .int .i64 p]) ∧ Below w.heap.size w w' := by
  have hbe : decide (-1085 < e) = false := by simp; omega
  have he1 : -1085 ≤ e := by omega
  have he2 : e ≤ -1085 := by omega
  clear he0
  obtain ⟨p, hp⟩ : ∃ p, p = -((e + 11) * 78913 / 262144) := ⟨_, rfl⟩
  have hp0 : -348 ≤ p := by omega
  have hp1 : p < 348 := by omega
  have hs0 : 0 ≤ -(e + p * 108853 / 32768 + 3) := by omega
  have hs1 : -(e + p * 108853 / 32768 + 3) < 64 := by omega
  have hl0 : -2000 ≤ p * 108853 / 32768 := by omega
  have hl1 : p * 108853 / 32768 ≤ 2000 := by omega
  obtain ⟨hph, hpl⟩ := ph_u (p + 348).toNat
  obtain ⟨s, hs⟩ : ∃ s, s = -(e + p * 108853 / 32768 + 3) := ⟨_, rfl⟩
  rw [← hs] at hs0 hs1
  obtain ⟨mn, hmn⟩ : ∃ x, x = 9223372036854774784 := ⟨_, rfl⟩
  obtain ⟨mx, hmx⟩ : ∃ x, x = 9223372036854776832 := ⟨_, rfl⟩
  have hmnu : U64 mn := by rw [hmn]; exact ⟨by omega, by omega⟩
  have hmxu : U64 mx := by rw [hmx]; exact ⟨by omega, by omega⟩
  obtain ⟨u1, hu1, H1⟩ := uscale_at mn _ _ s hmnu hph hpl hs0 hs1
  obtain ⟨u2, hu2, H2⟩ := uscale_at mx _ _ s hmxu hph hpl hs0 hs1
  obtain ⟨u3, hu3, H3⟩ := uscale_at 9223372036854775808 _ _ s ⟨by omega, by omega⟩ hph hpl hs0 hs1
  obtain ⟨od, ho⟩ : ∃ od, bits BinOp.and IntKind.i64 4503599627370496 1 = od := ⟨_, rfl⟩
  have ho0 : 0 ≤ od := by rw [← ho, i64_and1]; omega
  have ho1 : od ≤ 1 := by rw [← ho, i64_and1]; omega
  obtain ⟨dn, hdn⟩ : ∃ x, x = uceil (unudge u1 od) := ⟨_, rfl⟩
  obtain ⟨dx, hdx⟩ : ∃ x, x = ufloor (unudge u2 (-od)) := ⟨_, rfl⟩
  have hn : U64 dn := hdn ▸ uceil_u _
  have hx : U64 dx := hdx ▸ ufloor_u (unudge_u _ _)
  have HP := Lib.hid hp
  have HS := Lib.hid hs
  subst hmn hmx
  have K1 := Lib.hid H1
  have K2 := Lib.hid H2
  have K3 := Lib.hid H3
  have KN := Lib.hid hdn
  have KX := Lib.hid hdx
  clear hp hs H1 H2 H3 hdn hdx
  have R3 := uround_u u3
  obtain ⟨hn0, hn1⟩ := hn
  obtain ⟨hx0, hx1⟩ := hx
  obtain ⟨F, hF⟩ : ∃ F : Int × Int, F = if dn ≤ dx / 10 * 10 then (dx / 10, -(p - 1)) else if dn < dx then (uround u3, -p) else (dn, -p) := ⟨_, rfl⟩
  have hFu : U64 F.1 ∧ -400 ≤ F.2 ∧ F.2 ≤ 400 := by
    rw [hF]
    split
    · exact ⟨⟨by dsimp only; omega, by dsimp only; omega⟩, by dsimp only; omega, by dsimp only; omega⟩
    · split
      · exact ⟨R3, by dsimp only; omega, by dsimp only; omega⟩
      · exact ⟨⟨hn0, hn1⟩, by dsimp only; omega, by dsimp only; omega⟩
  have HF := Lib.hid hF
  clear hF
  refine ⟨F.1, F.2, hFu.1, hFu.2.1, hFu.2.2, fun w hP => ?_⟩
  all_goals (
    by_cases c1 : dn ≤ dx / 10 * 10
    · have hf : F = (dx / 10, -(p - 1)) := by rw [HF.out, if_pos c1]
      rw [hf]
      clear hf HF R3
      go_enter Tryd.func39, Tryd.ntmps39
      go_wp2_with (first | (go_at_call 34; go_in) | (go_at_call 47; go_in))
      rw [← HP.out]
      refine (prescale_any e p _ w hp0 hp1 (by omega) (by omega) hl0 hl1 hP).mono ?_
      rintro en w' ⟨rfl, rfl⟩
      rw [← HS.out]
      go_wp2_with fail
      refine (K1.out _ 0).mono ?_
      rintro en w' ⟨rfl, n, rfl⟩
      go_wp2_with fail
      refine (nudge_c _ _ _).mono ?_
      rintro en w' ⟨rfl, rfl⟩
      go_wp2_with fail
      refine (ceil_c _ (unudge_u _ _) _).mono ?_
      rintro en w' ⟨rfl, rfl⟩
      rw [← KN.out]
      go_wp2_with fail
      refine (K2.out _ _).mono ?_
      rintro en w' ⟨rfl, n2, rfl⟩
      go_wp2_with fail
      refine (nudge_c _ _ _).mono ?_
      rintro en w' ⟨rfl, rfl⟩
      go_wp2_with fail
      refine (floor_c _ (unudge_u _ _) _).mono ?_
      rintro en w' ⟨rfl, rfl⟩
      rw [← KX.out]
      go_wp2_with fail
      go_ret2
      refine ⟨rfl, ?_⟩
      rw [← drewN_below]
      exact (Below.refl _ _).alloc (Nat.le_refl _) _
    · by_cases c2 : dn < dx
      · have hf : F = (uround u3, -p) := by rw [HF.out, if_neg c1, if_pos c2]
        rw [hf]
        replace c1 : dx / 10 * 10 < dn := by omega
        clear hf HF
        obtain ⟨R30, R31⟩ := R3
        go_enter Tryd.func39, Tryd.ntmps39
        go_wp2_with (first | (go_at_call 34; go_in) | (go_at_call 47; go_in))
        rw [← HP.out]
        refine (prescale_any e p _ w hp0 hp1 (by omega) (by omega) hl0 hl1 hP).mono ?_
        rintro en w' ⟨rfl, rfl⟩
        rw [← HS.out]
        go_wp2_with fail
        refine (K1.out _ 0).mono ?_
        rintro en w' ⟨rfl, n, rfl⟩
        go_wp2_with fail
        refine (nudge_c _ _ _).mono ?_
        rintro en w' ⟨rfl, rfl⟩
        go_wp2_with fail
        refine (ceil_c _ (unudge_u _ _) _).mono ?_
        rintro en w' ⟨rfl, rfl⟩
        rw [← KN.out]
        go_wp2_with fail
        refine (K2.out _ _).mono ?_
        rintro en w' ⟨rfl, n2, rfl⟩
        go_wp2_with fail
        refine (nudge_c _ _ _).mono ?_
        rintro en w' ⟨rfl, rfl⟩
        go_wp2_with fail
        refine (floor_c _ (unudge_u _ _) _).mono ?_
        rintro en w' ⟨rfl, rfl⟩
        rw [← KX.out]
        go_wp2_with fail
        refine (K3.out _ _).mono ?_
        rintro en w' ⟨rfl, n3, rfl⟩
        go_wp2_with fail
        refine (round_c _ hu3 _).mono ?_
        rintro en w' ⟨rfl, rfl⟩
        go_wp2_with fail
        go_ret2
        refine ⟨rfl, ?_⟩
        rw [← drewN_below]
        exact (Below.refl _ _).alloc (Nat.le_refl _) _
      · have hf : F = (dn, -p) := by rw [HF.out, if_neg c1, if_neg c2]
        rw [hf]
        replace c1 : dx / 10 * 10 < dn := by omega
        replace c2 : dx ≤ dn := by omega
        clear hf HF R3
        go_enter Tryd.func39, Tryd.ntmps39
        go_wp2_with (first | (go_at_call 34; go_in) | (go_at_call 47; go_in))
        rw [← HP.out]
        refine (prescale_any e p _ w hp0 hp1 (by omega) (by omega) hl0 hl1 hP).mono ?_
        rintro en w' ⟨rfl, rfl⟩
        rw [← HS.out]
        go_wp2_with fail
        refine (K1.out _ 0).mono ?_
        rintro en w' ⟨rfl, n, rfl⟩
        go_wp2_with fail
        refine (nudge_c _ _ _).mono ?_
        rintro en w' ⟨rfl, rfl⟩
        go_wp2_with fail
        refine (ceil_c _ (unudge_u _ _) _).mono ?_
        rintro en w' ⟨rfl, rfl⟩
        rw [← KN.out]
        go_wp2_with fail
        refine (K2.out _ _).mono ?_
        rintro en w' ⟨rfl, n2, rfl⟩
        go_wp2_with fail
        refine (nudge_c _ _ _).mono ?_
        rintro en w' ⟨rfl, rfl⟩
        go_wp2_with fail
        refine (floor_c _ (unudge_u _ _) _).mono ?_
        rintro en w' ⟨rfl, rfl⟩
        rw [← KX.out]
        go_wp2_with fail
        go_ret2
        refine ⟨rfl, ?_⟩
        rw [← drewN_below]
        exact (Below.refl _ _).alloc (Nat.le_refl _) _)
end Go.Proofs.YtniiphdbajjldaaDoor
