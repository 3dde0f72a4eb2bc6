/-
  A part of the proof of FnFloatTextIs: the power table as the walk reads it; prescale, nudge, ceil, floor, round.
-/
import Derived.Test.YtniiphdbajjldaaDoorA
import GoSem.PinnedTables
namespace Go.Proofs.YtniiphdbajjldaaDoor
open Go.RowKit

def ph (i : Nat) : Int := (Pinned.pow10Rows.getD i (0, 0)).1
def pl (i : Nat) : Int := (Pinned.pow10Rows.getD i (0, 0)).2
theorem pow_all : (Pinned.pow10Rows.all fun x => decide (x.1 < 18446744073709551616) && decide (x.2 < 18446744073709551616)) = true := by decide +kernel
theorem pow_len : Pinned.pow10Rows.length = 696 := by decide +kernel
theorem ph_u (i : Nat) : U64 (ph i) ∧ U64 (pl i) := by
  unfold ph pl
  rw [List.getD_eq_getElem?_getD]
  cases h : Pinned.pow10Rows[i]? with
  | none => exact ⟨⟨by simp, by simp⟩, ⟨by simp, by simp⟩⟩
  | some x =>
    have := List.all_eq_true.1 pow_all x (List.mem_of_getElem? h)
    simp only [Bool.and_eq_true, decide_eq_true_eq] at this
    simp only [Option.getD_some]
    exact ⟨⟨by omega, by omega⟩, ⟨by omega, by omega⟩⟩
def PowTab (w : World) : Prop := 8 ≤ w.heap.size ∧ ∀ i : Nat, i < 696 → w.cell? ⟨4, i * 2, none⟩ = some (.int .u64 (ph i)) ∧ w.cell? ⟨4, i * 2 + 1, none⟩ = some (.int .u64 (pl i))

set_option maxHeartbeats 400000 in
theorem prescale_any (e p lp : Int) (w : World) (h0 : -348 ≤ p) (h1 : p < 348) (he : -2000 ≤ e) (he1 : e ≤ 2000) (hl : -2000 ≤ lp) (hl1 : lp ≤ 2000) (hP : PowTab w) :
    Calls Tryd.prog 46 #[.pointer (some ⟨w.heap.size, 0, none⟩), .int .i64 e, .int .i64 p, .int .i64 lp] (w.alloc (.cells #[.int .u64 0, .int .u64 0, .int .i64 0] 78)) fun en w' =>
      en = .returned (.tuple #[]) ∧ w' = w.alloc (.cells #[.int .u64 (ph (p + 348).toNat), .int .u64 (pl (p + 348).toNat), .int .i64 (-(e + lp + 3))] 78) := by
  obtain ⟨hz, hP⟩ := hP
  obtain ⟨c0, c1⟩ := hP (p + 348).toNat (by omega)
  clear hP
  have d0 : ∀ o, (w.alloc o).cell? ⟨4, (p + 348).toNat * 2, none⟩ = some (.int .u64 (ph (p + 348).toNat)) := fun o => ((Below.refl w.heap.size w).alloc (Nat.le_refl _) o).cell (p := ⟨4, _, none⟩) (by simp; omega) ▸ c0
  have d1 : ∀ o, (w.alloc o).cell? ⟨4, (p + 348).toNat * 2 + 1, none⟩ = some (.int .u64 (pl (p + 348).toNat)) := fun o => ((Below.refl w.heap.size w).alloc (Nat.le_refl _) o).cell (p := ⟨4, _, none⟩) (by simp; omega) ▸ c1
  clear c0 c1
  go_enter Tryd.func46, Tryd.ntmps46
  go_wp2
  go_returns
  exact ⟨rfl, rfl⟩

theorem cells3 (w : World) (a b c : Value) (t : TypeId) : (w.alloc (.cells #[a, b, c] t)).cell? ⟨w.heap.size, 0, none⟩ = some a ∧ (w.alloc (.cells #[a, b, c] t)).cell? ⟨w.heap.size, 1, none⟩ = some b ∧ (w.alloc (.cells #[a, b, c] t)).cell? ⟨w.heap.size, 2, none⟩ = some c := by
  refine ⟨?_, ?_, ?_⟩ <;> (rw [World.cell?_alloc_new]; rfl)

/-- one call of uscale over the three cells that prescale has laid, behind draws -/
theorem uscale_at (x hi lo s : Int) (hx : U64 x) (hh : U64 hi) (hl : U64 lo) (hs0 : 0 ≤ s) (hs1 : s < 64) : ∃ r : Int, U64 r ∧ ∀ (w : World) (n : Nat),
    Calls Tryd.prog 48 #[.int .u64 x, .pointer (some ⟨w.heap.size, 0, none⟩)] ((w.alloc (.cells #[.int .u64 hi, .int .u64 lo, .int .i64 s] 78)).drewN n) fun e w' => e = .returned (.int .u64 r) ∧ ∃ n, w' = (w.alloc (.cells #[.int .u64 hi, .int .u64 lo, .int .i64 s] 78)).drewN n := by
  obtain ⟨r, hr, h⟩ := uscale_ex x hi lo s hx hh hl hs0 hs1
  refine ⟨r, hr, fun w n => ?_⟩
  refine (h _ _ (by simp) (by simp) (by simp)).mono ?_
  rintro e w' ⟨rfl, m, rfl⟩
  exact ⟨rfl, n + m, by rw [World.drewN_drewN]⟩


def unudge (u d : Int) : Int := IntKind.u64.wrap (u + IntKind.u64.wrap d)
def uceil (u : Int) : Int := IntKind.u64.wrap (u + 3) / 4
def ufloor (u : Int) : Int := u / 4
def uround (u : Int) : Int := IntKind.u64.wrap (IntKind.u64.wrap (u + 1) + bits .and .u64 (u / 4) 1) / 4
theorem unudge_u (u d : Int) : U64 (unudge u d) := wrapu _
theorem uceil_u (u : Int) : U64 (uceil u) := divu (wrapu _) 4 (by decide)
theorem ufloor_u {u : Int} (h : U64 u) : U64 (ufloor u) := divu h 4 (by decide)
theorem uround_u (u : Int) : U64 (uround u) := divu (wrapu _) 4 (by decide)
theorem nudge_c (u d : Int) (w : World) : Calls Tryd.prog 49 #[.int .u64 u, .int .i64 d] w fun e w' => e = .returned (.int .u64 (unudge u d)) ∧ w = w' := by
  go_enter Tryd.func49, Tryd.ntmps49
  go_wp2
  go_ret
  exact ⟨rfl, rfl⟩
theorem ceil_c (u : Int) (hu : U64 u) (w : World) : Calls Tryd.prog 50 #[.int .u64 u] w fun e w' => e = .returned (.int .u64 (uceil u)) ∧ w = w' := by
  obtain ⟨h0, h1⟩ := hu
  go_enter Tryd.func50, Tryd.ntmps50
  go_wp2
  go_ret
  exact ⟨rfl, rfl⟩
theorem floor_c (u : Int) (hu : U64 u) (w : World) : Calls Tryd.prog 51 #[.int .u64 u] w fun e w' => e = .returned (.int .u64 (ufloor u)) ∧ w = w' := by
  obtain ⟨h0, h1⟩ := hu
  go_enter Tryd.func51, Tryd.ntmps51
  go_wp2
  go_ret
  exact ⟨rfl, rfl⟩
theorem round_c (u : Int) (hu : U64 u) (w : World) : Calls Tryd.prog 52 #[.int .u64 u] w fun e w' => e = .returned (.int .u64 (uround u)) ∧ w = w' := by
  obtain ⟨h0, h1⟩ := hu
  go_enter Tryd.func52, Tryd.ntmps52
  go_wp2
  go_ret
  exact ⟨rfl, rfl⟩
theorem i64_and1 (n : Int) : bits .and .i64 n 1 = n % 2 := by
  have h127 : (BitVec.ofInt 64 1).toNat = 2 ^ 1 - 1 := by decide
  have key : (BitVec.ofInt 64 n &&& BitVec.ofInt 64 1).toNat = (n % ((2 ^ 64 : Nat) : Int)).toNat % 2 ^ 1 := by
    rw [BitVec.toNat_and, BitVec.toNat_ofInt, h127, Nat.and_two_pow_sub_one_eq_mod]
  show IntKind.i64.wrap ((BitVec.ofInt 64 n &&& BitVec.ofInt 64 1).toNat : Nat) = n % 2
  rw [key, IntKind.wrap_i64]
  omega

end Go.Proofs.YtniiphdbajjldaaDoor
