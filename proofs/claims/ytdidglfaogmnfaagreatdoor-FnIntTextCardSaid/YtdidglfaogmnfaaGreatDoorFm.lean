/-
  A part of the proof of FnIntText: the law's walk.
-/
import Derived.Test.YtdidglfaogmnfaaGreatDoorFl
namespace Go.Proofs.YtdidglfaogmnfaaGreatDoor
set_option linter.unusedVariables false
open Go.RowKit Go.Proofs.YtdidglfaogmnfaaGreatDoorW.PrintWords Go.Proofs.YtdidglfaogmnfaaGreatDoorW.PrintLast Go.Proofs.YtdidglfaogmnfaaGreatDoorW.PrintMore

theorem dl_of_R {w : World} {base : Nat} {ok : Nat → Prop} {v : Value} {l : List Int} (h : Kd.R (Kd.int .u8) 5 w base ok v l) : Dl w v l := by
  by_cases h0 : l.length = 0
  · have hl : l = [] := List.eq_nil_of_length_eq_zero h0
    subst hl
    obtain ⟨A, c, rfl⟩ := Kd.R_slice h
    exact Or.inl ⟨rfl, A, c, rfl⟩
  · obtain ⟨inner, ho⟩ := Kd.R_own h
    rcases ho.2 with ⟨rfl, hl⟩ | ⟨g, cap, cur, rfl, hg, hh, r⟩
    · exact absurd hl h0
    · refine Or.inr ⟨g, 0, cap, rfl, (Kd.R_reads' h).2.1, fun i hi => ?_, by omega⟩
      have := (Kd.R_cell (0 : Int) h (i : Int) (by omega) (by omega)).1
      rw [Int.toNat_natCast] at this
      rw [Nat.zero_add, this]
      unfold rdOf
      rw [Int.toNat_natCast]
set_option exponentiation.threshold 2000 in
theorem ref_text {r : List Int} {V : Nat} (ng : Bool) (hc : Ref.Can r V) (hr : r.length ≤ 150) : ∃ k, PText.spec_Int_Text.f k ng r = some (IT ng V) := by
  unfold IT
  by_cases h0 : V = 0
  · rw [if_pos h0]
    have : r = [] := List.eq_nil_of_length_eq_zero (hc.zero_iff.2 h0)
    subst this
    exact ⟨0, Ref.base_zero ng 0⟩
  · rw [if_neg h0]
    have hV : V < 256 ^ 300 := by
      have := Ref.val_lt hc.byt
      rw [hc.val] at this
      exact Nat.lt_of_lt_of_le this (Nat.pow_le_pow_right (by decide) (by omega))
    exact Ref.ev_at (Ref.base_ev ng hc (by omega) (by have := Ref.dle_le V hV; omega) h0)
/-- behind laws.whole -/
structure LawIn (w1 : World) (ng : Bool) (T : ByteArray) (A1 : Option Addr) (n c1 : Nat) (v4 v7 : Value) : Prop where
  a : ∀ wd, Fr w1 wd No → Calls Tryz.prog 5 #[.agg #[.int .i64 2, .bool ng, v4, .int .u64 0, .string ⟨#[]⟩, v7]] wd fun e w' => e = .returned (.string T) ∧ Fr wd w' No
  b : ∀ wd, Fr w1 wd No → Calls Tryz.prog 6 #[.agg #[.bool ng, .slice A1 n c1]] wd fun e w' => e = .returned (.string T) ∧ Fr wd w' No
theorem law_in (an : Bool) (A : Option Addr) (c : Nat) (l : List Int) (w : World) (hA : Kd.C (Kd.int .u8) w A l.length l) (hc : l.length ≤ c) (hb : Ref.Byt l) (hl : l.length ≤ 2147483647) (hT : Tb w) :
    Calls Tryz.prog 4 #[.bool an, .slice A l.length c, .int .i64 150] w fun e w1 => ∃ ng T A1 n c1 A4 n4 c4 A7 c7, e = .returned (.tuple #[.agg #[.bool ng, .slice A1 n c1], .agg #[.int .i64 2, .bool ng, .slice A4 n4 c4, .int .u64 0, .string ⟨#[]⟩, .slice A7 0 c7]]) ∧ Hid (LawIn w1 ng T A1 n c1 (.slice A4 n4 c4) (.slice A7 0 c7) ∧ Fr w w1 No) := by
  obtain ⟨k, r, hC, hr, he⟩ := Ref.whole_ev an hb hl
  refine (Pwhole.laws_whole.calls k an A c l 150 _ _ _ _ _ _ _ _ w hA hc he).mono ?_
  rintro e w1 ⟨v1, v4, v7, rfl, h1, h4, h7, hB⟩
  obtain ⟨A1, c1, rfl⟩ := Kd.R_slice h1
  obtain ⟨A7, c7, rfl⟩ := Kd.R_slice h7
  obtain ⟨A4, c4, rfl⟩ := Kd.R_slice h4
  have hF := fr_of_below hB
  have hT1 := hT.fr hF
  generalize Ref.val (l.take 150) = V at *
  obtain ⟨ng, hng⟩ : ∃ ng, ng = (an && decide (1 ≤ V)) := ⟨_, rfl⟩
  rw [← hng]
  have hng2 : (ng && decide (1 ≤ V)) = ng := by rw [hng, Bool.and_assoc, Bool.and_self]
  have hD := dl_of_R h4
  obtain ⟨k2, hk2⟩ := ref_text ng hC hr
  refine ⟨ng, IT ng V, A1, _, c1, A4, _, c4, A7, c7, rfl, Lib.hid ⟨⟨fun wd hd => ?_, fun wd hd => ?_⟩, hF⟩⟩
  · have := IntText_c ng _ (.slice A7 0 c7) r wd hr (hD.no hd) V hC (hT1.fr hd)
    rwa [hng2] at this
  · refine (PText.spec_Int_Text.calls k2 ng A1 c1 r (IT ng V) wd (Kd.C_below (Kd.R_reads' h1).2.2 (below_of_fr hd)) (Kd.R_reads' h1).2.1 hk2).mono ?_
    rintro e w' ⟨rfl, hb⟩
    exact ⟨rfl, fr_of_below hb⟩
end Go.Proofs.YtdidglfaogmnfaaGreatDoor
