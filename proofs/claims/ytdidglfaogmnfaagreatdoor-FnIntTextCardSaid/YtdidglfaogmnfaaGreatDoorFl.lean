/-
  A part of the proof of FnIntText: the law.
-/
import Derived.Test.YtdidglfaogmnfaaGreatDoorFk
import Derived.Test.YtdidglfaogmnfaaGreatDoorPwholex
namespace Go.Proofs.YtdidglfaogmnfaaGreatDoor
set_option linter.unusedVariables false
open Go.RowKit Go.Proofs.YtdidglfaogmnfaaGreatDoorW.PrintWords Go.Proofs.YtdidglfaogmnfaaGreatDoorW.PrintLast Go.Proofs.YtdidglfaogmnfaaGreatDoorW.PrintMore
namespace Ref
theorem wcut_loop {l : List Int} (hb : Byt l) (hl : l.length ≤ 1000000) : ∀ (d i : Nat), l.length - i = d → i ≤ l.length → val (l.drop i) = val l →
    ∃ r, Ev (fun k => Pwhole.spec_cut.l0 k l (i : Int)) r ∧ Can r (val l) ∧ r.length ≤ l.length
  | 0, i, hd, hi, hv => by
    obtain rfl : i = l.length := by omega
    refine ⟨[], Ev.step (f := fun _ => some []) (fun k => ?_) (Ev.now _), ⟨fun _ h => (by cases h), ?_, by decide⟩, by simp⟩
    · simp only [Pwhole.spec_cut.l0]
      rw [if_neg (by omega)]
      simp only [Option.bind_some]
      rw [if_pos (by omega), if_pos (by omega), if_pos (by simp)]
      simp
    · rw [← hv]; simp
  | d + 1, i, hd, hi, hv => by
    have hlt : i < l.length := by omega
    by_cases h0 : l.getD i 0 = 0
    · obtain ⟨r, h1, h2, h3⟩ := wcut_loop hb hl d (i + 1) (by omega) (by omega) ((drop_val i hlt h0).trans hv)
      refine ⟨r, Ev.step (fun k => ?_) h1, h2, h3⟩
      simp only [Pwhole.spec_cut.l0]
      rw [if_pos (by omega), if_pos (by omega), if_pos (by simpa [rd] using h0), w64 (by omega) (by omega)]
      rfl
    · refine ⟨l.drop i, Ev.step (f := fun _ => some (l.drop i)) (fun k => ?_) (Ev.now _), ⟨fun x hx => hb x (List.mem_of_mem_drop hx), hv, ?_⟩, by simp⟩
      · simp only [Pwhole.spec_cut.l0]
        rw [if_pos (by omega), if_pos (by omega), if_neg (by simpa [rd] using h0)]
        simp only [Option.bind_some]
        rw [if_pos (by omega), if_pos (by simp; omega)]
        simp
      · simpa [List.getD, hlt] using h0
theorem wcut_ev {l : List Int} (hb : Byt l) (hl : l.length ≤ 1000000) : ∃ r, Ev (fun k => Pwhole.spec_cut.f k l) r ∧ Can r (val l) ∧ r.length ≤ l.length :=
  wcut_loop hb hl _ 0 rfl (Nat.zero_le _) rfl


theorem ev_at {α : Type} {g : Nat → Option α} {r : α} (h : Ev g r) : ∃ k, g k = some r := h.rounds
theorem whole_ev {l : List Int} (a : Bool) (hb : Byt l) (hl : l.length ≤ 2147483647) : ∃ k r, Can r (val (l.take 150)) ∧ r.length ≤ 150 ∧ Pwhole.laws_whole.f k a l 150 = some (a && decide (1 ≤ val (l.take 150)), r, 2, a && decide (1 ≤ val (l.take 150)), r, 0, (⟨#[]⟩ : ByteArray), []) := by
  have hbt : Byt (l.take 150) := fun x hx => hb x (List.mem_of_mem_take hx)
  have hlt : (l.take 150).length ≤ 150 := by rw [List.length_take]; omega
  obtain ⟨r, h1, h2, h3⟩ := wcut_ev hbt (by omega)
  obtain ⟨k, hk⟩ := ev_at h1
  refine ⟨k, r, h2, by omega, ?_⟩
  have hd : decide ((r.length : Int) > 0) = decide (1 ≤ val (l.take 150)) := by
    have := h2.zero_iff
    by_cases h0 : r.length = 0
    · rw [decide_eq_false (by omega), decide_eq_false (by have := this.1 h0; omega)]
    · rw [decide_eq_true (by omega), decide_eq_true (by
        rcases Nat.eq_zero_or_pos (val (l.take 150)) with e | e
        · exact absurd (this.2 e) h0
        · exact e)]
  have hm : ∃ j : Nat, mn (l.length : Int) 150 = (j : Int) ∧ j ≤ l.length ∧ l.take j = l.take 150 := by
    unfold mn
    by_cases h : (150 : Int) < (l.length : Int)
    · exact ⟨150, by simp [h], by omega, rfl⟩
    · refine ⟨l.length, by simp [h], Nat.le_refl _, ?_⟩
      rw [List.take_of_length_le (Nat.le_refl _), List.take_of_length_le (by omega)]
  obtain ⟨j, hj1, hj2, hj3⟩ := hm
  unfold Pwhole.laws_whole.f
  rw [hj1, if_pos (by omega), if_pos (by omega), Int.toNat_natCast, hj3]
  have ho : Pwhole.spec_Of.f k a (l.take 150) = some (a && decide (1 ≤ val (l.take 150)), r) := by
    unfold Pwhole.spec_Of.f
    rw [hk, Option.bind_some]
    cases a
    · rw [if_neg (by decide), Bool.false_and]
    · rw [if_pos rfl, Bool.true_and, hd]
  rw [ho, Option.bind_some]
  unfold Pwhole.laws_told.f
  simp only [Option.bind_some]
  rw [if_pos (by simp; omega)]
  simp
end Ref
end Go.Proofs.YtdidglfaogmnfaaGreatDoor
