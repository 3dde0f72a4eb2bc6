/-
  A part of the proof of FnFloatTextIs: strconv.FormatFloat at g, shortest, 64 bits: one text, whatever the world.
-/
import Derived.Test.YtniiphdbajjldaaDoorM
import Derived.Test.YtniiphdbajjldaaDoorK
namespace Go.Proofs.YtniiphdbajjldaaDoor
open Go.RowKit
/-- FormatFloat(f, 'g', -1, 64): one text, whatever the world -/
def FF (x : Nat) (s : ByteArray) : Prop := ∀ w : World, Tabs w → Calls Tryd.prog 11 #[.float .f64 x, .int .u8 103, .int .i64 (-1), .int .i64 64] w fun e w' => e = .returned (.string s) ∧ s.size ≤ 100000 ∧ Below w.heap.size w w'
theorem conv_text {B : Nat} {w0 w : World} {v : Value} {l : List Int} (h : St B w0 none v l w) : (convert 36 9 v).run Tryd.prog w = .ok (.string (strOfNums l)) w := by
  rcases h.own.2 with ⟨rfl, hl⟩ | ⟨g, cap, cur, rfl, _, hg, _, _, _, ht⟩
  · have : l = [] := List.eq_nil_of_length_eq_zero hl
    subst this
    exact run_convert_bytes_nil (P := Tryd.prog) w 36 5 Tryd.underlying36 Tryd.underlying5 0 0 9 Tryd.underlying9
  · refine run_convert_bytes_arg (P := Tryd.prog) w 36 5 Tryd.underlying36 Tryd.underlying5 g 0 l.length cap l rfl (fun i hi => ?_) 9 Tryd.underlying9
    rw [Nat.zero_add, cell_of_row w g i cur 5 (0, 0) hg]
    have h1 : (l.map (Value.int .u8))[i]? = some (.int .u8 (l.getD i 0)) := by simp [List.getD, hi]
    rw [← ht, List.getElem?_take] at h1
    split at h1
    · simpa using h1
    · cases h1
def mk24 : Array Value := madeCells (Value.cells (.int .u8 0)) 24
theorem mk24_c : ∀ w : World, (Instr.makeSlice 36 (.int .i64 0) (.int .i64 24)).run Tryd.prog w = .ok (.slice (some ⟨w.heap.size, 0, none⟩) 0 24) (w.alloc (.cells mk24 5)) := fun w => by
  obtain ⟨i0, hi, hz0, hz1, hz2⟩ := info_parts info5
  have h := run_make (P := Tryd.prog) w 36 5 i0 (.int .u8 0) Tryd.underlying36 hi hz0 .i64 .i64 0 24 (by omega) (by omega) (by rw [hz2]; omega) (by omega)
  rw [hz1] at h
  exact h
theorem mk24_st (w : World) : St w.heap.size w none (.slice (some ⟨w.heap.size, 0, none⟩) 0 24) [] (w.alloc (.cells mk24 5)) :=
  ⟨World.ownsRow_made w mk24 24 (Nat.le_refl _) (by unfold maxLen; omega) (by simp [mk24, madeCells]), (Below.refl _ _).alloc (Nat.le_refl _) _, fun p hp => (by cases hp), by simp, by simp⟩
set_option maxRecDepth 100000 in
theorem ff_any (x : Nat) (hx : x < 18446744073709551616) (hf : x % 9223372036854775808 < 9218868437227405312) : ∃ l : List Int, FF x (strOfNums l) := by
  obtain ⟨out, hout⟩ := ftoa_any x hx hf
  have HO := Lib.hid hout
  clear hout hf hx
  refine ⟨out, fun w hT => ?_⟩
  have hmk := mk24_c
  have hmx : max (3 : Int) 24 = 24 := by decide
  have KT := Lib.hid hT
  clear hT
  go_enter Tryd.func11, Tryd.ntmps11
  go_wp2_with (go_at_call 16; go_in)
  refine (HO.out _ w _ _ (mk24_st w) (KT.out.below ((Below.refl _ _).alloc (Nat.le_refl _) _))).mono ?_
  rintro en w1 ⟨v1, rfl, hst⟩
  have hcv := conv_text hst
  have hbl := Lib.hid hst.bel
  have hln := Lib.hid hst.len
  clear hst
  go_wp2
  go_ret
  exact ⟨rfl, by rw [strOfNums_size]; exact hln.out, hbl.out⟩
end Go.Proofs.YtniiphdbajjldaaDoor
