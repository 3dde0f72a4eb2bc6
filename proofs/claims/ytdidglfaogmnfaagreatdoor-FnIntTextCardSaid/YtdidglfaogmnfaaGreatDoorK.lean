/-
  A part of the proof of FnIntText: the stack of words: save, restore, nat.
-/
import Derived.Test.YtdidglfaogmnfaaGreatDoorJ
import Derived.Defers
namespace Go.Proofs.YtdidglfaogmnfaaGreatDoor
open Go.RowKit

/-- the stack at block p: nothing yet, or its inner part at block a with l words in use of block b -/
def Stk (w : World) (p a b l : Nat) : Prop :=
  Blk w p 1 ∧ ((a = p ∧ b = p ∧ l = 0 ∧ w.cell? ⟨p, 0, none⟩ = some (.pointer none)) ∨
    ∃ c, w.cell? ⟨p, 0, none⟩ = some (.pointer (some ⟨a, 0, none⟩)) ∧ Blk w a 1 ∧ w.cell? ⟨a, 0, none⟩ = some (.slice (some ⟨b, 0, none⟩) l c) ∧ l ≤ c ∧ c ≤ 9223372036854775807 ∧ Blk w b c ∧ a ≠ p ∧ b ≠ p ∧ b ≠ a)
theorem Stk.fr {w w' : World} {S : Nat → Nat → Prop} {p a b l : Nat} (h : Stk w p a b l) (hf : Fr w w' S) (h1 : ¬ S p 0) (h2 : ¬ S a 0) : Stk w' p a b l := by
  obtain ⟨hp, h | ⟨c, g1, g2, g3, g4, g5, g6, g7⟩⟩ := h
  · exact ⟨hp.fr hf, Or.inl ⟨h.1, h.2.1, h.2.2.1, hf.keep h.2.2.2 h1⟩⟩
  · exact ⟨hp.fr hf, Or.inr ⟨c, hf.keep g1 h1, g2.fr hf, hf.keep g3 h2, g4, g5, g6.fr hf, g7⟩⟩
theorem Stk.lt {w : World} {p a b l : Nat} (h : Stk w p a b l) : p < w.heap.size ∧ a < w.heap.size ∧ b < w.heap.size := by
  obtain ⟨hp, h | ⟨c, g1, g2, g3, g4, g5, g6, g7⟩⟩ := h
  · have := hp.lt; exact ⟨this, h.1 ▸ this, h.2.1 ▸ this⟩
  · exact ⟨hp.lt, g2.lt, g6.lt⟩
theorem save_in (a b l c : Nat) (w : World) (h : w.cell? ⟨a, 0, none⟩ = some (.slice (some ⟨b, 0, none⟩) l c)) :
    Calls Tryz.prog 129 #[.pointer (some ⟨a, 0, none⟩)] w fun e w' => e = .returned (.int .i64 l) ∧ w' = w := by
  go_enter Tryz.func129, Tryz.ntmps129
  go_wp2_with fail
  go_returns
  exact ⟨rfl, rfl⟩
theorem save_c (p a b l : Nat) (w : World) (h : Stk w p a b l) : Calls Tryz.prog 91 #[.pointer (some ⟨p, 0, none⟩)] w fun e w' => e = .returned (.int .i64 l) ∧ w' = w := by
  obtain ⟨hp, h | ⟨c, g1, g2, g3, g4, g5, g6, g7⟩⟩ := h
  · obtain ⟨rfl, rfl, rfl, hc⟩ := h
    clear hp
    go_enter Tryz.func91, Tryz.ntmps91
    go_wp2_with fail
    go_returns
    exact ⟨rfl, rfl⟩
  · have K := save_in a b l c w g3
    clear g2 g3 g4 g5 g6 g7 hp
    go_enter Tryz.func91, Tryz.ntmps91
    go_wp2_with (go_at_call 129; refine K.mono ?_; rintro e w' ⟨rfl, rfl⟩)
    go_returns
    exact ⟨rfl, rfl⟩
theorem restore_in (a b l n c : Nat) (w : World) (h : w.cell? ⟨a, 0, none⟩ = some (.slice (some ⟨b, 0, none⟩) l c)) (hB : Blk w a 1) (hn : n ≤ l) (hl : l ≤ c) (_hc : c ≤ 9223372036854775807) :
    Calls Tryz.prog 128 #[.pointer (some ⟨a, 0, none⟩), .int .i64 n] w fun e w' => e = .returned (.tuple #[]) ∧ w' = w.setCell ⟨a, 0, none⟩ (.slice (some ⟨b, 0, none⟩) n c) := by
  have fz := hB.fz 0
  have hnc : n ≤ c := by omega
  clear hB
  go_enter Tryz.func128, Tryz.ntmps128
  go_wp2_with fail
  go_end0
  exact ⟨rfl, rfl⟩
theorem Stk.cut {w : World} {p a b l c : Nat} (hp : Blk w p 1) (g1 : w.cell? ⟨p, 0, none⟩ = some (.pointer (some ⟨a, 0, none⟩))) (g2 : Blk w a 1) (g4 : l ≤ c) (g5 : c ≤ 9223372036854775807) (g6 : Blk w b c) (g7 : a ≠ p ∧ b ≠ p ∧ b ≠ a) :
    Stk (w.setCell ⟨a, 0, none⟩ (.slice (some ⟨b, 0, none⟩) l c)) p a b l ∧ Fr w (w.setCell ⟨a, 0, none⟩ (.slice (some ⟨b, 0, none⟩) l c)) (fun k _ => k = a) := by
  have hF : Fr w (w.setCell ⟨a, 0, none⟩ (.slice (some ⟨b, 0, none⟩) l c)) (fun k _ => k = a) := (Fr.refl _ _).set _ _ _ (fun _ => rfl)
  exact ⟨⟨hp.fr hF, Or.inr ⟨c, hF.keep g1 (by omega), g2.fr hF, g2.get 0 (by omega) _, g4, g5, g6.fr hF, g7⟩⟩, hF⟩
theorem restore_c (p a b l n : Nat) (u : FrameMode) (w : World) (h : Stk w p a b l) (hn : n ≤ l) :
    CallsD Tryz.prog 90 #[.pointer (some ⟨p, 0, none⟩), .int .i64 n] u w fun e u' w' => u' = u ∧ (e = .returned (.tuple #[]) ∧ Stk w' p a b n ∧ Fr w w' (fun k _ => k = a)) := by
  have KS := Lib.hid h
  obtain ⟨hp, h | ⟨c, g1, g2, g3, g4, g5, g6, g7⟩⟩ := h
  · obtain ⟨rfl, rfl, rfl, hc⟩ := h
    obtain rfl : n = 0 := by omega
    clear hp
    go_enter_d Tryz.func90, Tryz.ntmps90
    go_wp2_with fail
    go_returns
    exact ⟨rfl, KS.out, Fr.refl _ _⟩
  · have K := restore_in a b l n c w g3 g2 hn g4 g5
    have KH := Lib.hid (Stk.cut hp g1 g2 (Nat.le_trans hn g4) g5 g6 g7)
    clear g2 g3 g4 g5 g6 g7 hp
    go_enter_d Tryz.func90, Tryz.ntmps90
    go_wp2_with (go_at_call 128; refine K.mono ?_; rintro e w' ⟨rfl, rfl⟩)
    go_returns
    exact ⟨rfl, KH.out⟩
end Go.Proofs.YtdidglfaogmnfaaGreatDoor
