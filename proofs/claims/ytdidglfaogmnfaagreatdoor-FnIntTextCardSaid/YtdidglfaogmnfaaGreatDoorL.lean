/-
  A part of the proof of FnIntText: the stack of words: nat, free.
-/
import Derived.Test.YtdidglfaogmnfaaGreatDoorK
namespace Go.Proofs.YtdidglfaogmnfaaGreatDoor
open Go.RowKit

theorem round4 (n : Nat) (h : n ≤ 40) : bits .andNot .i64 ((n : Int) + 3) 3 = (((n + 3) / 4 * 4 : Nat) : Int) := by
  have : ((List.range 41).all fun n => decide (bits .andNot .i64 ((n : Int) + 3) 3 = (((n + 3) / 4 * 4 : Nat) : Int))) = true := by decide +kernel
  rw [List.all_eq_true] at this
  exact of_decide_eq_true (this n (by simp; omega))
/-- where it lay, or anew -/
def Nw (w w' : World) (b b0 : Nat) : Prop := b = b0 ∨ (w.heap.size ≤ b ∧ b < w'.heap.size)
theorem nat_in (a b l n c : Nat) (base : Option Addr) (w : World) (h : w.cell? ⟨a, 0, none⟩ = some (.slice base l c)) (hA : Blk w a 1) (hlc : l ≤ c) (hc : c ≤ 9223372036854775807) (hB : (base = none ∧ c = 0) ∨ (base = some ⟨b, 0, none⟩ ∧ Blk w b c ∧ b ≠ a)) (hl : l ≤ 100) (hn : 1 ≤ n) (hn1 : n ≤ 40) :
    Calls Tryz.prog 131 #[.pointer (some ⟨a, 0, none⟩), .int .i64 n] w fun e w' => ∃ b' c' L, e = .returned (.slice (some ⟨b', l, none⟩) n n) ∧ l + n ≤ L ∧ L ≤ l + n + 3 ∧ L ≤ c' ∧ c' ≤ 9223372036854775807 ∧
      w'.cell? ⟨a, 0, none⟩ = some (.slice (some ⟨b', 0, none⟩) L c') ∧ Blk w' b' c' ∧ ((base = some ⟨b, 0, none⟩ ∧ b' = b) ∨ (w.heap.size ≤ b' ∧ b' < w'.heap.size)) ∧ Fr w w' (fun k j => k = a ∨ (k = b ∧ l ≤ j)) := by
  have hr4 := round4 n hn1
  obtain ⟨m, hm⟩ : ∃ m, m = (n + 3) / 4 * 4 := ⟨_, rfl⟩
  rw [← hm] at hr4
  have hm1 : n ≤ m := by omega
  have hm2 : m ≤ n + 3 := by omega
  have KG := Lib.hid (grow_c base b l c m w hlc (by omega) (by omega) (by omega) hc (by rcases hB with h | h; exact Or.inl h; exact Or.inr ⟨h.1, h.2.1⟩))
  have fz := hA.fz 0
  have KA := Lib.hid hA
  have KB := Lib.hid hB
  clear hm hA hB
  go_enter Tryz.func131, Tryz.ntmps131
  go_wp2_with fail
  refine KG.out.mono ?_
  rintro e w1 ⟨b', c', rfl, hL, hc', hB', hF, hN⟩
  have hA1 := KA.out.fr hF
  have hne : a ≠ b' := by
    rcases hN with ⟨h1, rfl⟩ | h1
    · rcases KB.out with h2 | h2
      · rw [h2.1] at h1; cases h1
      · exact fun e => h2.2.2 e.symm
    · have := KA.out.lt; omega
  have c1 := hF.keep h (fun c => c)
  have f1 := hA1.fz 0
  have fb := hB'.fz l
  obtain ⟨z, hz⟩ := hB'.here l (by omega)
  have hlm : l + m ≤ c' := hL
  have hln : l + n ≤ c' := by omega
  have hn0 : ((0 : Int) < (n : Int)) = True := eq_true (by omega)
  have KH1 := Lib.hid hB'
  have KH2 := Lib.hid hF
  have KH3 := Lib.hid hN
  have KH4 := Lib.hid hA1
  clear hB' hF hN hA1 hL
  go_wp2_with fail
  go_returns
  have hF0 : Fr w w1 (fun k j => k = a ∨ (k = b ∧ l ≤ j)) := KH2.out.no
  have hF1 := ((hF0.set a 0 (.slice (some ⟨b', 0, none⟩) l c') (fun _ => Or.inl rfl)).set a 0 (.slice (some ⟨b', 0, none⟩) (l + m) c') (fun _ => Or.inl rfl)).set b' l (.int .u64 1043915) (fun hb => by
    rcases KH3.out with h2 | h2
    · exact Or.inr ⟨h2.2, Nat.le_refl _⟩
    · omega)
  have hF2 : Fr w1 (((w1.setCell ⟨a, 0, none⟩ (.slice (some ⟨b', 0, none⟩) l c')).setCell ⟨a, 0, none⟩ (.slice (some ⟨b', 0, none⟩) (l + m) c')).setCell ⟨b', l, none⟩ (.int .u64 1043915)) (fun _ _ => True) := (((Fr.refl w1 (fun _ _ => True)).set _ _ _ (fun _ => trivial)).set _ _ _ (fun _ => trivial)).set _ _ _ (fun _ => trivial)
  refine ⟨b', c', l + m, by rw [Nat.add_sub_cancel_left]; rfl, by omega, by omega, hlm, hc', ?_, KH1.out.fr hF2, ?_, hF1⟩
  · rw [cell_set_ne _ _ _ _ _ _ (by omega)]
    exact (KH4.out.fr ((Fr.refl w1 (fun _ _ => True)).set _ _ _ (fun _ => trivial))).get 0 (by omega) _
  · rcases KH3.out with h2 | h2
    · exact Or.inl h2
    · exact Or.inr ⟨h2.1, Nat.lt_of_lt_of_le h2.2 hF2.size⟩
theorem stk_new {w : World} {b : Nat} (hp : Blk w b 1) :
    let w2 := (w.alloc (.cells #[Value.slice none 0 0] 110)).setCell ⟨b, 0, none⟩ (.pointer (some ⟨w.heap.size, 0, none⟩))
    Blk w2 w.heap.size 1 ∧ w2.cell? ⟨w.heap.size, 0, none⟩ = some (.slice none 0 0) ∧ Blk w2 b 1 ∧ w2.cell? ⟨b, 0, none⟩ = some (.pointer (some ⟨w.heap.size, 0, none⟩)) ∧ Fr w w2 (fun k _ => k = b) := by
  have hlt := hp.lt
  have hF0 : Fr w (w.alloc (.cells #[Value.slice none 0 0] 110)) (fun k _ => k = b) := (Fr.refl _ _).alloc _
  have hF1 : Fr (w.alloc (.cells #[Value.slice none 0 0] 110)) ((w.alloc (.cells #[Value.slice none 0 0] 110)).setCell ⟨b, 0, none⟩ (.pointer (some ⟨w.heap.size, 0, none⟩))) (fun k _ => k = b) := (Fr.refl _ _).set _ _ _ (fun _ => rfl)
  have hB := Blk.new w #[Value.slice none 0 0] 110 1 rfl
  refine ⟨hB.fr hF1, ?_, (hp.fr hF0).fr hF1, (hp.fr hF0).get 0 (by omega) _, hF0.set _ _ _ (fun _ => rfl)⟩
  rw [cell_set_ne _ _ _ _ _ _ (by omega)]
  exact cell_of_row _ _ 0 #[Value.slice none 0 0] 110 (0, 0) (heap_alloc_new w _)
/-- n words of the stack -/
theorem nat_c (p a b l n : Nat) (w : World) (hS : Stk w p a b l) (hl : l ≤ 100) (hn : 5 ≤ n) (hn1 : n ≤ 40) :
    Calls Tryz.prog 92 #[.pointer (some ⟨p, 0, none⟩), .int .i64 n] w fun e w' => ∃ a' b' c' L, e = .returned (.slice (some ⟨b', l, none⟩) n n) ∧ l + n ≤ L ∧ L ≤ l + n + 3 ∧ L ≤ c' ∧ Stk w' p a' b' L ∧ Blk w' b' c' ∧
      Nw w w' a' a ∧ Nw w w' b' b ∧ Fr w w' (fun k j => k = p ∨ k = a ∨ (k = b ∧ l ≤ j)) := by
  obtain ⟨hp, h | ⟨c, g1, g2, g3, g4, g5, g6, g7⟩⟩ := hS
  · obtain ⟨rfl, rfl, rfl, hc⟩ := h
    have fz := hp.fz 0
    have h4 : ¬ ((n : Int) ≤ 4) := by omega
    have ca : ∀ o : Obj, (w.alloc o).cell? ⟨b, 0, none⟩ = some (.pointer none) := fun o => ((Fr.refl w No).alloc o).keep hc (fun c => c)
    have fa : ∀ o : Obj, (w.alloc o).frozen? ⟨b, 0, none⟩ = false := fun o => (hp.fr ((Fr.refl w No).alloc o)).fz 0
    obtain ⟨k1, k2, k3, k4, k5⟩ := stk_new hp
    have KN := Lib.hid (nat_in w.heap.size w.heap.size 0 n 0 none _ k2 k1 (by omega) (by omega) (Or.inl ⟨rfl, rfl⟩) (by omega) (by omega) hn1)
    have K3 := Lib.hid k3
    have K1 := Lib.hid k1
    have K4 := Lib.hid k4
    have K5 := Lib.hid k5
    have KL : Hid (b < w.heap.size) := Lib.hid hp.lt
    have KL2 : Hid (w.heap.size < ((w.alloc (.cells #[Value.slice none 0 0] 110)).setCell ⟨b, 0, none⟩ (.pointer (some ⟨w.heap.size, 0, none⟩))).heap.size) := Lib.hid k1.lt
    clear hp k1 k2 k3 k4 k5
    go_enter Tryz.func92, Tryz.ntmps92
    go_wp2_with fail
    refine KN.out.mono ?_
    rintro e w1 ⟨b', c', L, rfl, h1, h2, h3, h4, h5, h6, h7, h8⟩
    have KH : Hid (Stk w1 b w.heap.size b' L ∧ Blk w1 b' c' ∧ Nw w w1 w.heap.size b ∧ Nw w w1 b' b ∧ Fr w w1 (fun k j => k = b ∨ k = b ∨ (k = b ∧ 0 ≤ j))) := Lib.hid (by
      have hlt := KL.out
      have hlt2 := KL2.out
      have hsz := h8.size
      have hb' : w.heap.size < b' := by
        rcases h7 with e | e
        · cases e.1
        · omega
      have hb2 : b' < w1.heap.size := h6.lt
      refine ⟨⟨K3.out.fr h8, Or.inr ⟨c', h8.keep K4.out (fun e => ?_), K1.out.fr h8, h5, h3, h4, h6, by omega, by omega, by omega⟩⟩, h6, Or.inr ⟨Nat.le_refl _, by omega⟩, Or.inr ⟨by omega, hb2⟩, (K5.out.weaken (fun k j _ e => Or.inl e)).trans h8 (fun k j hk e => ?_)⟩
      · rcases e with e | e <;> omega
      · rcases e with e | ⟨e, _⟩ <;> omega)
    clear h4 h5 h6 h7 h8
    rw [Nat.zero_add] at h1
    go_wp2_with fail
    go_returns
    exact ⟨w.heap.size, b', c', L, rfl, by omega, by omega, h3, KH.out⟩
  · have KN := Lib.hid (nat_in a b l n c (some ⟨b, 0, none⟩) w g3 g2 g4 g5 (Or.inr ⟨rfl, g6, g7.2.2⟩) hl (by omega) hn1)
    have KP := Lib.hid hp
    have KA := Lib.hid g2
    have K1 := Lib.hid g1
    have K7 := Lib.hid g7
    clear hp g2 g3 g4 g5 g6 g7
    go_enter Tryz.func92, Tryz.ntmps92
    go_wp2_with fail
    refine KN.out.mono ?_
    rintro e w1 ⟨b', c', L, rfl, h1, h2, h3, h4, h5, h6, h7, h8⟩
    have KH : Hid (Stk w1 p a b' L ∧ Blk w1 b' c' ∧ Nw w w1 a a ∧ Nw w w1 b' b ∧ Fr w w1 (fun k j => k = p ∨ k = a ∨ (k = b ∧ l ≤ j))) := Lib.hid (by
      refine ⟨⟨KP.out.fr h8, Or.inr ⟨c', h8.keep K1.out (fun e => ?_), KA.out.fr h8, h5, h3, h4, h6, K7.out.1, ?_, ?_⟩⟩, h6, Or.inl rfl, ?_, h8.weaken (fun k j _ e => Or.inr e)⟩
      · rcases e with e | e
        · exact K7.out.1 e.symm
        · exact K7.out.2.1 e.1.symm
      · rcases h7 with e | e
        · rw [e.2]; exact K7.out.2.1
        · have := KP.out.lt; omega
      · rcases h7 with e | e
        · rw [e.2]; exact K7.out.2.2
        · have := KA.out.lt; omega
      · rcases h7 with e | e
        · exact Or.inl e.2
        · exact Or.inr e)
    clear h4 h5 h6 h7 h8
    go_wp2_with fail
    go_returns
    exact ⟨a, b', c', L, rfl, h1, h2, h3, KH.out⟩
end Go.Proofs.YtdidglfaogmnfaaGreatDoor
