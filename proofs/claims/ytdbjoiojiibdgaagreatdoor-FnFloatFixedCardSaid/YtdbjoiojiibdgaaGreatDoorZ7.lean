/-
  A part of the proof of FnFloatFixed (packed out of smaller texts by a program of this session; what the proof does not reach is left out).
-/
import Derived.Test.YtdbjoiojiibdgaaGreatDoorProg
import Derived.WalkKit
import Derived.WalkLawsBesides
import Derived.WalkSpells
import Derived.Lib.Hide
import Derived.PlainAid
import Derived.Handy
import Derived.BigQuiet
import Derived.Deep.QuietTactic
import Derived.Deep.LoopGhost
import Derived.Maps.AppendAt
import Derived.Laws.Rows
import Derived.Laws.BytesArg
import Derived.Laws.MakeOwn
import Derived.Deep.DeepMust
namespace Go.Proofs.YtdbjoiojiibdgaaGreatDoor
open Go.RowKit
theorem grown_set (w : World) (a : Addr) (u : Value) : w.grownBy (w.setCell a u) (some a.block) :=
  ⟨rfl, rfl, rfl, by simp, fun k _ hk => heap_setCell_other w a k u (fun e => hk (by rw [e]))⟩
theorem grown_self (w : World) (r : Option Nat) : w.grownBy w r := ⟨rfl, rfl, rfl, Nat.le_refl _, fun _ _ _ => rfl⟩
theorem grown_drew (w : World) (n : Nat) (r : Option Nat) : w.grownBy (w.drewN n) r := ⟨rfl, rfl, rfl, Nat.le_refl _, fun _ _ _ => rfl⟩
theorem grown_drew1 (w : World) (r : Option Nat) : w.grownBy w.drew r := ⟨rfl, rfl, rfl, Nat.le_refl _, fun _ _ _ => rfl⟩
def Dc (w : World) (b : Nat) (g : Nat → Int) (nd dp : Int) : Prop :=
  ∃ arr, w.heap[b]? = some (.cells arr 97 (0, 0)) ∧ arr.size = 804 ∧ (∀ i, i < 800 → arr[i]? = some (.int .u8 (g i))) ∧ arr[800]? = some (.int .i64 nd) ∧ arr[801]? = some (.int .i64 dp) ∧ arr[803]? = some (.bool false)
def Dn (w0 w : World) (b : Nat) (g : Nat → Int) (nd dp : Int) : Prop := w0.grownBy w (some b) ∧ Dc w b g nd dp
section
variable {w0 w : World} {b : Nat} {g : Nat → Int} {nd dp : Int}
theorem Dn.cd (h : Dn w0 w b g nd dp) (i : Nat) (hi : i < 800) : w.cell? ⟨b, i, none⟩ = some (.int .u8 (g i)) := by
  obtain ⟨_, arr, h1, h2, h3, _⟩ := h
  rw [cell_of_row w b i arr 97 (0, 0) h1, h3 i hi]
theorem Dn.cn (h : Dn w0 w b g nd dp) : w.cell? ⟨b, 800, none⟩ = some (.int .i64 nd) := by
  obtain ⟨_, arr, h1, h2, h3, h4, _⟩ := h
  rw [cell_of_row w b _ arr 97 (0, 0) h1, h4]
theorem Dn.cp (h : Dn w0 w b g nd dp) : w.cell? ⟨b, 801, none⟩ = some (.int .i64 dp) := by
  obtain ⟨_, arr, h1, h2, h3, h4, h5, _⟩ := h
  rw [cell_of_row w b _ arr 97 (0, 0) h1, h5]
theorem Dn.ct (h : Dn w0 w b g nd dp) : w.cell? ⟨b, 803, none⟩ = some (.bool false) := by
  obtain ⟨_, arr, h1, h2, h3, h4, h5, h6⟩ := h
  rw [cell_of_row w b _ arr 97 (0, 0) h1, h6]
theorem Dn.fz (h : Dn w0 w b g nd dp) (i : Nat) : w.frozen? ⟨b, i, none⟩ = false := by
  obtain ⟨_, arr, h1, _⟩ := h
  exact frozen_of_row w b i arr 97 h1
theorem Dn.here (h : Dn w0 w b g nd dp) : Dn w w b g nd dp := ⟨grown_self _ _, h.2⟩
theorem Dn.join {w2 : World} {g2 : Nat → Int} {nd2 dp2 : Int} (h : Dn w0 w b g nd dp) (h2 : Dn w w2 b g2 nd2 dp2) : Dn w0 w2 b g2 nd2 dp2 := ⟨h.1.trans h2.1, h2.2⟩
theorem Dn.drew (h : Dn w0 w b g nd dp) : Dn w0 w.drew b g nd dp := ⟨h.1.trans (grown_drew1 _ _), h.2⟩
theorem Dn.drewN (h : Dn w0 w b g nd dp) (n : Nat) : Dn w0 (w.drewN n) b g nd dp := ⟨h.1.trans (grown_drew _ _ _), h.2⟩
theorem Dn.setd (h : Dn w0 w b g nd dp) (i : Nat) (x : Int) (hi : i < 800) : Dn w0 (w.setCell ⟨b, i, none⟩ (.int .u8 x)) b (fun j => if j = i then x else g j) nd dp := by
  obtain ⟨hg, arr, h1, h2, h3, h4, h5, h6⟩ := h
  refine ⟨hg.trans (grown_set _ _ _), _, heap_setCell_same w b i arr 97 _ h1, by simp [h2], fun j hj => ?_, ?_, ?_, ?_⟩
  · rw [Array.getElem?_setIfInBounds]
    by_cases e : i = j
    · subst e; simp only [if_true, if_pos (show i < arr.size by omega)]
    · simp only [if_neg e, if_neg (show ¬ j = i from fun c => e c.symm)]; exact h3 j hj
  all_goals (rw [Array.getElem?_setIfInBounds, if_neg (by omega)]; assumption)
theorem Dn.setn (h : Dn w0 w b g nd dp) (x : Int) : Dn w0 (w.setCell ⟨b, 800, none⟩ (.int .i64 x)) b g x dp := by
  obtain ⟨hg, arr, h1, h2, h3, h4, h5, h6⟩ := h
  refine ⟨hg.trans (grown_set _ _ _), _, heap_setCell_same w b _ arr 97 _ h1, by simp [h2], fun j hj => ?_, ?_, ?_, ?_⟩
  · rw [Array.getElem?_setIfInBounds, if_neg (by omega)]; exact h3 j hj
  · rw [Array.getElem?_setIfInBounds, if_pos rfl, if_pos (by omega)]
  all_goals (rw [Array.getElem?_setIfInBounds, if_neg (by omega)]; assumption)
theorem Dn.setp (h : Dn w0 w b g nd dp) (x : Int) : Dn w0 (w.setCell ⟨b, 801, none⟩ (.int .i64 x)) b g nd x := by
  obtain ⟨hg, arr, h1, h2, h3, h4, h5, h6⟩ := h
  refine ⟨hg.trans (grown_set _ _ _), _, heap_setCell_same w b _ arr 97 _ h1, by simp [h2], fun j hj => ?_, ?_, ?_, ?_⟩
  · rw [Array.getElem?_setIfInBounds, if_neg (by omega)]; exact h3 j hj
  · rw [Array.getElem?_setIfInBounds, if_neg (by omega)]; assumption
  · rw [Array.getElem?_setIfInBounds, if_pos rfl, if_pos (by omega)]
  all_goals (rw [Array.getElem?_setIfInBounds, if_neg (by omega)]; assumption)
end
def Dg (g : Nat → Int) (nd V : Nat) : Prop := ∀ j, j < nd → g j = 48 + ((V / 10 ^ (nd - 1 - j) % 10 : Nat) : Int)
theorem Dg.last {g : Nat → Int} {n V : Nat} (h : Dg g (n + 1) V) : g n = 48 + ((V % 10 : Nat) : Int) := by
  have := h n (by omega)
  rwa [show n + 1 - 1 - n = 0 from by omega, Nat.pow_zero, Nat.div_one] at this
theorem Dg.less {g : Nat → Int} {n V : Nat} (h : Dg g (n + 1) V) : Dg g n (V / 10) := fun j hj => by
  rw [h j (by omega), Nat.div_div_eq_div_mul, show n + 1 - 1 - j = (n - 1 - j) + 1 from by omega, Nat.pow_succ, Nat.mul_comm]
theorem trim_c (b nd V : Nat) (g : Nat → Int) (dp : Int) (w : World) (h : Dn w w b g nd dp) (hd : Dg g nd V) (h0 : 0 < V) (h1 : V < 10 ^ nd) (hn : nd ≤ 800) :
    Calls Tryz.prog 83 #[.pointer (some ⟨b, 0, none⟩)] w fun e w' => e = .returned (.tuple #[]) ∧ ∃ k U : Nat, k ≤ nd ∧ Dn w w' b g k dp ∧ Dg g k U ∧ V = U * 10 ^ (nd - k) ∧ U % 10 ≠ 0 ∧ U < 10 ^ k := by
  have HD := Lib.hid h
  have HG := Lib.hid hd
  have HV := Lib.hid h1
  clear h hd h1
  go_enter Tryz.func83, Tryz.ntmps83
  go_wp2_with fail
  go_loopg [20] nd (fun k _ wr => k ≤ nd ∧ Hid (Dn w wr b g k dp ∧ ∃ U, Dg g k U ∧ V = U * 10 ^ (nd - k) ∧ U < 10 ^ k))
  case atStart => exact ⟨Nat.le_refl _, Lib.hid ⟨HD.out, V, HG.out, by simp, HV.out⟩⟩
  case round =>
    obtain ⟨hk, HR⟩ := hrel
    obtain ⟨U, hgU, hVU, hlt⟩ := HR.out.2
    have HN : Hid (Dn w wr b g gk dp) := Lib.hid HR.out.1
    clear HR
    have hkp : 0 < gk := by
      rcases Nat.eq_zero_or_pos gk with e | e
      · subst e
        have : U = 0 := by simpa using hlt
        subst this
        omega
      · exact e
    obtain ⟨m, rfl⟩ : ∃ m, gk = m + 1 := ⟨gk - 1, by omega⟩
    have c0 := HN.out.cn
    have c1 := HN.out.cd m (by omega)
    have f0 := HN.out.fz 800
    rw [hgU.last] at c1
    by_cases hz : U % 10 = 0
    · have c1' : wr.cell? ⟨b, m, none⟩ = some (.int .u8 48) := by rw [c1, hz]; rfl
      have hpos : decide ((0 : Int) < ((m + 1 : Nat) : Int)) = true := by simp
      have KN : Hid (∀ n, Dn w ((wr.drewN n).setCell ⟨b, 800, none⟩ (.int .i64 (m : Int))) b g m dp ∧ ∃ U, Dg g m U ∧ V = U * 10 ^ (nd - m) ∧ U < 10 ^ m) := Lib.hid (by
        refine fun n => ⟨(HN.out.drewN n).setn _, U / 10, hgU.less, ?_, ?_⟩
        · rw [hVU, show nd - m = (nd - (m + 1)) + 1 from by omega, Nat.pow_succ, ← Nat.mul_assoc, Nat.mul_right_comm, show U / 10 * 10 = U from by omega]
        · rw [Nat.pow_succ] at hlt; omega)
      clear HN hgU hVU hlt c1 hz
      go_wp2_with fail
      go_quiet (fail)
      go_wp2_with fail
      go_roundg m
      case rel => exact ⟨by omega, KN.out nq⟩
      case measure => omega
    · have c1' : ((48 + ((U % 10 : Nat) : Int)) == 48) = false := by simp; omega
      have KN : Hid (∀ n, ∃ k U : Nat, k ≤ nd ∧ Dn w (wr.drewN n) b g k dp ∧ Dg g k U ∧ V = U * 10 ^ (nd - k) ∧ U % 10 ≠ 0 ∧ U < 10 ^ k) := Lib.hid (fun n => ⟨m + 1, U, hk, HN.out.drewN n, hgU, hVU, hz, hlt⟩)
      clear HN hgU hVU hlt hz
      obtain ⟨x, hx⟩ : ∃ x, x = 48 + ((U % 10 : Nat) : Int) := ⟨_, rfl⟩
      rw [← hx] at c1 c1'
      clear hx
      have hpos : decide ((0 : Int) < ((m + 1 : Nat) : Int)) = true := by simp
      go_wp2_with fail
      go_quiet (fail)
      go_wp2_with fail
      go_returns
      exact ⟨rfl, KN.out nq⟩
end Go.Proofs.YtdbjoiojiibdgaaGreatDoor
namespace Go.Proofs.YtdbjoiojiibdgaaGreatDoor
open Go.RowKit
theorem drewN_below {B : Nat} {a w : World} (n : Nat) : Below B a w = Below B a (w.drewN n) :=
  propext ⟨fun h => ⟨h.os, h.tape, h.output, h.size, h.block⟩, fun h => ⟨h.os, h.tape, h.output, h.size, h.block⟩⟩
theorem info5 : (Tryz.prog.info? 5).map (fun i => (i.zero, i.size, i.bytes)) = some (some (.int .u8 0), 1, 1) := by kernel_rfl
structure St (B : Nat) (w0 : World) (D : Option (Nat × TypeId × Array Value)) (v : Value) (l : List Int) (w : World) : Prop where
  own : w.ownsRow B 5 1 v l.length (l.map (Value.int .u8))
  bel : Below B w0 w
  dig : ∀ p, D = some p → w.heap[p.1]? = some (.cells p.2.2 p.2.1 (0, 0)) ∧ v.ownBlock ≠ some p.1
  size : B ≤ w.heap.size
  len : l.length ≤ 100000
theorem oneC (l : List Int) : ∀ u ∈ l.map (Value.int .u8), u.oneCell' = true := by
  intro u hu
  obtain ⟨n, _, rfl⟩ := List.mem_map.1 hu
  rfl
theorem St.alloc {B : Nat} {w0 : World} {D : Option (Nat × TypeId × Array Value)} {v : Value} {l : List Int} {w : World} (h : St B w0 D v l w) (o : Obj) : St B w0 D v l (w.alloc o) := by
  refine ⟨h.own.alloc o, h.bel.alloc h.size o, fun p hp => ⟨?_, (h.dig p hp).2⟩, by have := h.size; simp; omega, h.len⟩
  obtain ⟨h1, _⟩ := h.dig p hp
  have hlt := (Array.getElem?_eq_some_iff.1 h1).1
  rw [← h1]
  exact Below.heap_alloc w o p.1 hlt
theorem St.drew {B : Nat} {w0 : World} {D : Option (Nat × TypeId × Array Value)} {v : Value} {l : List Int} {w : World} (h : St B w0 D v l w) (n : Nat) : St B w0 D v l (w.drewN n) :=
  ⟨h.own, drewN_below n ▸ h.bel, h.dig, h.size, h.len⟩
section
variable {B : Nat} {w0 : World} {D : Option (Nat × TypeId × Array Value)} {v : Value} {l : List Int} {w : World}
theorem St.next (h : St B w0 D v l w) {v' : Value} {w' : World} {news : List Int} {m : Nat} (hm : news.length = m) (hl : l.length + m ≤ 100000) (hown : w'.ownsRow B 5 1 v' (l.length + m) (l.map (Value.int .u8) ++ news.map (Value.int .u8)))
    (hg : w.grownBy w' v.ownBlock) (hat : v'.ownBlock = v.ownBlock ∨ v'.ownBlock = some w.heap.size) : St B w0 D v' (l ++ news) w' := by
  refine ⟨?_, ?_, ?_, Nat.le_trans h.size hg.size, by rw [List.length_append, hm]; exact hl⟩
  · rw [List.map_append, List.length_append, hm]
    exact hown
  · refine ⟨hg.os.trans h.bel.os, hg.tape.trans h.bel.tape, hg.output.trans h.bel.output, Nat.le_trans h.bel.size hg.size, fun k hk => (hg.block k ?_ ?_).trans (h.bel.block k hk)⟩
    · have := h.size; omega
    · intro e
      have := (h.own.lt k e.symm).1
      omega
  · intro p hp
    obtain ⟨h1, h2⟩ := h.dig p hp
    have hlt := (Array.getElem?_eq_some_iff.1 h1).1
    refine ⟨(hg.block p.1 hlt (fun e => h2 e.symm)).trans h1, ?_⟩
    rcases hat with e | e
    · rw [e]; exact h2
    · rw [e]
      intro e2
      have := Option.some.inj e2
      omega
variable {ops : Array Oper} {rest : List Oper} {o : Oper} {a : Act} {Q : Exit → Act → World → Prop}
theorem app_new (hgd : o.guard = none) (s x : Operand) (ho : o.op = .call { callee := .builtin .append, args := #[s, x], argTypes := #[35, 35] })
    (hst : St B w0 D v l w) (hs : a.eval s = v) (cs : Array Value) (news : List Int) (m : Nat) (hx : a.eval x = .slice (some ⟨w.heap.size, 0, none⟩) m m)
    (hcs : cs = (news.map (Value.int .u8)).toArray) (hm : news.length = m) (hl : l.length + m ≤ 100000)
    (h : ∀ v' w', St B w0 D v' (l ++ news) w' → wpList Tryz.prog ops Q rest (a.put o.dst v') w') : wpList Tryz.prog ops Q (o :: rest) a (w.alloc (.cells cs 5)) := by
  obtain ⟨i0, hi, hz0, hz1, hz2⟩ := info_parts info5
  have hst' := hst.alloc (.cells cs 5)
  refine wpList_append_own_at (w.alloc (.cells cs 5)) hgd s x 35 ho B 5 i0 (.int .u8 0) 1 1 Tryz.underlying35 hi hz0 hz1 hz2 rfl (by decide) v l.length (l.map (Value.int .u8)) hs hst'.own
    ⟨w.heap.size, 0, none⟩ m m (news.map (Value.int .u8)) hx (by simp [hm]) ?_ (oneC news) (by unfold maxLen; omega) (by omega) hst'.size ?_
  · intro j u hj
    have hadd : (⟨w.heap.size, 0, none⟩ : Addr).add j = ⟨w.heap.size, j, none⟩ := by unfold Addr.add; split <;> simp_all
    rw [hadd, World.cell?_alloc_new, hcs]
    simpa using hj
  · intro v' w' h1 h2 _ h4
    exact h v' w' (hst'.next hm hl h1 h2 h4)
end
end Go.Proofs.YtdbjoiojiibdgaaGreatDoor
