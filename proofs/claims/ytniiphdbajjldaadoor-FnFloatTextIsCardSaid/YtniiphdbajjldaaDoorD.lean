/-
  A part of the proof of FnFloatTextIs: the text under way: the predicate St and the laws of append on it.
-/
import Derived.Test.YtniiphdbajjldaaDoorC
import Derived.Maps.AppendAt
import Derived.Laws.BytesArg
import Derived.Laws.MakeOwn
import Derived.Deep.DeepMust
namespace Go.Proofs.YtniiphdbajjldaaDoor
open Go.RowKit

theorem info5 : (Tryd.prog.info? 5).map (fun i => (i.zero, i.size, i.bytes)) = some (some (.int .u8 0), 1, 1) := by kernel_rfl

/-- the text that is being made: in the call's own row v; the digits' block, if any, is as it was; below B all is as it was -/
structure St (B : Nat) (w0 : World) (D : Option (Nat × Array Value)) (v : Value) (l : List Int) (w : World) : Prop where
  own : w.ownsRow B 5 1 v l.length (l.map (Value.int .u8))
  bel : Below B w0 w
  dig : ∀ p, D = some p → w.heap[p.1]? = some (.cells p.2 56 (0, 0)) ∧ v.ownBlock ≠ some p.1
  size : B ≤ w.heap.size
  len : l.length ≤ 100000

theorem oneC (l : List Int) : ∀ u ∈ l.map (Value.int .u8), u.oneCell' = true := by
  intro u hu
  obtain ⟨n, _, rfl⟩ := List.mem_map.1 hu
  rfl
theorem St.alloc {B : Nat} {w0 : World} {D : Option (Nat × Array Value)} {v : Value} {l : List Int} {w : World} (h : St B w0 D v l w) (o : Obj) : St B w0 D v l (w.alloc o) := by
  refine ⟨h.own.alloc o, h.bel.alloc h.size o, fun p hp => ⟨?_, (h.dig p hp).2⟩, by have := h.size; simp; omega, h.len⟩
  obtain ⟨h1, _⟩ := h.dig p hp
  have hlt := (Array.getElem?_eq_some_iff.1 h1).1
  rw [← h1]
  exact Below.heap_alloc w o p.1 hlt
theorem St.drew {B : Nat} {w0 : World} {D : Option (Nat × Array Value)} {v : Value} {l : List Int} {w : World} (h : St B w0 D v l w) (n : Nat) : St B w0 D v l (w.drewN n) :=
  ⟨h.own, drewN_below n ▸ h.bel, h.dig, h.size, h.len⟩

section
variable {B : Nat} {w0 : World} {D : Option (Nat × Array Value)} {v : Value} {l : List Int} {w : World}
theorem St.next (h : St B w0 D v l w) {v' : Value} {w' : World} {news : List Int} {m : Nat} (hm : news.length = m) (hl : l.length + m ≤ 100000) (hown : w'.ownsRow B 5 1 v' (l.length + m) (l.map (Value.int .u8) ++ news.map (Value.int .u8)))
    (hg : w.grownBy w' v.ownBlock) (hat : v'.ownBlock = v.ownBlock ∨ v'.ownBlock = some w.heap.size) : St B w0 D v' (l ++ news) w' := by
  refine ⟨?_, ?_, ?_, Nat.le_trans h.size hg.size, by rw [List.length_append, hm]; exact hl⟩
  · rw [List.map_append, List.length_append, hm]
    exact hown
  · refine ⟨hg.os.trans h.bel.os, hg.tape.trans h.bel.tape, hg.output.trans h.bel.output, Nat.le_trans h.bel.size hg.size, fun k hk => (hg.block k ?_ ?_).trans (h.bel.block k hk)⟩
    · have := h.size; omega
    · intro e
      have := (h.own.lt k e.symm).1
      omega
  · intro p hp
    obtain ⟨h1, h2⟩ := h.dig p hp
    have hlt := (Array.getElem?_eq_some_iff.1 h1).1
    refine ⟨(hg.block p.1 hlt (fun e => h2 e.symm)).trans h1, ?_⟩
    rcases hat with e | e
    · rw [e]; exact h2
    · rw [e]
      intro e2
      have := Option.some.inj e2
      omega
variable {ops : Array Oper} {rest : List Oper} {o : Oper} {a : Act} {Q : Exit → Act → World → Prop}
/-- append(dst, b1, .., bm) of numbers that lie in a block of their own, just laid -/
theorem app_new (hgd : o.guard = none) (s x : Operand) (ho : o.op = .call { callee := .builtin .append, args := #[s, x], argTypes := #[36, 36] })
    (hst : St B w0 D v l w) (hs : a.eval s = v) (cs : Array Value) (news : List Int) (m : Nat) (hx : a.eval x = .slice (some ⟨w.heap.size, 0, none⟩) m m)
    (hcs : cs = (news.map (Value.int .u8)).toArray) (hm : news.length = m) (hl : l.length + m ≤ 100000)
    (h : ∀ v' w', St B w0 D v' (l ++ news) w' → wpList Tryd.prog ops Q rest (a.put o.dst v') w') : wpList Tryd.prog ops Q (o :: rest) a (w.alloc (.cells cs 5)) := by
  obtain ⟨i0, hi, hz0, hz1, hz2⟩ := info_parts info5
  have hst' := hst.alloc (.cells cs 5)
  refine wpList_append_own_at (w.alloc (.cells cs 5)) hgd s x 36 ho B 5 i0 (.int .u8 0) 1 1 Tryd.underlying36 hi hz0 hz1 hz2 rfl (by decide) v l.length (l.map (Value.int .u8)) hs hst'.own
    ⟨w.heap.size, 0, none⟩ m m (news.map (Value.int .u8)) hx (by simp [hm]) ?_ (oneC news) (by unfold maxLen; omega) (by omega) hst'.size ?_
  · intro j u hj
    have hadd : (⟨w.heap.size, 0, none⟩ : Addr).add j = ⟨w.heap.size, j, none⟩ := by unfold Addr.add; split <;> simp_all
    rw [hadd, World.cell?_alloc_new, hcs]
    simpa using hj
  · intro v' w' h1 h2 _ h4
    exact h v' w' (hst'.next hm hl h1 h2 h4)
/-- append(dst, s[i:m]...) out of the digits' block -/
theorem app_dig (hgd : o.guard = none) (s x : Operand) (ho : o.op = .call { callee := .builtin .append, args := #[s, x], argTypes := #[36, 36] })
    {sb : Nat} {arr : Array Value} (hD : D = some (sb, arr)) (hst : St B w0 D v l w) (hs : a.eval s = v) (i m c : Nat) (news : List Int) (hx : a.eval x = .slice (some ⟨sb, i, none⟩) m c)
    (hcs : ∀ j, j < m → arr[i + j]? = some (.int .u8 (news.getD j 0))) (hm : news.length = m) (hl : l.length + m ≤ 100000)
    (h : ∀ v' w', St B w0 D v' (l ++ news) w' → wpList Tryd.prog ops Q rest (a.put o.dst v') w') : wpList Tryd.prog ops Q (o :: rest) a w := by
  obtain ⟨i0, hi, hz0, hz1, hz2⟩ := info_parts info5
  refine wpList_append_own_at w hgd s x 36 ho B 5 i0 (.int .u8 0) 1 1 Tryd.underlying36 hi hz0 hz1 hz2 rfl (by decide) v l.length (l.map (Value.int .u8)) hs hst.own
    ⟨sb, i, none⟩ m c (news.map (Value.int .u8)) hx (by simp [hm]) ?_ (oneC news) (by unfold maxLen; omega) (by omega) hst.size ?_
  · intro j u hj
    have hadd : (⟨sb, i, none⟩ : Addr).add j = ⟨sb, i + j, none⟩ := by unfold Addr.add; split <;> simp_all
    have hjm : j < m := by
      have := (List.getElem?_eq_some_iff.1 hj).1
      simpa [hm] using this
    rw [hadd, cell_of_row w sb (i + j) arr 56 (0, 0) (hst.dig _ hD).1, hcs j hjm]
    have hj' : j < news.length := by omega
    have : (news.map (Value.int .u8))[j]? = some (.int .u8 (news.getD j 0)) := by simp [List.getD, hj']
    rw [← this, hj]
  · intro v' w' h1 h2 _ h4
    exact h v' w' (hst.next hm hl h1 h2 h4)
end
end Go.Proofs.YtniiphdbajjldaaDoor
