/-
  A part of the proof of FnIntText: impl.whole.
-/
import Derived.Test.YtdidglfaogmnfaaGreatDoorFh
namespace Go.Proofs.YtdidglfaogmnfaaGreatDoor
set_option linter.unusedVariables false
open Go.RowKit

theorem abs_ne {w : World} {v x : Value} {X p : Nat} (h : Abs w v X) (hx : w.cell? ⟨p, 0, none⟩ = some x) (hn : ∀ z, x ≠ .int .u64 z) : ∀ b k c, v = .slice (some ⟨b, 0, none⟩) k c → b ≠ p := by
  intro b k c e he
  subst he
  rcases h with ⟨h, _⟩ | ⟨b2, k2, c2, h, h1, h2, h3, h4, h5, h6, h7, h8⟩
  · rw [h] at e; cases e
  · rw [h] at e
    injection e with e1
    injection e1 with e1
    injection e1 with e1
    subst e1
    have := h7 0 h1
    rw [Nat.add_zero, hx] at this
    exact hn _ (Option.some.inj this)
theorem IntV.fr {w w' : World} {iv : Value} {neg : Bool} {X r : Nat} (h : IntV w iv neg X) (hr : w.cell? ⟨r, 0, none⟩ = some (.int .i64 0)) (hf : Fr w w' (fun k _ => k = r)) : IntV w' iv neg X := by
  rcases h with h | ⟨h1, p, v, h2, h3, h4⟩
  · exact Or.inl h
  · refine Or.inr ⟨h1, p, v, h2, h3.fr hf (fun j (c : p = r) => ?_), h4.fr hf (abs_ne h4 hr (fun z e => by cases e))⟩
    subst c
    have := h3.c0
    rw [hr] at this
    cases this
theorem MakeBig_c (q X : Nat) (neg : Bool) (v : Value) (w : World) (hq : Bi w q neg v) (hv : Abs w v X) :
    Calls Tryz.prog 15 #[.pointer (some ⟨q, 0, none⟩)] w fun e w' => ∃ x y, e = .returned (.agg #[.int .i64 x, .pointer y]) ∧ Hid (IntV w' (.agg #[.int .i64 x, .pointer y]) neg X ∧ Fr w w' No) := by
  cases hs : sml neg X
  · refine (makeBig_big q X neg v w hq hv hs).mono ?_
    rintro e w' ⟨p, v2, rfl, h1, h2, h3⟩
    exact ⟨_, _, rfl, Lib.hid ⟨Or.inr ⟨hs, p, v2, rfl, h1, h2⟩, h3⟩⟩
  · refine (makeBig_small q X neg v w hq hv hs).mono ?_
    rintro e w' ⟨rfl, h3⟩
    exact ⟨_, _, rfl, Lib.hid ⟨Or.inl ⟨hs, rfl⟩, h3⟩⟩
/-- the number is laid -/
structure WhA (w w1 : World) (P V : Nat) (ng neg : Bool) (v2 : Value) : Prop where
  b : Bi w1 P ng v2
  a : Abs w1 v2 V
  f : Fr w w1 No
  x : w1.cell? ⟨w.heap.size, 1, none⟩ = some (.bool neg)
  r0 : w1.cell? ⟨w.heap.size + 1, 0, none⟩ = some (.int .i64 0)
  r : Blk w1 (w.heap.size + 1) 2
def W9 (w : World) (neg : Bool) (v u : Value) : World := ((w.alloc (.cells #[.int .i64 2, .bool neg, v, .int .u64 0, .string ⟨#[]⟩, u] 28)).alloc (.cells #[.int .i64 0, .pointer none] 40)).alloc (.cells #[.bool false, .slice none 0 0] 47)
theorem cell_new (w : World) (arr : Array Value) (T : TypeId) (i : Nat) (v : Value) (h : arr[i]? = some v) : (w.alloc (.cells arr T)).cell? ⟨w.heap.size, i, none⟩ = some v := by
  have hh := heap_alloc_new w (.cells arr T)
  simp only [World.cell?, hh]
  exact h
theorem size_new (w : World) (o : Obj) : (w.alloc o).heap.size = w.heap.size + 1 := by
  show (w.heap.push o).size = _
  simp
theorem wh_bytes (neg : Bool) (v u : Value) (l : List Int) (w : World) (hl : l.length ≤ 150) (hv : Dl w v l) (V : Nat) (hc : Ref.Can l V) (P : Nat) (hP : P = w.heap.size + 2) :
    Calls Tryz.prog 13 #[.pointer (some ⟨P, 0, none⟩), v] (W9 w neg v u) fun e w' => ∃ v2, e = .returned (.pointer (some ⟨P, 0, none⟩)) ∧ Hid (WhA w w' P V false neg v2) := by
  subst hP
  have f1 := new40 w #[.int .i64 2, .bool neg, v, .int .u64 0, .string ⟨#[]⟩, u] 28
  have f2 := new40 (w.alloc (.cells #[.int .i64 2, .bool neg, v, .int .u64 0, .string ⟨#[]⟩, u] 28)) #[.int .i64 0, .pointer none] 40
  have f3 := new40 ((w.alloc (.cells #[.int .i64 2, .bool neg, v, .int .u64 0, .string ⟨#[]⟩, u] 28)).alloc (.cells #[.int .i64 0, .pointer none] 40)) #[.bool false, .slice none 0 0] 47
  have s1 : (w.alloc (.cells #[.int .i64 2, .bool neg, v, .int .u64 0, .string ⟨#[]⟩, u] 28)).heap.size = w.heap.size + 1 := size_new _ _
  have s2 : ((w.alloc (.cells #[.int .i64 2, .bool neg, v, .int .u64 0, .string ⟨#[]⟩, u] 28)).alloc (.cells #[.int .i64 0, .pointer none] 40)).heap.size = w.heap.size + 2 := by rw [size_new, s1]
  have c0 := cell_new ((w.alloc (.cells #[.int .i64 2, .bool neg, v, .int .u64 0, .string ⟨#[]⟩, u] 28)).alloc (.cells #[.int .i64 0, .pointer none] 40)) #[.bool false, .slice none 0 0] 47 0 _ rfl
  have c1 := cell_new ((w.alloc (.cells #[.int .i64 2, .bool neg, v, .int .u64 0, .string ⟨#[]⟩, u] 28)).alloc (.cells #[.int .i64 0, .pointer none] 40)) #[.bool false, .slice none 0 0] 47 1 _ rfl
  have cb := Blk.new ((w.alloc (.cells #[.int .i64 2, .bool neg, v, .int .u64 0, .string ⟨#[]⟩, u] 28)).alloc (.cells #[.int .i64 0, .pointer none] 40)) #[.bool false, .slice none 0 0] 47 2 rfl
  rw [s2] at c0 c1 cb
  have x1 := f3.keep (f2.keep (cell_new w #[.int .i64 2, .bool neg, v, .int .u64 0, .string ⟨#[]⟩, u] 28 1 _ rfl) (fun c => c)) (fun c => c)
  have r0 := f3.keep (cell_new (w.alloc (.cells #[.int .i64 2, .bool neg, v, .int .u64 0, .string ⟨#[]⟩, u] 28)) #[.int .i64 0, .pointer none] 40 0 _ rfl) (fun c => c)
  have rb := (Blk.new (w.alloc (.cells #[.int .i64 2, .bool neg, v, .int .u64 0, .string ⟨#[]⟩, u] 28)) #[.int .i64 0, .pointer none] 40 2 rfl).fr f3
  rw [s1] at r0 rb
  refine (SetBytes_c v l (W9 w neg v u) hl (((hv.no f1).no f2).no f3) V hc (w.heap.size + 2) ⟨cb, c0, c1⟩).mono ?_
  rintro e w' ⟨v2, rfl, HH⟩
  obtain ⟨h1, h2, h3⟩ := HH.out
  exact ⟨v2, rfl, Lib.hid ⟨h1, h2, ((f1.trans f2 (fun _ _ _ c => c)).trans f3 (fun _ _ _ c => c)).trans h3 (fun k j hk (c : k = w.heap.size + 2) => by omega), h3.keep x1 (fun c => by omega), h3.keep r0 (fun c => by omega), rb.fr h3⟩⟩
theorem WhA.neg {w w1 : World} {P V : Nat} {v2 : Value} (h : WhA w w1 P V false true v2) (hP : P = w.heap.size + 2) :
    Calls Tryz.prog 14 #[.pointer (some ⟨P, 0, none⟩), .pointer (some ⟨P, 0, none⟩)] w1 fun e w' => e = .returned (.pointer (some ⟨P, 0, none⟩)) ∧ Hid (WhA w w' P V (decide (1 ≤ V)) true v2) := by
  refine (neg_c P V v2 w1 h.b h.a).mono ?_
  rintro e w' ⟨ng, rfl, rfl, h1, h2⟩
  exact ⟨rfl, Lib.hid ⟨h1, h.a.fr h2 (abs_ne h.a h.b.c0 (fun z e => by cases e)), h.f.trans h2 (fun k j hk (c : k = P) => by omega), h2.keep h.x (fun c => by omega), h2.keep h.r0 (fun c => by omega), h.r.fr h2⟩⟩
theorem WhA.make {w w1 : World} {P V : Nat} {ng neg : Bool} {v2 : Value} (h : WhA w w1 P V ng neg v2) :
    Calls Tryz.prog 15 #[.pointer (some ⟨P, 0, none⟩)] w1 fun e w' => ∃ x y, e = .returned (.agg #[.int .i64 x, .pointer y]) ∧ Blk w' (w.heap.size + 1) 2 ∧ Hid (IntV w' (.agg #[.int .i64 x, .pointer y]) ng V ∧ Fr w w' No ∧ w'.cell? ⟨w.heap.size + 1, 0, none⟩ = some (.int .i64 0)) := by
  refine (MakeBig_c P V ng v2 w1 h.b h.a).mono ?_
  rintro e w' ⟨x, y, rfl, HH⟩
  exact ⟨x, y, rfl, h.r.fr HH.out.2, Lib.hid ⟨HH.out.1, h.f.trans HH.out.2 (fun _ _ _ c => c), HH.out.2.keep h.r0 (fun c => c)⟩⟩
theorem rd3 {w w3 w4 : World} {r : Nat} {a b : Value} (hB : Blk w3 r 2) (h : (w3.setCell ⟨r, 0, none⟩ a).setCell ⟨r, 1, none⟩ b = w4) (hF : Fr w w3 No) (hr : w.heap.size ≤ r) : w4.cell? ⟨r, 0, none⟩ = some a ∧ w4.cell? ⟨r, 1, none⟩ = some b ∧ Fr w w4 No ∧ Fr w3 w4 (fun k _ => k = r) := by
  have h1 : Fr w3 (w3.setCell ⟨r, 0, none⟩ a) (fun k _ => k = r) := (Fr.refl _ _).set _ _ _ (fun _ => rfl)
  have h2 := h1.set r 1 b (fun _ => rfl)
  rw [h] at h2
  refine ⟨?_, ?_, ?_, h2⟩
  · rw [← h, cell_set_ne _ _ _ _ _ _ (by simp)]
    exact hB.get 0 (by decide) _
  · rw [← h]
    exact (hB.fr h1).get 1 (by decide) _
  · exact hF.trans h2 (fun k j hk (c : k = r) => by omega)
set_option maxRecDepth 100000 in
set_option maxHeartbeats 1000000 in
theorem whole9_c (neg : Bool) (v u : Value) (l : List Int) (w : World) (hl : l.length ≤ 150) (hv : Dl w v l) (V : Nat) (hc : Ref.Can l V) :
    Calls Tryz.prog 9 #[.agg #[.int .i64 2, .bool neg, v, .int .u64 0, .string ⟨#[]⟩, u]] w fun e w' => ∃ x y, e = .returned (.agg #[.int .i64 x, .pointer y]) ∧ IntV w' (.agg #[.int .i64 x, .pointer y]) (neg && decide (1 ≤ V)) V ∧ Fr w w' No := by
  have KB := Lib.hid (wh_bytes neg v u l w hl hv V hc (w.heap.size + 1 + 1) rfl)
  unfold W9 at KB
  clear hl hv hc
  cases neg
  · go_enter Tryz.func9, Tryz.ntmps9
    go_wp2_with fail
    with_reducible refine KB.out.mono ?_
    rintro e w1 ⟨v2, rfl, H1⟩
    have cx := H1.out.x
    have KM := Lib.hid H1.out.make
    go_wp2_with fail
    with_reducible refine KM.out.mono ?_
    rintro e w2 ⟨x, y, rfl, hB, H2⟩
    have fz0 := hB.fz 0
    have fz1 := hB.fz 1
    obtain ⟨u0, hu0⟩ := hB.here 0 (by decide)
    obtain ⟨u1, hu1⟩ := hB.here 1 (by decide)
    have KBk := Lib.hid hB
    clear hB KM KB cx
    go_wp2_with fail
    generalize hw : World.setCell _ _ _ = w4
    obtain ⟨r0, r1, r2, r3⟩ := rd3 (w := w) KBk.out hw H2.out.2.1 (by omega)
    clear hw
    refine bodyPost_ret (by simp [results, Tryz.results9, go_sem, r0, r1]; try rfl) rfl ?_
    exact ⟨x, y, rfl, by rw [Bool.false_and]; exact H2.out.1.fr H2.out.2.2 r3, r2⟩
  · go_enter Tryz.func9, Tryz.ntmps9
    go_wp2_with fail
    with_reducible refine KB.out.mono ?_
    rintro e w1 ⟨v2, rfl, H1⟩
    have cx := H1.out.x
    have KG := Lib.hid (H1.out.neg rfl)
    go_wp2_with fail
    with_reducible refine KG.out.mono ?_
    rintro e w1b ⟨rfl, H1b⟩
    have KM := Lib.hid H1b.out.make
    go_wp2_with fail
    with_reducible refine KM.out.mono ?_
    rintro e w2 ⟨x, y, rfl, hB, H2⟩
    have fz0 := hB.fz 0
    have fz1 := hB.fz 1
    obtain ⟨u0, hu0⟩ := hB.here 0 (by decide)
    obtain ⟨u1, hu1⟩ := hB.here 1 (by decide)
    have KBk := Lib.hid hB
    clear hB KM KB cx
    go_wp2_with fail
    generalize hw : World.setCell _ _ _ = w4
    obtain ⟨r0, r1, r2, r3⟩ := rd3 (w := w) KBk.out hw H2.out.2.1 (by omega)
    clear hw
    refine bodyPost_ret (by simp [results, Tryz.results9, go_sem, r0, r1]; try rfl) rfl ?_
    exact ⟨x, y, rfl, by rw [Bool.true_and]; exact H2.out.1.fr H2.out.2.2 r3, r2⟩
end Go.Proofs.YtdidglfaogmnfaaGreatDoor
