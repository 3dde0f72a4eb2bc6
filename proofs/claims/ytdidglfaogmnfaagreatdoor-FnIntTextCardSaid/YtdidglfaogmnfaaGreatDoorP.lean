/-
  A part of the proof of FnIntText: alias, copying, the thresholds.
-/
import Derived.Test.YtdidglfaogmnfaaGreatDoorO
import Derived.Test.YtdidglfaogmnfaaGreatDoorI
import Derived.LaidEqlPtr
namespace Go.Proofs.YtdidglfaogmnfaaGreatDoor
open Go.RowKit

/-- the package's thresholds -/
def Gl (w : World) : Prop := w.cell? ⟨1, 0, none⟩ = some (.int .i64 8) ∧ w.cell? ⟨5, 0, none⟩ = some (.int .i64 12) ∧ w.cell? ⟨6, 0, none⟩ = some (.int .i64 80) ∧ w.cell? ⟨7, 0, none⟩ = some (.int .i64 40)
theorem Gl.fr {w w' : World} {S : Nat → Nat → Prop} (h : Gl w) (hf : Fr w w' S) (hS : ∀ k, k < 8 → ¬ S k 0) : Gl w' :=
  ⟨hf.keep h.1 (hS 1 (by omega)), hf.keep h.2.1 (hS 5 (by omega)), hf.keep h.2.2.1 (hS 6 (by omega)), hf.keep h.2.2.2 (hS 7 (by omega))⟩
theorem alias_nil (y : Value) (w : World) : Calls Tryz.prog 70 #[.slice none 0 0, y] w fun e w' => e = .returned (.bool false) ∧ ∃ q, w' = w.drewN q := by
  go_enter Tryz.func70, Tryz.ntmps70
  go_wp2_with fail
  go_quiet (fail)
  go_wp2_with fail
  go_returns
  exact ⟨rfl, _, rfl⟩
theorem alias_ne (bx lx cx yb ly cy : Nat) (w : World) (h : bx ≠ yb) (hx : 1 ≤ cx) (hy : 1 ≤ cy) (hx1 : cx ≤ 4000) (hy1 : cy ≤ 4000) (hBx : Blk w bx cx) (hBy : Blk w yb cy) :
    Calls Tryz.prog 70 #[.slice (some ⟨bx, 0, none⟩) lx cx, .slice (some ⟨yb, 0, none⟩) ly cy] w fun e w' => e = .returned (.bool false) ∧ ∃ q, w' = w.drewN q := by
  have d1 : decide (0 < cx) = true := by simp; omega
  have d2 : decide (0 < cy) = true := by simp; omega
  have e1 : IntKind.i64.wrap ((cx : Int) - 1) = ((cx - 1 : Nat) : Int) := by rw [IntKind.wrap_i64]; omega
  have e2 : IntKind.i64.wrap ((cy : Int) - 1) = ((cy - 1 : Nat) : Int) := by rw [IntKind.wrap_i64]; omega
  have l1 : cx - 1 < cx := by omega
  have l2 : cy - 1 < cy := by omega
  have he : ∀ q, (binOp .eql 127 (.pointer (some ⟨bx, cx - 1, none⟩)) (.pointer (some ⟨yb, cy - 1, none⟩))).run Tryz.prog (w.drewN q) = .ok (.bool false) (w.drewN q) := fun q => by
    obtain ⟨i0, hi, hz0, hz1, hz2⟩ := info_parts info62
    obtain ⟨ax, tx, hx1, _⟩ := hBx
    obtain ⟨ay, ty, hy1, _⟩ := hBy
    exact run_eql_ptr_other (w.drewN q) (tp := 127) (te := 62) Tryz.underlying127 hi (by omega) (by simp) hx1 hy1
  clear hBx hBy
  go_enter Tryz.func70, Tryz.ntmps70
  go_wp2_with fail
  go_quiet (fail)
  go_wp2_with fail
  go_returns
  exact ⟨rfl, _, rfl⟩
theorem alias_none (bx lx : Nat) (y : Value) (w : World) : Calls Tryz.prog 70 #[.slice (some ⟨bx, 0, none⟩) lx 0, y] w fun e w' => e = .returned (.bool false) ∧ ∃ q, w' = w.drewN q := by
  go_enter Tryz.func70, Tryz.ntmps70
  go_wp2_with fail
  go_quiet (fail)
  go_wp2_with fail
  go_returns
  exact ⟨rfl, _, rfl⟩
theorem alias_sto (z : Value) (bz yb ly cy : Nat) (w : World) (hz : Sto w z bz) (hne : z ≠ .slice none 0 0 → bz ≠ yb) (hy : 1 ≤ cy) (hy1 : cy ≤ 4000) (hBy : Blk w yb cy) :
    Calls Tryz.prog 70 #[z, .slice (some ⟨yb, 0, none⟩) ly cy] w fun e w' => e = .returned (.bool false) ∧ ∃ q, w' = w.drewN q := by
  rcases hz with rfl | ⟨l, c, rfl, h1, h2, h3⟩
  · exact alias_nil _ w
  · rcases Nat.eq_zero_or_pos c with e | e
    · subst e; exact alias_none _ _ _ w
    · exact alias_ne bz l c yb ly cy w (hne (by simp)) e hy h2 hy1 h3 hBy
theorem copy_o (b ob c bx ox n cx N X : Nat) (w : World) (hB : Blk w b N) (hN : ob + n ≤ N) (hX : Ws w bx ox n X) :
    (∀ ty, (Builtin.copy_ #[45, 45] ty #[.slice (some ⟨b, ob, none⟩) n c, .slice (some ⟨bx, ox, none⟩) n cx]).run Tryz.prog w = .ok (.int .i64 n) (w.setCells b ob (wvs X n))) ∧
      Ws (w.setCells b ob (wvs X n)) b ob n X ∧ ∀ w0 S, Fr w0 w S → (∀ j, j < n → b < w0.heap.size → S b (ob + j)) → Fr w0 (w.setCells b ob (wvs X n)) S := by
  have hs : (Tryz.prog.info? 62).map (·.size) = some 1 := by kernel_rfl
  have hcell : ∀ j, j < (wvs X n).length → (w.cell? ⟨b, ob + j, none⟩).isSome = true := fun j hj => by
    rw [wvs_len] at hj
    obtain ⟨v, hv⟩ := hB.here (ob + j) (by omega)
    rw [hv]; rfl
  have hF : ∀ w0 S, Fr w0 w S → (∀ j, j < n → b < w0.heap.size → S b (ob + j)) → Fr w0 (w.setCells b ob (wvs X n)) S := fun w0 S h hS => Fr.setCells b _ ob w h (fun j hj hb => by rw [wvs_len] at hj; exact hS j hj hb)
  refine ⟨fun ty => ?_, fun i hi => ?_, hF⟩
  · have h := run_copy_cells (P := Tryz.prog) w 45 45 ty 62 b ob n c ⟨bx, ox, none⟩ n cx (wvs X n) Tryz.underlying45 hs (by rw [wvs_len]; exact (Nat.min_self n).symm)
      (fun j v hv => by
        have hj : j < n := by
          have := (List.getElem?_eq_some_iff.1 hv).1
          rwa [wvs_len] at this
        rw [wvs_at X n j hj] at hv
        rw [add_none, ← Option.some.inj hv]
        exact hX j hj)
      hcell (fun j hj => hB.fz _)
      (fun v hv => by
        simp only [wvs, List.mem_map] at hv
        obtain ⟨i, _, rfl⟩ := hv
        rfl)
    rw [wvs_len] at h
    exact h
  · have h := World.cell?_setCells_in b (wvs X n) ob w hcell i (by rw [wvs_len]; exact hi)
    rw [h]
    have := wvs_at X n i hi
    rw [List.getElem?_eq_getElem (by rw [wvs_len]; exact hi)] at this
    exact this
theorem Sto.fr {w w' : World} {S : Nat → Nat → Prop} {v : Value} {b : Nat} (h : Sto w v b) (hf : Fr w w' S) : Sto w' v b := by
  rcases h with h | ⟨l, c, h1, h2, h3, h4⟩
  · exact Or.inl h
  · exact Or.inr ⟨l, c, h1, h2, h3, h4.fr hf⟩
theorem Sto.lt {w : World} {v : Value} {b : Nat} (h : Sto w v b) (hn : v ≠ .slice none 0 0) : b < w.heap.size := by
  rcases h with h | ⟨l, c, h1, h2, h3, h4⟩
  · exact absurd h hn
  · exact h4.lt
end Go.Proofs.YtdidglfaogmnfaaGreatDoor
