/-
  A part of the proof of FnIntText: nat's set, setWord.
-/
import Derived.Test.YtdidglfaogmnfaaGreatDoorH
namespace Go.Proofs.YtdidglfaogmnfaaGreatDoor
open Go.RowKit

theorem Fr.setCells {w : World} {S : Nat → Nat → Prop} (b : Nat) : ∀ (vs : List Value) (o : Nat) (w' : World), Fr w w' S → (∀ j, j < vs.length → b < w.heap.size → S b (o + j)) → Fr w (w'.setCells b o vs) S
  | [], _, _, h, _ => h
  | v :: r, o, w', h, hS => Fr.setCells b r (o + 1) _ (h.set b o v (fun hb => by simpa using hS 0 (by simp) hb)) (fun j hj hb => by have := hS (j + 1) (by simp; omega) hb; rwa [show o + (j + 1) = o + 1 + j from by omega] at this)
/-- the words as values -/
def wvs (X n : Nat) : List Value := (List.range n).map fun i => .int .u64 ((wd X i : Nat) : Int)
theorem wvs_len (X n : Nat) : (wvs X n).length = n := by simp [wvs]
theorem wvs_at (X n i : Nat) (h : i < n) : (wvs X n)[i]? = some (.int .u64 ((wd X i : Nat) : Int)) := by simp [wvs, h]
theorem copy_c (b c bx ox n cx N X : Nat) (w : World) (hB : Blk w b N) (hN : n ≤ N) (hX : Ws w bx ox n X) (ty : TypeId) :
    (Builtin.copy_ #[45, 45] ty #[.slice (some ⟨b, 0, none⟩) n c, .slice (some ⟨bx, ox, none⟩) n cx]).run Tryz.prog w = .ok (.int .i64 n) (w.setCells b 0 (wvs X n)) ∧
      Ws (w.setCells b 0 (wvs X n)) b 0 n X ∧ Blk (w.setCells b 0 (wvs X n)) b N ∧ ∀ w0 S, Fr w0 w S → (∀ j, j < n → b < w0.heap.size → S b j) → Fr w0 (w.setCells b 0 (wvs X n)) S := by
  have hs : (Tryz.prog.info? 62).map (·.size) = some 1 := by kernel_rfl
  have hadd : ∀ j, (⟨bx, ox, none⟩ : Addr).add j = ⟨bx, ox + j, none⟩ := fun j => by unfold Addr.add; split <;> simp_all
  have hcell : ∀ j, j < (wvs X n).length → (w.cell? ⟨b, 0 + j, none⟩).isSome = true := fun j hj => by
    rw [wvs_len] at hj
    obtain ⟨v, hv⟩ := hB.here (0 + j) (by omega)
    rw [hv]; rfl
  have hF : ∀ w0 S, Fr w0 w S → (∀ j, j < n → b < w0.heap.size → S b j) → Fr w0 (w.setCells b 0 (wvs X n)) S := fun w0 S h hS => Fr.setCells b _ 0 w h (fun j hj hb => by rw [wvs_len] at hj; rw [Nat.zero_add]; exact hS j hj hb)
  refine ⟨?_, fun i hi => ?_, hB.fr (hF w (Al b) (Fr.refl _ _) (fun _ _ _ => rfl)), hF⟩
  · have h := run_copy_cells (P := Tryz.prog) w 45 45 ty 62 b 0 n c ⟨bx, ox, none⟩ n cx (wvs X n) Tryz.underlying45 hs (by rw [wvs_len]; exact (Nat.min_self n).symm)
      (fun j v hv => by
        have hj : j < n := by
          have := (List.getElem?_eq_some_iff.1 hv).1
          rwa [wvs_len] at this
        rw [wvs_at X n j hj] at hv
        rw [hadd, ← Option.some.inj hv]
        exact hX j hj)
      hcell (fun j hj => hB.fz _)
      (fun v hv => by
        simp only [wvs, List.mem_map] at hv
        obtain ⟨i, _, rfl⟩ := hv
        rfl)
    rw [wvs_len] at h
    exact h
  · have h := World.cell?_setCells_in b (wvs X n) 0 w hcell i (by rw [wvs_len]; exact hi)
    rw [h]
    have := wvs_at X n i hi
    rw [List.getElem?_eq_getElem (by rw [wvs_len]; exact hi)] at this
    exact this
theorem set_c (v : Value) (b0 bx ox n cx X : Nat) (hn : 1 ≤ n) (hn1 : n ≤ 1000) (w : World) (hs : Sto w v b0) (hX : Ws w bx ox n X) (hne : v ≠ .slice none 0 0 → b0 ≠ bx) :
    Calls Tryz.prog 31 #[v, .slice (some ⟨bx, ox, none⟩) n cx] w fun e w' => ∃ b c, e = .returned (.slice (some ⟨b, 0, none⟩) n c) ∧ n ≤ c ∧ c ≤ 4000 ∧ Whr w w' b b0 v ∧ Blk w' b c ∧ Ws w' b 0 n X ∧ Fr w w' (fun k _ => k = b0 ∧ v ≠ .slice none 0 0) := by
  have KM := Lib.hid (make_c v b0 n hn hn1 w hs)
  have KX := Lib.hid hX
  have KE := Lib.hid hne
  clear hs hX hne
  go_enter Tryz.func31, Tryz.ntmps31
  go_wp2_with fail
  refine KM.out.mono ?_
  rintro e w1 ⟨b, c, rfl, hnc, hc, hW, hB, hF⟩
  have hX1 := KX.out.fr hF (fun i _ c => c)
  have hbx : bx < w.heap.size := cell_lt (KX.out 0 (by omega))
  have hcp := fun ty => copy_c b c bx ox n cx c X w1 hB hnc hX1 ty
  have KH : Hid (Whr w (w1.setCells b 0 (wvs X n)) b b0 v ∧ Blk (w1.setCells b 0 (wvs X n)) b c ∧ Ws (w1.setCells b 0 (wvs X n)) b 0 n X ∧ Fr w (w1.setCells b 0 (wvs X n)) (fun k _ => k = b0 ∧ v ≠ .slice none 0 0)) := Lib.hid (by
    obtain ⟨_, a1, a2, a3⟩ := hcp 0
    have hF1 := a3 w1 (Al b) (Fr.refl _ _) (fun _ _ _ => rfl)
    refine ⟨?_, a2, a1, a3 w _ hF.no (fun j _ hb => ?_)⟩
    · rcases hW with h | ⟨h1, h2⟩
      · exact Or.inl h
      · exact Or.inr ⟨h1, Nat.lt_of_lt_of_le h2 hF1.size⟩
    · rcases hW with h | ⟨h1, _⟩
      · exact h
      · omega)
  have hcp1 := fun ty => (hcp ty).1
  clear hcp hX1 hW hB hF hbx
  generalize w1.setCells b 0 (wvs X n) = w2 at *
  go_wp2_with fail
  go_returns
  exact ⟨b, c, rfl, hnc, hc, KH.out⟩
theorem setWord_c (x n : Nat) (hx : 1 ≤ x) (hx1 : x < 18446744073709551616) (w : World) :
    Calls Tryz.prog 68 #[.slice none 0 0, .int .u64 x] w fun e w' => ∃ b c, e = .returned (.slice (some ⟨b, 0, none⟩) 1 c) ∧ 1 ≤ c ∧ c ≤ 4000 ∧ Whr w w' b n (.slice none 0 0) ∧ Blk w' b c ∧ Ws w' b 0 1 x ∧ Fr w w' No := by
  have KM := Lib.hid (make_c (.slice none 0 0) n 1 (by omega) (by omega) w (Or.inl rfl))
  have h0 : ¬ x = 0 := by omega
  have KX := Lib.hid hx1
  clear hx hx1
  go_enter Tryz.func68, Tryz.ntmps68
  go_wp2_with fail
  refine KM.out.mono ?_
  rintro e w1 ⟨b, c, rfl, hnc, hc, hW, hB, hF⟩
  have fz := hB.fz 0
  obtain ⟨z, hz⟩ := hB.here 0 (by omega)
  have KH : Hid (Whr w (w1.setCell ⟨b, 0, none⟩ (.int .u64 x)) b n (.slice none 0 0) ∧ Blk (w1.setCell ⟨b, 0, none⟩ (.int .u64 x)) b c ∧ Ws (w1.setCell ⟨b, 0, none⟩ (.int .u64 x)) b 0 1 x ∧ Fr w (w1.setCell ⟨b, 0, none⟩ (.int .u64 x)) No) := Lib.hid (by
    have hF1 : Fr w1 (w1.setCell ⟨b, 0, none⟩ (.int .u64 x)) (Al b) := (Fr.refl _ _).set _ _ _ (fun _ => rfl)
    refine ⟨?_, hB.fr hF1, fun i hi => ?_, hF.set _ _ _ (fun hb => ?_)⟩
    · rcases hW with h | ⟨h1, h2⟩
      · exact Or.inl h
      · exact Or.inr ⟨h1, Nat.lt_of_lt_of_le h2 hF1.size⟩
    · obtain rfl : i = 0 := by omega
      have := hB.get 0 (by omega) (.int .u64 x)
      rw [this]
      unfold wd
      rw [Nat.pow_zero, Nat.div_one, Nat.mod_eq_of_lt KX.out]
    · rcases hW with h | ⟨h1, _⟩
      · exact absurd rfl h.2
      · omega)
  clear hW hB hF
  go_wp2_with fail
  go_returns
  exact ⟨b, c, rfl, hnc, hc, KH.out⟩
end Go.Proofs.YtdidglfaogmnfaaGreatDoor
