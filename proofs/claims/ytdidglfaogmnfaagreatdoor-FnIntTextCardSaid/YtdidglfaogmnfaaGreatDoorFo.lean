/-
  A part of the proof of FnIntText: the tables out of the row; the arguments opened and shut.
-/
import Derived.Test.YtdidglfaogmnfaaGreatDoorFn
import Derived.Test.YtdidglfaogmnfaaGreatDoorTie
import Derived.Test.YtdidglfaogmnfaaGreatDoorCards
import Derived.ProofKit
import Derived.OpenShut
import Derived.OpenVars
import Derived.LaidMore
import Derived.Lay
import Derived.SevenTiedAt
import Derived.Stop.Joined
import Derived.Stop.LaidErr
import Derived.ChangeSame
namespace Go.Proofs.YtdidglfaogmnfaaGreatDoor
open Go Go.ChangeShapes Go.WideShapes Go.ChangeAt Go.RowKit Go.Proofs.YtdidglfaogmnfaaGreatDoorW.PrintWords

theorem own : ownKnob Tryz.prog.godebug = none := by kernel_rfl
theorem laidOut : laidOutB Tryz.prog = true := by kernel_rfl
theorem i64_of_laid {W : World} {name : String} {k : Int} {g : Nat} {rest : List (String × DataW Unit)} (hn : Tryz.prog.globalNamed name = some g) (ht0 : (Tryz.prog.globals[g]?).map (·.type) = some 3)
    (h : laidMet Tryz.prog ((name, (.lit (.int .i64 k) : DataW Unit)) :: rest) W) : W.cell? ⟨g, 0, none⟩ = some (.int .i64 k) ∧ g < W.heap.size := by
  obtain ⟨ps, ⟨g', t, cs, fuel, p, q, hg, ht, hv, hd, _, _⟩, _, _⟩ := h
  obtain rfl := Option.some.inj (hn.symm.trans hg)
  obtain rfl := Option.some.inj (ht0.symm.trans ht)
  obtain ⟨z, hcs, hx, _⟩ := DataW.trod_int Tryz.underlying3 hd
  have hz : z = k := by
    have := congrArg Prod.fst hx
    have h2 : (DataW.lit (.int .i64 k) : DataW Unit) = .lit (.int .i64 z) := this
    injection h2 with h3
    injection h3 with _ h4
    exact h4.symm
  subst hz
  have hc : W.cell? ⟨g, 0, none⟩ = some (.int .i64 z) := by
    rw [World.var?_cell hg hv, ← Array.getElem?_toList, hcs]
    rfl
  exact ⟨hc, cell_lt hc⟩
theorem tb_of_laid {W : World} (h : laidMetH Tryz.prog Rows.fnIntTextRow.laid W) : Tb W := by
  rw [MakeChecks.laidMetH_plain _ _ _ (by kernel_rfl)] at h
  have h1 : laidMet Tryz.prog (("math/bits.deBruijn64tab", Rows.laid_math_bits_deBruijn64tab) :: _) W := h.tail
  have h2 : laidMet Tryz.prog (("internal/strconv.uint64pow10", Lib.tabData .u64 Lib.pow10Tab) :: _) W := h1.tail
  have h3 : laidMet Tryz.prog (("given.example/pub-larkspur/pub/bigall.leafSize", (.lit (.int .i64 8) : DataW Unit)) :: _) W := h2.tail
  have h4 : laidMet Tryz.prog (("given.example/pub-larkspur/pub/bigall.divRecursiveThreshold", (.lit (.int .i64 40) : DataW Unit)) :: _) W := h3.tail
  have h5 : laidMet Tryz.prog (("given.example/pub-larkspur/pub/bigall.karatsubaThreshold", (.lit (.int .i64 40) : DataW Unit)) :: _) W := h4.tail
  have h6 : laidMet Tryz.prog (("given.example/pub-larkspur/pub/bigall.basicSqrThreshold", (.lit (.int .i64 12) : DataW Unit)) :: _) W := h5.tail
  have h7 : laidMet Tryz.prog (("given.example/pub-larkspur/pub/bigall.karatsubaSqrThreshold", (.lit (.int .i64 80) : DataW Unit)) :: _) W := h6.tail
  obtain ⟨a1, s1⟩ := i64_of_laid (g := 1) (by kernel_rfl) (by kernel_rfl) h3
  obtain ⟨a7, s7⟩ := i64_of_laid (g := 7) (by kernel_rfl) (by kernel_rfl) h4
  obtain ⟨a5, s5⟩ := i64_of_laid (g := 5) (by kernel_rfl) (by kernel_rfl) h6
  obtain ⟨a6, s6⟩ := i64_of_laid (g := 6) (by kernel_rfl) (by kernel_rfl) h7
  exact ⟨⟨a1, a5, a6, a7⟩, Lib.tabIs_of_head (g := 2) (t := 102) (e := 25) (n := 20) (by kernel_rfl) (by kernel_rfl) Tryz.underlying102 Tryz.underlying25 (by kernel_rfl) (by kernel_rfl) h2, s7⟩
theorem rd_c {W : World} {a : Addr} {len cap : Nat} {zs : List Int} (hle : len ≤ cap) (hmax : cap ≤ maxLen) (hall : zs.length = cap) (hcell : ∀ i, i < zs.length → W.cell? (a.add i) = some (.int .u8 (zs.getD i 0))) : Kd.C (Kd.int .u8) W (some a) (zs.take len).length (zs.take len) := by
  have hl : (zs.take len).length = len := by rw [List.length_take]; omega
  refine ⟨rfl, by rw [hl]; unfold maxLen at hmax; omega, fun _ => ⟨a, rfl, fun j p hj => ⟨[.int .u8 p], rfl, rfl, fun i u hu => ?_⟩⟩⟩
  have hjl : j < (zs.take len).length := by
    rcases Nat.lt_or_ge j (zs.take len).length with h | h
    · exact h
    · rw [List.getElem?_eq_none h] at hj; cases hj
  obtain rfl : i = 0 := by
    rcases Nat.eq_zero_or_pos i with h | h
    · exact h
    · rw [List.getElem?_eq_none (by simp; omega)] at hu; cases hu
  have hu' : Value.int .u8 p = u := by simpa using hu
  rw [show j * (Kd.int .u8).sz + 0 = j from by show j * 1 + 0 = j; omega, hcell j (by omega), ← hu']
  rw [List.getElem?_take] at hj
  rw [if_pos (by omega)] at hj
  rw [List.getD, hj]
  rfl
theorem rd_nil {W : World} (A : Option Addr) : Kd.C (Kd.int .u8) W A ([] : List Int).length [] := ⟨rfl, by simp, fun h => absurd h (by simp)⟩
theorem rd_byt {zs : List Int} (h : ∀ n ∈ zs, (Lit.int .u8 n).wf = true) (len : Nat) : Ref.Byt (zs.take len) := fun x hx => by
  have := h x (List.mem_of_mem_take hx)
  have h2 := bounds_u8 this
  omega
theorem vars5 {H : Type} {enc : TypeId × Value → H} {P : Program} {w : World} {sp : Nat → Bool} {n1 n2 n3 n4 n5 : String} {gs : List (DataW H)} {ps : List MemPlace} (h : DataW.TrodVars enc P w sp [n1, n2, n3, n4, n5] gs ps) : ∃ g1 g2 g3 g4 g5, gs = [g1, g2, g3, g4, g5] := by
  rcases gs with _ | ⟨g1, gs⟩
  · exact h.elim
  obtain ⟨_, _, _, _, _, _, _, _, _, _, h, _⟩ := h
  rcases gs with _ | ⟨g2, gs⟩
  · exact h.elim
  obtain ⟨_, _, _, _, _, _, _, _, _, _, h, _⟩ := h
  rcases gs with _ | ⟨g3, gs⟩
  · exact h.elim
  obtain ⟨_, _, _, _, _, _, _, _, _, _, h, _⟩ := h
  rcases gs with _ | ⟨g4, gs⟩
  · exact h.elim
  obtain ⟨_, _, _, _, _, _, _, _, _, _, h, _⟩ := h
  rcases gs with _ | ⟨g5, gs⟩
  · exact h.elim
  obtain ⟨_, _, _, _, _, _, _, _, _, _, h, _⟩ := h
  rcases gs with _ | ⟨g6, gs⟩
  · exact ⟨_, _, _, _, _, rfl⟩
  · exact h.elim
set_option maxRecDepth 100000 in
theorem lifted (os : Os) (started : os.Started) (H : Type) (enc : TypeId × Value → H) :
    ReturnsInHanded {} Tryz.checked os 3 .any (fun w args => (Rows.fnIntTextSpec.pre enc Tryz.prog Tryz.f3 Rows.fnIntTextRow.domain false w args ∧ laidMetH Tryz.prog Rows.fnIntTextRow.laid w) ∧ sizedMet enc Tryz.prog Tryz.f3 (OpenSpec.ofChange Rows.fnIntTextSpec) false w args)
      (Rows.fnIntTextSpec.post enc Tryz.prog Tryz.f3 false true false false) := by
  refine returnsInHanded_of_change_and (C := Tryz.checked) (X := fun w _ => laidMetH Tryz.prog Rows.fnIntTextRow.laid w) (fun _ _ _ hh h => h.of_heap hh) own started (by kernel_rfl) Tryz.func3
    (ChangeSpec.witness_shaped (enc := enc) (C := Tryz.checked) (os := os) (X := fun w _ => laidMetH Tryz.prog Rows.fnIntTextRow.laid w) false (World.laidAll Tryz.prog os Rows.fnIntTextRow.laid) #[.bool false, .slice none 0 0] 8 (World.laidAll_os _ _ _)
      (World.shaped_of_ZipB (by kernel_rfl) (by kernel_rfl)) (by kernel_rfl) (by kernel_rfl) (by kernel_rfl)
      (by rw [MakeChecks.laidMetH_plain _ _ _ (by kernel_rfl)]; exact laidMet_laidAll _ (by kernel_rfl) (by kernel_rfl))) ?_
  intro W base args ds gs before hval0 hW hc _ hL _
  have hval : ∀ (j : Nat) t v, Tryz.f3.params[j]? = some t → args[j]? = some v → Value.okWide Tryz.prog W .any base t v := hval0
  have hW' := hW
  have hlt := hW.lt
  obtain ⟨p, q, hA0, hV, rfl, _, _⟩ := hW
  have hA : DataW.TrodAll enc Tryz.prog W 0 (fun _ => true) true Tryz.f3.params.toList args.toList ds p := hA0
  rw [Tryz.params3] at hA hval
  obtain ⟨v0, v1, d0, d1, p0, p1, rfl, rfl, rfl, h0, h1⟩ := trodAll_two hA
  obtain ⟨an, rfl, rfl, rfl⟩ := open_bool Tryz.underlying4 (hval 0 4 v0 rfl rfl) h0
  obtain ⟨A, len, cap, rfl⟩ := okWide_slice Tryz.underlying22 (hval 1 22 _ rfl rfl)
  have key : ∃ l : List Int, l.length = len ∧ len ≤ cap ∧ Ref.Byt l ∧ Kd.C (Kd.int .u8) W A l.length l := by
    obtain ⟨fuel, hf⟩ := h1
    have c5 : Tryz.prog.cellsOf 5 = 1 := by kernel_rfl
    rcases open_ints Tryz.underlying22 Tryz.underlying5 c5 hf with ⟨hcs, hx⟩ | ⟨a, len', cap', zs, hcs, _, hle, hmax, hall, hx, hcell, hwf⟩
    · simp [Value.cells] at hcs
      obtain ⟨rfl, rfl, rfl⟩ := hcs
      exact ⟨[], rfl, Nat.le_refl _, fun x hx => (by cases hx), rd_nil _⟩
    · simp [Value.cells] at hcs
      obtain ⟨rfl, rfl, rfl⟩ := hcs
      have hall' : zs.length = cap := by simpa using hall
      exact ⟨zs.take len, by rw [List.length_take]; omega, hle, rd_byt hwf len, rd_c hle hmax hall' hcell⟩
  obtain ⟨l, rfl, hlc, hb, hC⟩ := key
  refine (law_c an A cap l W hC hlc hb (tb_of_laid hL)).mono fun e W' ⟨he, hF⟩ => ?_
  subst he
  have hB := below_of_fr hF
  have hva : DataW.TrodVars enc Tryz.prog W' (fun b => decide (b < W.heap.size)) Rows.fnIntTextSpec.vars gs q := Below.trodVars laidOut hB (by kernel_rfl) hV
  have hvb := Below.trod laidOut (by kernel_rfl) (of_decide_eq_true (by kernel_rfl)) h1 hB (fun x hx => hlt x (by simp [hx]))
  obtain ⟨g1, g2, g3, g4, g5, rfl⟩ := vars5 hV
  exact ⟨_, rfl, _, _, _, [], _, _, hW', trodAll_mk1 (shut_bool Tryz.underlying4 _), trodAll_mk2 (shut_bool Tryz.underlying4 _) hvb, hva, hB.frame _, fun h => (by cases h)⟩
end Go.Proofs.YtdidglfaogmnfaaGreatDoor
