/-
  Proved: for every uint64 pattern the law FnFloatTextIs returns true (the statement FnFloatTextIsCardSaid), under the row's own condition alone: the listed package variables read as the program's text lays them.
-/
import Derived.Test.YtniiphdbajjldaaDoorQ
import Derived.Test.YtniiphdbajjldaaDoorTie
import Derived.Test.YtniiphdbajjldaaDoorCards
import Derived.ProofKit
import Derived.OpenShut
import Derived.LaidMore
import Derived.Lay
import Derived.SevenTiedAt
import Derived.Stop.Joined
import Derived.Stop.LaidErr
import Derived.ChangeSame
namespace Go.Proofs.YtniiphdbajjldaaDoor
open Go Go.ChangeShapes Go.WideShapes Go.ChangeAt Go.RowKit

theorem own : ownKnob Tryd.prog.godebug = none := by kernel_rfl
theorem pow_of_laid {W : World} {rest : List (String × DataW Unit)} (h : laidMet Tryd.prog (("internal/strconv.pow10Tab", Rows.laid_internal_strconv_pow10Tab) :: rest) W) (h8 : 8 ≤ W.heap.size) : PowTab W := by
  refine ⟨h8, fun r hr => ?_⟩
  obtain ⟨ps, ⟨g, t, cs, fuel, p, q, hg, ht, hv, hd, _, _⟩, _, _⟩ := h
  obtain rfl := Option.some.inj ((show Tryd.prog.globalNamed "internal/strconv.pow10Tab" = some 4 by kernel_rfl).symm.trans hg)
  obtain rfl := Option.some.inj ((show (Tryd.prog.globals[4]?).map (·.type) = some 97 by kernel_rfl).symm.trans ht)
  obtain ⟨xs, m, _, ex, _, hl, hel⟩ := DataW.trod_array Tryd.underlying97 hd
  have c96 : Tryd.prog.cellsOf 96 = 2 := by kernel_rfl
  have c22 : Tryd.prog.cellsOf 22 = 1 := by kernel_rfl
  have hE := hel r hr
  rw [c96, List.getElem?_eq_getElem (by omega)] at hE
  obtain ⟨y0, y1, n, e1, _, h0, h1⟩ := trod_struct2 Tryd.underlying96 hE
  rw [c22] at h0 h1
  obtain ⟨z0, f0, g0, _⟩ := DataW.trod_int Tryd.underlying22 h0
  obtain ⟨z1, f1, g1, _⟩ := DataW.trod_int Tryd.underlying22 h1
  have hlen : Pinned.pow10Rows.length = 696 := by kernel_rfl
  have e3 : (xs.map (·.1)) = Pinned.pow10Rows.map fun x => .agg [.lit (.int .u64 x.1), .lit (.int .u64 x.2)] := (DataW.agg.inj (Prod.mk.inj ex).1).symm
  have e4 : (xs.map (·.1))[r]? = (Pinned.pow10Rows.map fun x => (DataW.agg [.lit (.int .u64 x.1), .lit (.int .u64 x.2)] : DataW Unit))[r]? := by rw [e3]
  rw [List.getElem?_map, List.getElem?_map, List.getElem?_eq_getElem (by omega : r < xs.length), List.getElem?_eq_getElem (by omega : r < Pinned.pow10Rows.length), e1, g0, g1] at e4
  simp only [Option.map_some, Option.some.injEq, DataW.agg.injEq, List.cons.injEq, DataW.lit.injEq, Lit.int.injEq, true_and, and_true] at e4
  have hz0 : z0 = ph r := by
    rw [e4.1, ph, List.getD, List.getElem?_eq_getElem (by omega : r < Pinned.pow10Rows.length)]; rfl
  have hz1 : z1 = pl r := by
    rw [e4.2, pl, List.getD, List.getElem?_eq_getElem (by omega : r < Pinned.pow10Rows.length)]; rfl
  rw [World.var?_cell hg hv, World.var?_cell hg hv, ← hz0, ← hz1]
  constructor
  · have h2 := congrArg (·[0]?) f0
    simpa [List.getElem?_take, List.getElem?_drop] using h2
  · have h2 := congrArg (·[0]?) f1
    simpa [List.getElem?_take, List.getElem?_drop] using h2
theorem size_of_laid {W : World} {rest : List (String × DataW Unit)} (h : laidMet Tryd.prog (("math/bits.deBruijn64tab", Rows.laid_math_bits_deBruijn64tab) :: rest) W) : 8 ≤ W.heap.size := by
  obtain ⟨ps, ⟨g, t, cs, fuel, p, q, hg, ht, hv, hd, _, _⟩, _, _⟩ := h
  obtain rfl := Option.some.inj ((show Tryd.prog.globalNamed "math/bits.deBruijn64tab" = some 7 by kernel_rfl).symm.trans hg)
  rcases Nat.lt_or_ge 7 W.heap.size with h' | h'
  · exact h'
  · unfold World.var? at hv
    rw [hg] at hv
    simp [Array.getElem?_eq_none h'] at hv
theorem tabs_of_laid {W : World} (h : laidMetH Tryd.prog Rows.fnFloatTextIsRow.laid W) : Tabs W := by
  rw [MakeChecks.laidMetH_plain _ _ _ (by kernel_rfl)] at h
  have h1 : laidMet Tryd.prog (("math/bits.deBruijn64tab", Rows.laid_math_bits_deBruijn64tab) :: _) W := h.tail
  have h3 : laidMet Tryd.prog (("internal/strconv.uint64pow10", Lib.tabData .u64 Lib.pow10Tab) :: _) W := h1.tail.tail
  have h5 : laidMet Tryd.prog (("internal/strconv.pow10Tab", Rows.laid_internal_strconv_pow10Tab) :: _) W := h3.tail.tail
  exact ⟨pow_of_laid h5 (size_of_laid h1), Lib.tabIs_of_head (g := 2) (t := 87) (e := 22) (n := 20) (by kernel_rfl) (by kernel_rfl) Tryd.underlying87 Tryd.underlying22 (by kernel_rfl) (by kernel_rfl) h3⟩

set_option maxRecDepth 100000 in
theorem lifted (os : Os) (started : os.Started) (H : Type) (enc : TypeId × Value → H) :
    ReturnsInHanded {} Tryd.checked os 3 .any (fun w args => (Rows.fnFloatTextIsSpec.pre enc Tryd.prog Tryd.f3 Rows.fnFloatTextIsRow.domain false w args ∧ laidMetH Tryd.prog Rows.fnFloatTextIsRow.laid w) ∧ sizedMet enc Tryd.prog Tryd.f3 (OpenSpec.ofChange Rows.fnFloatTextIsSpec) false w args)
      (Rows.fnFloatTextIsSpec.post enc Tryd.prog Tryd.f3 false true false false) := by
  refine returnsInHanded_of_change_and (C := Tryd.checked) (X := fun w _ => laidMetH Tryd.prog Rows.fnFloatTextIsRow.laid w) (fun _ _ _ hh h => h.of_heap hh) own started (by kernel_rfl) Tryd.func3
    (ChangeSpec.witness_shaped (enc := enc) (C := Tryd.checked) (os := os) (X := fun w _ => laidMetH Tryd.prog Rows.fnFloatTextIsRow.laid w) false (World.laidAll Tryd.prog os Rows.fnFloatTextIsRow.laid) #[.int .u64 0] 8 (World.laidAll_os _ _ _)
      (World.shaped_of_ZipB (by kernel_rfl) (by kernel_rfl)) (by kernel_rfl) (by kernel_rfl) (by kernel_rfl)
      (by rw [MakeChecks.laidMetH_plain _ _ _ (by kernel_rfl)]; exact laidMet_laidAll _ (by kernel_rfl) (by kernel_rfl))) ?_
  intro W base args ds gs before hval0 hW hc _ hL _
  have hval : ∀ (j : Nat) t v, Tryd.f3.params[j]? = some t → args[j]? = some v → Value.okWide Tryd.prog W .any base t v := hval0
  have hW' := hW
  obtain ⟨p, q, hA0, hV, rfl, _, _⟩ := hW
  have hA : DataW.TrodAll enc Tryd.prog W 0 (fun _ => true) true Tryd.f3.params.toList args.toList ds p := hA0
  rw [Tryd.params3] at hA hval
  obtain ⟨v0, d0, rfl, rfl, h0⟩ := trodAll_one hA
  obtain ⟨rfl, rfl⟩ := trodVars_none hV
  obtain ⟨x, rfl, rfl, rfl, wx⟩ := open_int Tryd.underlying22 (hval 0 22 v0 rfl rfl) h0
  have hx : 0 ≤ x ∧ x < 18446744073709551616 := by
    have := bounds_u64 wx
    omega
  obtain ⟨r, rfl⟩ : ∃ r : Nat, x = r := ⟨x.toNat, by omega⟩
  simp only [List.append_nil] at hW'
  refine (law_c r (by omega) W (tabs_of_laid hL)).mono fun e W' ⟨he, hb⟩ => ?_
  subst he
  exact ⟨_, rfl, _, _, _, [], [], [], hW', trodAll_mk1 (shut_bool Tryd.underlying4 _), trodAll_mk1 (shut_int Tryd.underlying22 wx), rfl, hb.frame _, fun h => (by cases h)⟩

theorem holds : Rows.FnFloatTextIsSaid :=
  OpenClaim.holds_of_wide 3 Tryd.f3 rfl rfl rfl rfl rfl rfl rfl ⟨rfl, rfl, rfl, rfl, rfl⟩ rfl rfl rfl rfl rfl (by kernel_rfl) Tryd.func3 (by kernel_rfl)
    (of_decide_eq_true (by kernel_rfl)) (by unfold Func.isWrapper; first | (rw [if_pos (by decide +kernel)]; kernel_rfl) | (rw [if_neg (by decide +kernel)]; exact ⟨rfl, rfl⟩))
    (fun os started H enc _ => lifted os started H enc)
theorem card_holds : Rows.FnFloatTextIsCardSaid :=
  Claim7.holds_tied_plain_at .later [] [.data, .data, .data, .data, .pinned, .pinned] true (true, "672d5d5e58fc5b84bc4d006f1a0dfd54c448a24bf59d9700c186ed8358006785") false holds (fun _ h => by cases h) (by kernel_rfl) (fun _ h => by cases h) fnFloatTextIs_row_tie rfl ⟨rfl, rfl⟩ (by kernel_rfl) rfl
    (fun f fn hf hfn => by
      obtain rfl : f = 3 := Option.some.inj ((show Tryd.prog.funcNamed "given.example/pub-larkspur/laws.FnFloatTextIs" = some 3 by kernel_rfl).symm.trans hf) |>.symm
      obtain rfl : fn = Tryd.f3 := (Option.some.inj (Tryd.func3.symm.trans hfn)).symm
      exact ⟨by kernel_rfl, fun j t ht => by
        rw [Tryd.params3] at ht
        have hm : t ∈ [22] := by simpa using Array.mem_of_getElem? ht
        have hall : ([22].all fun u => !Tryd.prog.wantsStandIn u) = true := by kernel_rfl
        exact (show Tryd.prog.wantsStandIn t = false by simpa using List.all_eq_true.1 hall t hm)⟩)
    (by kernel_rfl)
#print axioms card_holds
end Go.Proofs.YtniiphdbajjldaaDoor
