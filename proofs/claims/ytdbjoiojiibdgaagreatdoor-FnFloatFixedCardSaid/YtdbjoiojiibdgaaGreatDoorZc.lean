/-
  Proved: for every uint64 pattern the law FnFloatFixed returns true (the statement FnFloatFixedCardSaid), under the row's own condition alone: the listed package variables read as the program's text lays them.
-/
import Derived.Test.YtdbjoiojiibdgaaGreatDoorZb
import Derived.Test.YtdbjoiojiibdgaaGreatDoorTie
import Derived.Test.YtdbjoiojiibdgaaGreatDoorCards
import Derived.ProofKit
import Derived.OpenShut
import Derived.LaidMore
import Derived.Lay
import Derived.SevenTiedAt
import Derived.Stop.Joined
import Derived.Stop.LaidErr
import Derived.ChangeSame
namespace Go.Proofs.YtdbjoiojiibdgaaGreatDoor
open Go Go.ChangeShapes Go.WideShapes Go.ChangeAt Go.RowKit
theorem own : ownKnob Tryz.prog.godebug = none := by kernel_rfl
theorem pow_of_laid {W : World} {rest : List (String × DataW Unit)} (h : laidMet Tryz.prog (("internal/strconv.pow10Tab", Rows.laid_internal_strconv_pow10Tab) :: rest) W) (h8 : 8 ≤ W.heap.size) : PowTab W := by
  refine ⟨h8, fun r hr => ?_⟩
  obtain ⟨ps, ⟨g, t, cs, fuel, p, q, hg, ht, hv, hd, _, _⟩, _, _⟩ := h
  obtain rfl := Option.some.inj ((show Tryz.prog.globalNamed "internal/strconv.pow10Tab" = some 4 by kernel_rfl).symm.trans hg)
  obtain rfl := Option.some.inj ((show (Tryz.prog.globals[4]?).map (·.type) = some 121 by kernel_rfl).symm.trans ht)
  obtain ⟨xs, m, _, ex, _, hl, hel⟩ := DataW.trod_array Tryz.underlying121 hd
  have c96 : Tryz.prog.cellsOf 120 = 2 := by kernel_rfl
  have c22 : Tryz.prog.cellsOf 22 = 1 := by kernel_rfl
  have hE := hel r hr
  rw [c96, List.getElem?_eq_getElem (by omega)] at hE
  obtain ⟨y0, y1, n, e1, _, h0, h1⟩ := trod_struct2 Tryz.underlying120 hE
  rw [c22] at h0 h1
  obtain ⟨z0, f0, g0, _⟩ := DataW.trod_int Tryz.underlying22 h0
  obtain ⟨z1, f1, g1, _⟩ := DataW.trod_int Tryz.underlying22 h1
  have hlen : Pinned.pow10Rows.length = 696 := by kernel_rfl
  have e3 : (xs.map (·.1)) = Pinned.pow10Rows.map fun x => .agg [.lit (.int .u64 x.1), .lit (.int .u64 x.2)] := (DataW.agg.inj (Prod.mk.inj ex).1).symm
  have e4 : (xs.map (·.1))[r]? = (Pinned.pow10Rows.map fun x => (DataW.agg [.lit (.int .u64 x.1), .lit (.int .u64 x.2)] : DataW Unit))[r]? := by rw [e3]
  rw [List.getElem?_map, List.getElem?_map, List.getElem?_eq_getElem (by omega : r < xs.length), List.getElem?_eq_getElem (by omega : r < Pinned.pow10Rows.length), e1, g0, g1] at e4
  simp only [Option.map_some, Option.some.injEq, DataW.agg.injEq, List.cons.injEq, DataW.lit.injEq, Lit.int.injEq, true_and, and_true] at e4
  have hz0 : z0 = ph r := by
    rw [e4.1, ph, List.getD, List.getElem?_eq_getElem (by omega : r < Pinned.pow10Rows.length)]; rfl
  have hz1 : z1 = pl r := by
    rw [e4.2, pl, List.getD, List.getElem?_eq_getElem (by omega : r < Pinned.pow10Rows.length)]; rfl
  rw [World.var?_cell hg hv, World.var?_cell hg hv, ← hz0, ← hz1]
  constructor
  · have h2 := congrArg (·[0]?) f0
    simpa [List.getElem?_take, List.getElem?_drop] using h2
  · have h2 := congrArg (·[0]?) f1
    simpa [List.getElem?_take, List.getElem?_drop] using h2
theorem size_of_laid {W : World} {rest : List (String × DataW Unit)} (h : laidMet Tryz.prog (("math/bits.deBruijn64tab", Rows.laid_math_bits_deBruijn64tab) :: rest) W) : 8 ≤ W.heap.size := by
  obtain ⟨ps, ⟨g, t, cs, fuel, p, q, hg, ht, hv, hd, _, _⟩, _, _⟩ := h
  obtain rfl := Option.some.inj ((show Tryz.prog.globalNamed "math/bits.deBruijn64tab" = some 7 by kernel_rfl).symm.trans hg)
  rcases Nat.lt_or_ge 7 W.heap.size with h' | h'
  · exact h'
  · unfold World.var? at hv
    rw [hg] at hv
    simp [Array.getElem?_eq_none h'] at hv
theorem opt_of_laid {W : World} {rest : List (String × DataW Unit)} (h : laidMet Tryz.prog (("internal/strconv.optimize", Rows.laid_internal_strconv_optimize) :: rest) W) : W.cell? ⟨1, 0, none⟩ = some (.bool true) := by
  obtain ⟨ps, ⟨g, t, cs, fuel, p, q, hg, ht, hv, hd, _, _⟩, _, _⟩ := h
  obtain rfl := Option.some.inj ((show Tryz.prog.globalNamed "internal/strconv.optimize" = some 1 by kernel_rfl).symm.trans hg)
  obtain rfl := Option.some.inj ((show (Tryz.prog.globals[1]?).map (·.type) = some 4 by kernel_rfl).symm.trans ht)
  obtain ⟨b, hcs, hx⟩ := DataW.trod_bool Tryz.underlying4 hd
  have hb : b = true := by
    have := congrArg Prod.fst hx
    have h2 : (DataW.lit (.bool true) : DataW Unit) = .lit (.bool b) := this
    injection h2 with h3
    injection h3 with h4
    exact h4.symm
  subst hb
  rw [World.var?_cell hg hv, ← Array.getElem?_toList, hcs]
  rfl
theorem two_cells {W : World} {b o : Nat} {vs : List Value} (h : (List.range 2).mapM (fun i => W.cell? ((⟨b, o, none⟩ : Addr).add i)) = some vs) : ∃ v0 v1, vs = [v0, v1] ∧ W.cell? ⟨b, o, none⟩ = some v0 ∧ W.cell? ⟨b, o + 1, none⟩ = some v1 := by
  rw [show List.range 2 = [0, 1] from rfl] at h
  simp only [List.mapM_cons, List.mapM_nil, Option.bind_eq_bind, Option.bind_eq_some_iff, Option.pure_def, Option.some.injEq] at h
  obtain ⟨v0, h0, vs1, ⟨v1, h1, vs2, rfl, rfl⟩, rfl⟩ := h
  exact ⟨v0, v1, rfl, h0, h1⟩
theorem cheats_of_laid {W : World} {rest : List (String × DataW Unit)} (h : laidMet Tryz.prog (("internal/strconv.leftcheats", Rows.laid_internal_strconv_leftcheats) :: rest) W) : Cheats W := by
  obtain ⟨ps, ⟨g, t, cs, fuel, p, q, hg, ht, hv, hd, _, _⟩, _, _⟩ := h
  obtain rfl := Option.some.inj ((show Tryz.prog.globalNamed "internal/strconv.leftcheats" = some 5 by kernel_rfl).symm.trans hg)
  obtain rfl := Option.some.inj ((show (Tryz.prog.globals[5]?).map (·.type) = some 128 by kernel_rfl).symm.trans ht)
  have c127 : Tryz.prog.cellsOf 127 = 2 := by kernel_rfl
  have c3 : Tryz.prog.cellsOf 3 = 1 := by kernel_rfl
  have c9 : Tryz.prog.cellsOf 9 = 1 := by kernel_rfl
  have hrows : Pinned.cheatRows.length = 61 := by decide +kernel
  rcases DataW.trod_slice Tryz.underlying128 hd with ⟨_, hx⟩ | ⟨a, len, cap, elems, rs, n, _, hcs, hx, _, hlc, _, hel, hat, hsp, _⟩
  · have h2 := congrArg Prod.fst hx
    cases h2
  · obtain ⟨hr1, _⟩ := hsp rfl
    have h2 : Pinned.leftcheats = .slice (elems.map (·.1)) (rs.map (·.1)) := congrArg Prod.fst hx
    unfold Pinned.leftcheats at h2
    injection h2 with h3 h4
    have hrs : rs = [] := by cases rs with | nil => rfl | cons _ _ => cases h4
    have hlen : elems.length = 61 := by
      have := congrArg List.length h3
      rw [List.length_map, List.length_map, hrows] at this
      exact this.symm
    subst hrs
    have hl61 : len = 61 := by omega
    have hc61 : cap = 61 := by
      have : (0 : Nat) = cap - len := hr1
      omega
    subst hl61 hc61
    refine ⟨a, ?_, fun k hk1 hk => ?_⟩
    · rw [World.var?_cell hg hv, ← Array.getElem?_toList, hcs]
      rfl
    · have hE := hat k hk
      rw [c127, List.getElem?_eq_getElem (by omega)] at hE
      obtain ⟨vs, hvs, htr⟩ := Option.bind_eq_some_iff.1 hE
      obtain ⟨y0, y1, n', e1, _, h0, h1⟩ := trod_struct2 Tryz.underlying127 htr
      rw [c3] at h0
      rw [c9] at h1
      obtain ⟨z0, f0, g0, _⟩ := DataW.trod_int Tryz.underlying3 h0
      obtain ⟨z1, f1, g1, _⟩ := DataW.trod_string Tryz.underlying9 h1
      have e4 : (elems.map (·.1))[k]? = (Pinned.cheatRows.map fun x => (DataW.agg [.lit (.int .i64 x.1), .lit (.string x.2)] : DataW Unit))[k]? := by rw [← h3]
      rw [List.getElem?_map, List.getElem?_map, List.getElem?_eq_getElem (by omega : k < elems.length), List.getElem?_eq_getElem (by omega : k < Pinned.cheatRows.length), e1, g0, g1] at e4
      simp only [Option.map_some, Option.some.injEq, DataW.agg.injEq, List.cons.injEq, DataW.lit.injEq, Lit.int.injEq, Lit.string.injEq, true_and, and_true] at e4
      have hch : cheat k = Pinned.cheatRows[k]'(by omega) := by
        unfold cheat
        rw [List.getD, List.getElem?_eq_getElem (by omega : k < Pinned.cheatRows.length)]; rfl
      have hadd : a.add (k * 2) = ⟨a.block, a.off + k * 2, none⟩ := by unfold Addr.add; rw [if_neg (by omega)]
      unfold World.cells? at hvs
      rw [if_pos (Nat.zero_le _), hadd] at hvs
      obtain ⟨v0, v1, rfl, w0, w1⟩ := two_cells hvs
      have g0' : v0 = .int .i64 z0 := by simpa using f0
      have g1' : v1 = .string z1 := by simpa using f1
      have hz1 : z1 = ⟨(Pinned.cheatRows[k]'(by omega)).2.toArray⟩ := by
        apply ByteArray.ext
        apply Array.ext'
        exact e4.2
      rw [hch]
      exact ⟨by rw [w0, g0', e4.1], by rw [w1, g1', hz1]⟩
theorem all_of_laid {W : World} (h : laidMetH Tryz.prog Rows.fnFloatFixedRow.laid W) : All W := by
  rw [MakeChecks.laidMetH_plain _ _ _ (by kernel_rfl)] at h
  have h1 : laidMet Tryz.prog (("math/bits.deBruijn64tab", Rows.laid_math_bits_deBruijn64tab) :: _) W := h.tail
  have h2 : laidMet Tryz.prog (("internal/strconv.optimize", Rows.laid_internal_strconv_optimize) :: _) W := h1.tail
  have h3 : laidMet Tryz.prog (("internal/strconv.uint64pow10", Lib.tabData .u64 Lib.pow10Tab) :: _) W := h2.tail
  have h4 : laidMet Tryz.prog (("internal/strconv.leftcheats", Rows.laid_internal_strconv_leftcheats) :: _) W := h3.tail
  have h5 : laidMet Tryz.prog (("internal/strconv.pow10Tab", Rows.laid_internal_strconv_pow10Tab) :: _) W := h4.tail
  exact ⟨⟨pow_of_laid h5 (size_of_laid h1), Lib.tabIs_of_head (g := 3) (t := 112) (e := 22) (n := 20) (by kernel_rfl) (by kernel_rfl) Tryz.underlying112 Tryz.underlying22 (by kernel_rfl) (by kernel_rfl) h3⟩, opt_of_laid h2, cheats_of_laid h4⟩
set_option maxRecDepth 100000 in
theorem lifted (os : Os) (started : os.Started) (H : Type) (enc : TypeId × Value → H) :
    ReturnsInHanded {} Tryz.checked os 3 .any (fun w args => (Rows.fnFloatFixedSpec.pre enc Tryz.prog Tryz.f3 Rows.fnFloatFixedRow.domain false w args ∧ laidMetH Tryz.prog Rows.fnFloatFixedRow.laid w) ∧ sizedMet enc Tryz.prog Tryz.f3 (OpenSpec.ofChange Rows.fnFloatFixedSpec) false w args)
      (Rows.fnFloatFixedSpec.post enc Tryz.prog Tryz.f3 false true false false) := by
  refine returnsInHanded_of_change_and (C := Tryz.checked) (X := fun w _ => laidMetH Tryz.prog Rows.fnFloatFixedRow.laid w) (fun _ _ _ hh h => h.of_heap hh) own started (by kernel_rfl) Tryz.func3
    (ChangeSpec.witness_shaped (enc := enc) (C := Tryz.checked) (os := os) (X := fun w _ => laidMetH Tryz.prog Rows.fnFloatFixedRow.laid w) false (World.laidAll Tryz.prog os Rows.fnFloatFixedRow.laid) #[.int .u64 0] 8 (World.laidAll_os _ _ _)
      (World.shaped_of_ZipB (by kernel_rfl) (by kernel_rfl)) (by kernel_rfl) (by kernel_rfl) (by kernel_rfl)
      (by rw [MakeChecks.laidMetH_plain _ _ _ (by kernel_rfl)]; exact laidMet_laidAll _ (by kernel_rfl) (by kernel_rfl))) ?_
  intro W base args ds gs before hval0 hW hc _ hL _
  have hval : ∀ (j : Nat) t v, Tryz.f3.params[j]? = some t → args[j]? = some v → Value.okWide Tryz.prog W .any base t v := hval0
  have hW' := hW
  obtain ⟨p, q, hA0, hV, rfl, _, _⟩ := hW
  have hA : DataW.TrodAll enc Tryz.prog W 0 (fun _ => true) true Tryz.f3.params.toList args.toList ds p := hA0
  rw [Tryz.params3] at hA hval
  obtain ⟨v0, d0, rfl, rfl, h0⟩ := trodAll_one hA
  obtain ⟨rfl, rfl⟩ := trodVars_none hV
  obtain ⟨x, rfl, rfl, rfl, wx⟩ := open_int Tryz.underlying22 (hval 0 22 v0 rfl rfl) h0
  have hx : 0 ≤ x ∧ x < 18446744073709551616 := by
    have := bounds_u64 wx
    omega
  obtain ⟨r, rfl⟩ : ∃ r : Nat, x = r := ⟨x.toNat, by omega⟩
  simp only [List.append_nil] at hW'
  refine (law_c r (by omega) W (all_of_laid hL)).mono fun e W' ⟨he, hb⟩ => ?_
  subst he
  exact ⟨_, rfl, _, _, _, [], [], [], hW', trodAll_mk1 (shut_bool Tryz.underlying4 _), trodAll_mk1 (shut_int Tryz.underlying22 wx), rfl, hb.frame _, fun h => (by cases h)⟩
theorem holds : Rows.FnFloatFixedSaid :=
  OpenClaim.holds_of_wide 3 Tryz.f3 rfl rfl rfl rfl rfl rfl rfl ⟨rfl, rfl, rfl, rfl, rfl⟩ rfl rfl rfl rfl rfl (by kernel_rfl) Tryz.func3 (by kernel_rfl)
    (of_decide_eq_true (by kernel_rfl)) (by unfold Func.isWrapper; first | (rw [if_pos (by decide +kernel)]; kernel_rfl) | (rw [if_neg (by decide +kernel)]; exact ⟨rfl, rfl⟩))
    (fun os started H enc _ => lifted os started H enc)
theorem card_holds : Rows.FnFloatFixedCardSaid :=
  Claim7.holds_tied_plain_at .later [] [.data, .data, .data, .data, .pinned, .pinned] true (true, "2e29e3e3439aa10c8e021797e8366b1659e3c8086248770efc3f771c1a1acd9b") false holds (fun _ h => by cases h) (by kernel_rfl) (fun _ h => by cases h) fnFloatFixed_row_tie rfl ⟨rfl, rfl⟩ (by kernel_rfl) rfl
    (fun f fn hf hfn => by
      obtain rfl : f = 3 := Option.some.inj ((show Tryz.prog.funcNamed "given.example/pub-larkspur/laws.FnFloatFixed" = some 3 by kernel_rfl).symm.trans hf) |>.symm
      obtain rfl : fn = Tryz.f3 := (Option.some.inj (Tryz.func3.symm.trans hfn)).symm
      exact ⟨by kernel_rfl, fun j t ht => by
        rw [Tryz.params3] at ht
        have hm : t ∈ [22] := by simpa using Array.mem_of_getElem? ht
        have hall : ([22].all fun u => !Tryz.prog.wantsStandIn u) = true := by kernel_rfl
        exact (show Tryz.prog.wantsStandIn t = false by simpa using List.all_eq_true.1 hall t hm)⟩)
    (by kernel_rfl)
#print axioms card_holds
end Go.Proofs.YtdbjoiojiibdgaaGreatDoor
