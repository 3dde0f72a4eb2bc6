/-
  Proved: for every input the law FnMathWhole returns true (the statement FnMathWholeCardSaid), under the row's own condition alone: the listed package variables read as the program's text lays them.
-/
import Derived.Test.YtldejfallphhbaaGreatDoorZr
import Derived.Test.YtldejfallphhbaaGreatDoorTie
import Derived.Test.YtldejfallphhbaaGreatDoorCards
import Derived.ProofKit
import Derived.OpenShut
import Derived.OpenVars
import Derived.LaidMore
import Derived.Lay
import Derived.SevenTiedAt
import Derived.Stop.Joined
import Derived.Stop.LaidErr
import Derived.ChangeSame
namespace Go.Proofs.YtldejfallphhbaaGreatDoor
open Go Go.ChangeShapes Go.WideShapes Go.ChangeAt Go.RowKit Go.Proofs.YtldejfallphhbaaGreatDoorW.PrintWords
theorem own : ownKnob Tryz.prog.godebug = none := by kernel_rfl
theorem laidOut : laidOutB Tryz.prog = true := by kernel_rfl
theorem rd_c {W : World} {a : Addr} {len cap : Nat} {zs : List Int} (hle : len ≤ cap) (hmax : cap ≤ maxLen) (hall : zs.length = cap) (hcell : ∀ i, i < zs.length → W.cell? (a.add i) = some (.int .u8 (zs.getD i 0))) : Kd.C (Kd.int .u8) W (some a) (zs.take len).length (zs.take len) := by
  have hl : (zs.take len).length = len := by rw [List.length_take]; omega
  refine ⟨rfl, by rw [hl]; unfold maxLen at hmax; omega, fun _ => ⟨a, rfl, fun j p hj => ⟨[.int .u8 p], rfl, rfl, fun i u hu => ?_⟩⟩⟩
  have hjl : j < (zs.take len).length := by
    rcases Nat.lt_or_ge j (zs.take len).length with h | h
    · exact h
    · rw [List.getElem?_eq_none h] at hj; cases hj
  obtain rfl : i = 0 := by
    rcases Nat.eq_zero_or_pos i with h | h
    · exact h
    · rw [List.getElem?_eq_none (by simp; omega)] at hu; cases hu
  have hu' : Value.int .u8 p = u := by simpa using hu
  rw [show j * (Kd.int .u8).sz + 0 = j from by show j * 1 + 0 = j; omega, hcell j (by omega), ← hu']
  rw [List.getElem?_take] at hj
  rw [if_pos (by omega)] at hj
  rw [List.getD, hj]
  rfl
theorem rd_nil {W : World} (A : Option Addr) : Kd.C (Kd.int .u8) W A ([] : List Int).length [] := ⟨rfl, by simp, fun h => absurd h (by simp)⟩
theorem rd_byt {zs : List Int} (h : ∀ n ∈ zs, (Lit.int .u8 n).wf = true) (len : Nat) : Ref.Byt (zs.take len) := fun x hx => by
  have := h x (List.mem_of_mem_take hx)
  have h2 := bounds_u8 this
  omega
theorem vars4 {H : Type} {enc : TypeId × Value → H} {P : Program} {w : World} {sp : Nat → Bool} {n1 n2 n3 n4 : String} {gs : List (DataW H)} {ps : List MemPlace} (h : DataW.TrodVars enc P w sp [n1, n2, n3, n4] gs ps) : ∃ g1 g2 g3 g4, gs = [g1, g2, g3, g4] := by
  rcases gs with _ | ⟨g1, gs⟩
  · exact h.elim
  obtain ⟨_, _, _, _, _, _, _, _, _, _, h, _⟩ := h
  rcases gs with _ | ⟨g2, gs⟩
  · exact h.elim
  obtain ⟨_, _, _, _, _, _, _, _, _, _, h, _⟩ := h
  rcases gs with _ | ⟨g3, gs⟩
  · exact h.elim
  obtain ⟨_, _, _, _, _, _, _, _, _, _, h, _⟩ := h
  rcases gs with _ | ⟨g4, gs⟩
  · exact h.elim
  obtain ⟨_, _, _, _, _, _, _, _, _, _, h, _⟩ := h
  rcases gs with _ | ⟨g5, gs⟩
  · exact ⟨_, _, _, _, rfl⟩
  · exact h.elim
set_option maxRecDepth 100000 in
theorem lifted (os : Os) (started : os.Started) (H : Type) (enc : TypeId × Value → H) :
    ReturnsInHanded {} Tryz.checked os 3 .any (fun w args => (Rows.fnMathWholeSpec.pre enc Tryz.prog Tryz.f3 Rows.fnMathWholeRow.domain false w args ∧ laidMetH Tryz.prog Rows.fnMathWholeRow.laid w) ∧ sizedMet enc Tryz.prog Tryz.f3 (OpenSpec.ofChange Rows.fnMathWholeSpec) false w args)
      (Rows.fnMathWholeSpec.post enc Tryz.prog Tryz.f3 false true false false) := by
  refine returnsInHanded_of_change_and (C := Tryz.checked) (X := fun w _ => laidMetH Tryz.prog Rows.fnMathWholeRow.laid w) (fun _ _ _ hh h => h.of_heap hh) own started (by kernel_rfl) Tryz.func3
    (ChangeSpec.witness_shaped (enc := enc) (C := Tryz.checked) (os := os) (X := fun w _ => laidMetH Tryz.prog Rows.fnMathWholeRow.laid w) false (World.laidAll Tryz.prog os Rows.fnMathWholeRow.laid) #[.int .u64 0, .bool false, .slice none 0 0] 8 (World.laidAll_os _ _ _)
      (World.shaped_of_ZipB (by kernel_rfl) (by kernel_rfl)) (by kernel_rfl) (by kernel_rfl) (by kernel_rfl)
      (by rw [MakeChecks.laidMetH_plain _ _ _ (by kernel_rfl)]; exact laidMet_laidAll _ (by kernel_rfl) (by kernel_rfl))) ?_
  intro W base args ds gs before hval0 hW hc _ hL _
  have hval : ∀ (j : Nat) t v, Tryz.f3.params[j]? = some t → args[j]? = some v → Value.okWide Tryz.prog W .any base t v := hval0
  have hW' := hW
  have hlt := hW.lt
  obtain ⟨p, q, hA0, hV, rfl, _, _⟩ := hW
  have hA : DataW.TrodAll enc Tryz.prog W 0 (fun _ => true) true Tryz.f3.params.toList args.toList ds p := hA0
  rw [Tryz.params3] at hA hval
  obtain ⟨v0, v1, v2, d0, d1, d2, p0, p1, p2, rfl, rfl, rfl, h0, h1, h2⟩ := trodAll_three hA
  obtain ⟨x, rfl, rfl, rfl, wx⟩ := open_int Tryz.underlying22 (hval 0 22 v0 rfl rfl) h0
  have hx : 0 ≤ x ∧ x < 18446744073709551616 := by
    have := bounds_u64 wx
    omega
  obtain ⟨r, rfl⟩ : ∃ r : Nat, x = r := ⟨x.toNat, by omega⟩
  obtain ⟨an, rfl, rfl, rfl⟩ := open_bool Tryz.underlying4 (hval 1 4 v1 rfl rfl) h1
  obtain ⟨A, len, cap, rfl⟩ := okWide_slice Tryz.underlying23 (hval 2 23 _ rfl rfl)
  have key : ∃ l : List Int, l.length = len ∧ len ≤ cap ∧ Ref.Byt l ∧ Kd.C (Kd.int .u8) W A l.length l := by
    obtain ⟨fuel, hf⟩ := h2
    have c5 : Tryz.prog.cellsOf 5 = 1 := by kernel_rfl
    rcases open_ints Tryz.underlying23 Tryz.underlying5 c5 hf with ⟨hcs, hx⟩ | ⟨a, len', cap', zs, hcs, _, hle, hmax, hall, hx, hcell, hwf⟩
    · simp [Value.cells] at hcs
      obtain ⟨rfl, rfl, rfl⟩ := hcs
      exact ⟨[], rfl, Nat.le_refl _, fun x hx => (by cases hx), rd_nil _⟩
    · simp [Value.cells] at hcs
      obtain ⟨rfl, rfl, rfl⟩ := hcs
      have hall' : zs.length = cap := by simpa using hall
      exact ⟨zs.take len, by rw [List.length_take]; omega, hle, rd_byt hwf len, rd_c hle hmax hall' hcell⟩
  obtain ⟨l, rfl, hlc, hb, hC⟩ := key
  refine (law_c r (by omega) an A cap l W ⟨hC, hlc⟩ hb).mono fun e W' ⟨he, hF⟩ => ?_
  subst he
  have hB := below_of_fr hF.out
  have hva : DataW.TrodVars enc Tryz.prog W' (fun b => decide (b < W.heap.size)) Rows.fnMathWholeSpec.vars gs q := Below.trodVars laidOut hB (by kernel_rfl) hV
  have hvb := Below.trod laidOut (by kernel_rfl) (of_decide_eq_true (by kernel_rfl)) h2 hB (fun x hx => hlt x (by simp [hx]))
  obtain ⟨g1, g2, g3, g4, rfl⟩ := vars4 hV
  exact ⟨_, rfl, _, _, _, [], _, _, hW', trodAll_mk1 (shut_bool Tryz.underlying4 _), trodAll_mk3 (shut_int Tryz.underlying22 wx) (shut_bool Tryz.underlying4 _) hvb, hva, hB.frame _, fun h => (by cases h)⟩
theorem holds : Rows.FnMathWholeSaid :=
  OpenClaim.holds_of_wide 3 Tryz.f3 rfl rfl rfl rfl rfl rfl rfl ⟨rfl, rfl, rfl, rfl, rfl⟩ rfl rfl rfl rfl rfl (by kernel_rfl) Tryz.func3 (by kernel_rfl)
    (of_decide_eq_true (by kernel_rfl)) (by unfold Func.isWrapper; first | (rw [if_pos (by decide +kernel)]; kernel_rfl) | (rw [if_neg (by decide +kernel)]; exact ⟨rfl, rfl⟩))
    (fun os started H enc _ => lifted os started H enc)
theorem card_holds : Rows.FnMathWholeCardSaid :=
  Claim7.holds_tied_plain_at .later [] [.data, .data, .data, .data] true (true, "932a198e0227ae210e137411ac42dd2f0d9233e78dc4372d2adf732e7ef60a97") true holds (fun _ h => by cases h) (by kernel_rfl) (fun _ h => by cases h) fnMathWhole_row_tie rfl ⟨rfl, rfl⟩ (by kernel_rfl) rfl
    (fun f fn hf hfn => by
      obtain rfl : f = 3 := Option.some.inj ((show Tryz.prog.funcNamed "given.example/pub-larkspur/laws.FnMathWhole" = some 3 by kernel_rfl).symm.trans hf) |>.symm
      obtain rfl : fn = Tryz.f3 := (Option.some.inj (Tryz.func3.symm.trans hfn)).symm
      exact ⟨by kernel_rfl, fun j t ht => by
        rw [Tryz.params3] at ht
        have hm : t ∈ [22, 4, 23] := by simpa using Array.mem_of_getElem? ht
        have hall : ([22, 4, 23].all fun u => !Tryz.prog.wantsStandIn u) = true := by kernel_rfl
        exact (show Tryz.prog.wantsStandIn t = false by simpa using List.all_eq_true.1 hall t hm)⟩)
    (by kernel_rfl)
#print axioms card_holds
end Go.Proofs.YtldejfallphhbaaGreatDoor
