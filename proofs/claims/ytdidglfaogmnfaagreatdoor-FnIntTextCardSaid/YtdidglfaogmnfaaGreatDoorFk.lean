/-
  A part of the proof of FnIntText: starlark's Int.String.
-/
import Derived.Test.YtdidglfaogmnfaaGreatDoorFj
import Derived.Lib.QuietBelow
import Derived.Lib.AppendIntMem
namespace Go.Proofs.YtdidglfaogmnfaaGreatDoor
set_option linter.unusedVariables false
open Go.RowKit Go.Proofs.YtdidglfaogmnfaaGreatDoorW.PrintWords

theorem fr_of_below {w w' : World} (h : Below w.heap.size w w') : Fr w w' No :=
  ⟨h.os, h.tape, h.output, h.size, fun k j hk _ => World.cell?_of_block (w := w) (h.block k hk), fun k arr T hk => ⟨arr, (h.block k (Array.getElem?_eq_some_iff.1 hk).1).trans hk, rfl⟩, fun k hk _ => h.block k hk⟩
theorem below_of_fr {w w' : World} (h : Fr w w' No) : Below w.heap.size w w' := ⟨h.os, h.tape, h.output, h.size, fun k hk => h.block k hk (fun _ c => c)⟩
def IT (neg : Bool) (V : Nat) : ByteArray := if V = 0 then strOfNums [48] else ITX neg V
theorem dec_dle : ∀ X : Nat, 1 ≤ X → Lib.decDigits X = (Ref.dle X).reverse.map (fun i => UInt8.ofNat i.toNat) := by
  intro X
  induction X using Nat.strongRecOn with
  | _ X ih =>
    intro hX
    have e : Ref.dle X = ((48 + X % 10 : Nat) : Int) :: Ref.dle (X / 10) := by rw [Ref.dle, dif_neg (by omega)]
    rw [e, List.reverse_cons, List.map_append]
    by_cases h : X < 10
    · rw [Lib.decDigits_one h]
      have e0 : Ref.dle (X / 10) = [] := by rw [Ref.dle, dif_pos (by omega)]
      rw [e0, Nat.mod_eq_of_lt h]
      rfl
    · rw [Lib.decDigits, dif_neg h, ih (X / 10) (by omega) (by omega)]
      rfl
theorem itoa_it (neg : Bool) (X : Nat) : (⟨(Lib.itoa (if neg then -(X : Int) else (X : Int))).toArray⟩ : ByteArray) = IT neg X := by
  unfold IT
  by_cases h0 : X = 0
  · subst h0
    rw [if_pos rfl]
    cases neg <;> decide +kernel
  · rw [if_neg h0]
    unfold ITX strOfNums
    cases neg
    · rw [if_neg (by decide), Lib.itoa_nonneg, dec_dle X (by omega)]
      rfl
    · rw [if_pos rfl, Lib.itoa_neg X (by omega), dec_dle X (by omega)]
      rfl
theorem sml_bound (neg : Bool) (X : Nat) (h : sml neg X = true) : -9223372036854775808 ≤ (if neg then -(X : Int) else (X : Int)) ∧ (if neg then -(X : Int) else (X : Int)) ≤ 9223372036854775807 := by
  have := sml_le h
  split <;> omega
/-- the tables and thresholds -/
structure Tb (w : World) : Prop where
  g : Gl w
  t : Lib.TabIs Tryz.prog w "internal/strconv.uint64pow10" .u64 Lib.pow10Tab
  s : 8 ≤ w.heap.size
theorem glob_pow : Tryz.prog.globalNamed "internal/strconv.uint64pow10" = some 2 := by kernel_rfl
theorem Tb.fr {w w' : World} (h : Tb w) (hf : Fr w w' No) : Tb w' :=
  ⟨h.g.fr hf (fun _ _ c => c), (Lib.tabBelow_of_tabIs h.t) _ (below_of_fr hf), Nat.le_trans h.s hf.size⟩
theorem fmt_c (neg : Bool) (X : Nat) (w : World) (h : sml neg X = true) (hT : Tb w) :
    Calls Tryz.prog 18 #[.int .i64 (if neg then -(X : Int) else (X : Int)), .int .i64 10] w fun e w' => e = .returned (.string (IT neg X)) ∧ Fr w w' No := by
  refine (Tryz.strconv_FormatInt_10 _ (sml_bound neg X h).1 (sml_bound neg X h).2 w hT.t).mono ?_
  rintro e w' ⟨rfl, k, os, rfl⟩
  exact ⟨by rw [itoa_it], fr_of_below (Lib.below_grow _ _ (Nat.le_refl _) _ _)⟩
set_option maxRecDepth 100000 in
theorem get_c (x : Int) (y : Option Addr) (w : World) :
    Calls Tryz.prog 16 #[.agg #[.int .i64 x, .pointer y]] w fun e w' => e = .returned (.tuple #[.int .i64 x, .pointer y]) ∧ Fr w w' No := by
  have KF := Lib.hid (fun q => (new40 w #[.int .i64 x, .pointer y] 40).drewN q)
  go_enter Tryz.func16, Tryz.ntmps16
  go_wp2_with fail
  go_quiet (fail)
  go_wp2_with fail
  go_returns
  exact ⟨rfl, KF.out _⟩
theorem big_text {w : World} {p V : Nat} {ng : Bool} {v : Value} (hT : Tb w) (hb : Bi w p ng v) (ha : Abs w v V) (h0 : 1 ≤ V) :
    Calls Tryz.prog 17 #[.pointer (some ⟨p, 0, none⟩), .int .i64 10] w fun e w' => e = .returned (.string (IT ng V)) ∧ Fr w w' No := by
  have e : IT ng V = ITX ng V := by unfold IT; rw [if_neg (by omega)]
  rw [e]
  exact Text_c p V ng v w hb ha h0 hT.g
set_option maxRecDepth 100000 in
theorem String_c (x : Int) (y : Option Addr) (ng : Bool) (V : Nat) (w : World) (h : IntV w (.agg #[.int .i64 x, .pointer y]) ng V) (hT : Tb w) :
    Calls Tryz.prog 10 #[.agg #[.int .i64 x, .pointer y]] w fun e w' => e = .returned (.string (IT ng V)) ∧ Fr w w' No := by
  have KG := Lib.hid (get_c x y (w.alloc (.cells #[.int .i64 x, .pointer y] 40)))
  have KF := Lib.hid (new40 w #[.int .i64 x, .pointer y] 40)
  rcases h with ⟨hs, he⟩ | ⟨hs, p, v, he, hb, ha⟩
  · obtain ⟨rfl, rfl⟩ : x = (if ng then -(V : Int) else (V : Int)) ∧ y = none := by
      unfold smallV at he
      simpa using he
    have KM := Lib.hid (fun w2 (hf : Fr w w2 No) => fmt_c ng V w2 hs (hT.fr hf))
    generalize (if ng then -(V : Int) else (V : Int)) = z at *
    generalize IT ng V = T at *
    clear hs he hT
    go_enter Tryz.func10, Tryz.ntmps10
    go_wp2_with fail
    with_reducible refine KG.out.mono ?_
    rintro e w1 ⟨rfl, hF1⟩
    have K1 := Lib.hid (KF.out.trans hF1 (fun _ _ _ c => c))
    clear hF1
    go_wp2_with fail
    with_reducible refine (KM.out _ K1.out).mono ?_
    rintro e w2 ⟨rfl, hF2⟩
    have K2 := Lib.hid (K1.out.trans hF2 (fun _ _ _ c => c))
    clear hF2
    go_wp2_with fail
    go_returns
    exact ⟨rfl, K2.out⟩
  · obtain ⟨rfl, rfl⟩ : x = 0 ∧ y = some ⟨p, 0, none⟩ := by
      unfold bigV at he
      simpa using he
    have KM := Lib.hid (fun w2 (hf : Fr w w2 No) => big_text (hT.fr hf) (hb.fr hf (fun _ c => c)) (ha.no hf) (sml_ge hs))
    generalize IT ng V = T at *
    clear hs he hT hb ha
    go_enter Tryz.func10, Tryz.ntmps10
    go_wp2_with fail
    with_reducible refine KG.out.mono ?_
    rintro e w1 ⟨rfl, hF1⟩
    have K1 := Lib.hid (KF.out.trans hF1 (fun _ _ _ c => c))
    clear hF1
    go_wp2_with fail
    with_reducible refine (KM.out _ K1.out).mono ?_
    rintro e w2 ⟨rfl, hF2⟩
    have K2 := Lib.hid (K1.out.trans hF2 (fun _ _ _ c => c))
    clear hF2
    go_wp2_with fail
    go_returns
    exact ⟨rfl, K2.out⟩
set_option maxRecDepth 100000 in
theorem IntText_c (neg : Bool) (v u : Value) (l : List Int) (w : World) (hl : l.length ≤ 150) (hv : Dl w v l) (V : Nat) (hc : Ref.Can l V) (hT : Tb w) :
    Calls Tryz.prog 5 #[.agg #[.int .i64 2, .bool neg, v, .int .u64 0, .string ⟨#[]⟩, u]] w fun e w' => e = .returned (.string (IT (neg && decide (1 ≤ V)) V)) ∧ Fr w w' No := by
  have KF := Lib.hid (new40 w #[.int .i64 2, .bool neg, v, .int .u64 0, .string ⟨#[]⟩, u] 28)
  have KW := Lib.hid (whole9_c neg v u l (w.alloc (.cells #[.int .i64 2, .bool neg, v, .int .u64 0, .string ⟨#[]⟩, u] 28)) hl (hv.no KF.out) V hc)
  have KS : Hid (∀ x y w2, Fr w w2 No → IntV w2 (.agg #[.int .i64 x, .pointer y]) (neg && decide (1 ≤ V)) V → Calls Tryz.prog 10 #[.agg #[.int .i64 x, .pointer y]] w2 fun e w' => e = .returned (.string (IT (neg && decide (1 ≤ V)) V)) ∧ Fr w2 w' No) := Lib.hid (fun x y w2 hf hi => String_c x y _ V w2 hi (hT.fr hf))
  generalize IT (neg && decide (1 ≤ V)) V = T at *
  clear hl hv hc hT
  go_enter Tryz.func5, Tryz.ntmps5
  go_wp2_with fail
  with_reducible refine KW.out.mono ?_
  rintro e w1 ⟨x, y, rfl, hI, hF1⟩
  have K1 := Lib.hid (KF.out.trans hF1 (fun _ _ _ c => c))
  have KS1 := Lib.hid (KS.out x y _ K1.out hI)
  clear hF1 hI
  go_wp2_with fail
  with_reducible refine KS1.out.mono ?_
  rintro e w2 ⟨rfl, hF2⟩
  have K2 := Lib.hid (K1.out.trans hF2 (fun _ _ _ c => c))
  clear hF2
  go_wp2_with fail
  go_returns
  exact ⟨rfl, K2.out⟩
end Go.Proofs.YtdidglfaogmnfaaGreatDoor
