/-
  A part of the proof of FnFloatTextIs: spec.place: the first place of a byte.
-/
import Derived.Test.YtniiphdbajjldaaDoorJ
import Derived.Test.YtniiphdbajjldaaDoorI
import Derived.WalkSpells
import Derived.Lib.Hide
import Derived.Lib.IndexLaws
namespace Go.Proofs.YtniiphdbajjldaaDoor
open Go.RowKit

theorem ib_at (l : List UInt8) (c : UInt8) (k : Nat) (h : l[k]? = some c) (hk : ∀ j, j < k → l[j]? ≠ some c) : Lib.indexByte l c = k := by
  have h1 := Lib.indexByte_ge l c
  by_cases h0 : Lib.indexByte l c = -1
  · exact absurd h (Lib.indexByte_none h0 k)
  · obtain ⟨o, ho⟩ := Int.eq_ofNat_of_zero_le (by omega : 0 ≤ Lib.indexByte l c)
    obtain ⟨h2, h3⟩ := Lib.indexByte_some ho
    rw [ho]
    rcases Nat.lt_trichotomy o k with hlt | heq | hlt
    · exact absurd h2 (hk o hlt)
    · rw [heq]
    · exact absurd h (h3 k hlt)
theorem ib_none (l : List UInt8) (c : UInt8) (hk : ∀ j : Nat, l[j]? ≠ some c) : Lib.indexByte l c = -1 := by
  have h1 := Lib.indexByte_ge l c
  by_cases h0 : Lib.indexByte l c = -1
  · exact h0
  · obtain ⟨o, ho⟩ := Int.eq_ofNat_of_zero_le (by omega : 0 ≤ Lib.indexByte l c)
    exact absurd (Lib.indexByte_some ho).1 (hk o)
theorem ext1 (s : ByteArray) (k : Nat) (c : UInt8) (h : k < s.size) : ((s.extract k (k + 1)).toList == [c]) = true ↔ s.data.toList[k]? = some c := by
  rw [beq_iff_eq]
  have e : (s.extract k (k + 1)).toList = (s.data.toList.drop k).take 1 := by
    rw [Lib.extract_toList, Nat.add_sub_cancel_left]
  rw [e]
  have hl : k < s.data.toList.length := h
  rw [List.drop_eq_getElem_cons hl]
  simp [List.getElem?_eq_getElem hl]
set_option maxRecDepth 100000 in
theorem place_c (s : ByteArray) (c : UInt8) (w : World) (hs : s.size ≤ 100000) :
    Calls Tryd.prog 12 #[.string s, .string ⟨#[c]⟩] w fun e w' => e = .returned (.int .i64 (Lib.indexByte s.data.toList c)) ∧ w = w' := by
  go_enter Tryd.func12, Tryd.ntmps12
  go_wp2
  go_loop [5] (fun v => ∃ k : Nat, k ≤ s.size ∧ v = .int .i64 k ∧ Hid (∀ j, j < k → s.data.toList[j]? ≠ some c)) (fun v => s.size - (intOf v).toNat)
  case atStart => exact ⟨0, Nat.zero_le _, rfl, Lib.hid (fun j hj => by omega)⟩
  case round =>
    obtain ⟨k, hk, rfl, HK⟩ := hrel
    by_cases hlt : k < s.size
    · have he := Lib.hid (ext1 s k c hlt)
      by_cases hb : ((s.extract k (k + 1)).toList == [c]) = true
      · have HR := Lib.hid (ib_at s.data.toList c k (he.out.1 hb) HK.out)
        go_wp2
        go_ret
        exact ⟨by rw [HR.out]; rfl, rfl⟩
      · have hb' : ((s.extract k (k + 1)).toList == [c]) = false := by simpa using hb
        have HN : Hid (∀ j, j < k + 1 → s.data.toList[j]? ≠ some c) := Lib.hid (fun j hj => by
          by_cases e : j = k
          · subst e; exact fun h => hb (he.out.2 h)
          · exact HK.out j (by omega))
        clear hb
        go_wp2
        go_round
        case rel => exact ⟨k + 1, by omega, by go_num, HN⟩
        case measure => simp [intOf]; omega
    · have HR := Lib.hid (ib_none s.data.toList c (fun j hj => by
        by_cases e : j < k
        · exact HK.out j e hj
        · have : j < s.data.toList.length := (List.getElem?_eq_some_iff.1 hj).1
          have h2 : s.data.toList.length = s.size := rfl
          omega))
      go_wp2
      go_ret
      exact ⟨by rw [HR.out]; rfl, rfl⟩
end Go.Proofs.YtniiphdbajjldaaDoor
