/-
  strings.Cut at one byte, over this seat's dump.
-/
import Derived.Test.Qxb6605318aShelf
import Derived.WalkKit
import Derived.WalkSpells
import Derived.WalkLawsBesides
import Derived.BigQuiet
import Derived.Deep.QuietTactic
import Derived.Lib.IndexBytes
namespace Go.Proofs.Qxb6605318a
open Go.RowKit

set_option maxHeartbeats 1000000 in
theorem cut28_none (s : ByteArray) (w : World) (h : Lib.indexByte s.data.toList 46 = -1) :
    Calls Try.prog 28 #[.string s, .string ⟨#[46]⟩] w fun e w' => e = .returned (.tuple #[.string s, .string ⟨#[]⟩, .bool false]) ∧ ∃ n, w' = w.drewN n := by
  go_enter Try.func28, Try.ntmps28
  go_wp2_with (go_at_call 31; refine (Try.stringslite_Index_one _ _ _).mono ?_; rintro e w' ⟨rfl, rfl⟩)
  go_ret3
  exact ⟨rfl, 0, rfl⟩

set_option maxHeartbeats 1000000 in
theorem cut28_some (s : ByteArray) (w : World) (i : Nat) (h : Lib.indexByte s.data.toList 46 = (i : Int)) (hi : i < s.size) (hs : s.size ≤ 1048576) :
    Calls Try.prog 28 #[.string s, .string ⟨#[46]⟩] w fun e w' => e = .returned (.tuple #[.string (s.extract 0 i), .string (s.extract (i + 1) s.size), .bool true]) ∧ ∃ n, w' = w.drewN n := by
  go_enter Try.func28, Try.ntmps28
  go_wp2_with (go_at_call 31; refine (Try.stringslite_Index_one _ _ _).mono ?_; rintro e w' ⟨rfl, rfl⟩)
  go_quiet (fail)
  go_wp2
  go_ret3
  exact ⟨rfl, _, rfl⟩

theorem cut24_none (s : ByteArray) (w : World) (h : Lib.indexByte s.data.toList 46 = -1) :
    Calls Try.prog 24 #[.string s, .string ⟨#[46]⟩] w fun e w' => e = .returned (.tuple #[.string s, .string ⟨#[]⟩, .bool false]) ∧ ∃ n, w' = w.drewN n := by
  go_enter Try.func24, Try.ntmps24
  go_wp2_with (go_at_call 28; refine (cut28_none _ _ h).mono ?_; rintro e w' ⟨rfl, n, rfl⟩)
  go_ret3
  exact ⟨rfl, _, rfl⟩

theorem cut24_some (s : ByteArray) (w : World) (i : Nat) (h : Lib.indexByte s.data.toList 46 = (i : Int)) (hi : i < s.size) (hs : s.size ≤ 1048576) :
    Calls Try.prog 24 #[.string s, .string ⟨#[46]⟩] w fun e w' => e = .returned (.tuple #[.string (s.extract 0 i), .string (s.extract (i + 1) s.size), .bool true]) ∧ ∃ n, w' = w.drewN n := by
  go_enter Try.func24, Try.ntmps24
  go_wp2_with (go_at_call 28; refine (cut28_some _ _ i h hi hs).mono ?_; rintro e w' ⟨rfl, n, rfl⟩)
  go_ret3
  exact ⟨rfl, _, rfl⟩

/-- The part ahead of the first point, the part behind it, whether there is one. -/
def dotCut (l : List UInt8) : List UInt8 × List UInt8 × Bool :=
  match Lib.indexByte l 46 with
  | .ofNat i => (l.take i, l.drop (i + 1), true)
  | .negSucc _ => (l, [], false)

theorem dotCut_none {l : List UInt8} (h : Lib.indexByte l 46 = -1) : dotCut l = (l, [], false) := by
  unfold dotCut; rw [h]; rfl
theorem dotCut_some {l : List UInt8} {i : Nat} (h : Lib.indexByte l 46 = (i : Int)) : dotCut l = (l.take i, l.drop (i + 1), true) := by
  unfold dotCut; rw [h]

theorem cut24_any (s : ByteArray) (w : World) (hs : s.size ≤ 1048576) :
    Calls Try.prog 24 #[.string s, .string ⟨#[46]⟩] w fun e w' => (∃ a b : ByteArray, e = .returned (.tuple #[.string a, .string b, .bool (dotCut s.data.toList).2.2]) ∧ a.data.toList = (dotCut s.data.toList).1 ∧ b.data.toList = (dotCut s.data.toList).2.1) ∧ ∃ n, w' = w.drewN n := by
  by_cases h : Lib.indexByte s.data.toList 46 = -1
  · refine (cut24_none s w h).mono fun e w' ⟨he, hw⟩ => ⟨⟨s, ⟨#[]⟩, ?_, ?_, ?_⟩, hw⟩
    · rw [he, dotCut_none h]
    · rw [dotCut_none h]
    · rw [dotCut_none h]
  · have hge := Lib.indexByte_ge s.data.toList 46
    obtain ⟨i, hi⟩ : ∃ i : Nat, Lib.indexByte s.data.toList 46 = (i : Int) := ⟨(Lib.indexByte s.data.toList 46).toNat, by omega⟩
    have hlt : i < s.size := by
      rw [Lib.size_eq]
      exact (List.getElem?_eq_some_iff.1 (Lib.indexByte_some hi).1).1
    refine (cut24_some s w i hi hlt hs).mono fun e w' ⟨he, hw⟩ => ⟨⟨s.extract 0 i, s.extract (i + 1) s.size, by rw [he, dotCut_some hi], ?_, ?_⟩, hw⟩
    · rw [dotCut_some hi, Lib.extract_data]; simp
    · rw [dotCut_some hi, Lib.extract_data]; exact List.take_of_length_le (by simp)
end Go.Proofs.Qxb6605318a
