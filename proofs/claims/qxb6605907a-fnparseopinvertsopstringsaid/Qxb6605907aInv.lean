/-
  zzIsName, zzIsVar, zzIsValue, (Op).String; the plain law behind FnParseOpInvertsOpString.
-/
import Derived.Test.Qxb6605907aPlain
namespace Go.Proofs.Qxb6605907a
open Go.RowKit

set_option maxHeartbeats 1000000 in
theorem zz16 (s : ByteArray) (w : World) (hs : s.size ≤ 1048576) :
    Calls Try.prog 16 #[.string s] w fun e w' => e = .returned (.bool (isName s.data.toList)) ∧ w' = w := by
  cases he : s.toList.isEmpty
  · have HE : Hid (isName s.data.toList = s.data.toList.all nameB) := by show _ = _; unfold isName; rw [← Lib.toList_data, he]; rfl
    go_enter Try.func16, Try.ntmps16
    go_wp2
    go_loop [2, 3] (fun _ i => ∃ k : Nat, k ≤ s.size ∧ i = .int .i64 k ∧ Hid ((s.data.toList.take k).all nameB = true)) (fun _ i => s.size - (intOf i).toNat)
    case atStart => exact ⟨0, Nat.zero_le _, rfl, rfl⟩
    case round =>
      obtain ⟨k, hk, rfl, HA⟩ := hrel
      by_cases hlt : k < s.size
      · cases hd : nameB s[k]
        · have HD : Hid (s.data.toList.all nameB = false) := all_bad hlt hd
          go_wp2_with (go_at_call 14; refine (zzName14 _ _).mono ?_; rintro e w' ⟨rfl, hw⟩; rw [hw]; clear hw)
          go_ret
          exact ⟨ret_bool (by rw [HE.out, HD.out]), rfl⟩
        · have HA' : Hid ((s.data.toList.take (k + 1)).all nameB = true) := all_snoc hlt HA.out hd
          go_wp2_with (go_at_call 14; refine (zzName14 _ _).mono ?_; rintro e w' ⟨rfl, hw⟩; rw [hw]; clear hw)
          go_round
          case rel => exact ⟨k + 1, by omega, by go_num, HA'⟩
          case measure => simp [intOf]; omega
      · have HD : Hid (s.data.toList.all nameB = true) := all_end (by omega) HA.out
        go_wp2
        go_ret
        exact ⟨ret_bool (by rw [HE.out, HD.out]), rfl⟩
  · have HE : Hid (isName s.data.toList = false) := by show _ = _; unfold isName; rw [← Lib.toList_data, he]; rfl
    go_enter Try.func16, Try.ntmps16
    go_wp2
    go_ret
    exact ⟨ret_bool (by rw [HE.out]), rfl⟩

set_option maxHeartbeats 1000000 in
theorem zz10 (s : ByteArray) (w : World) (hs : s.size ≤ 1048576) :
    Calls Try.prog 10 #[.string s] w fun e w' => e = .returned (.bool (isVal s.data.toList)) ∧ w' = w := by
  cases he : s.toList.isEmpty
  · have HE : Hid (isVal s.data.toList = s.data.toList.all valB) := by show _ = _; unfold isVal; rw [← Lib.toList_data, he]; rfl
    go_enter Try.func10, Try.ntmps10
    go_wp2
    go_loop [2, 3] (fun _ i => ∃ k : Nat, k ≤ s.size ∧ i = .int .i64 k ∧ Hid ((s.data.toList.take k).all valB = true)) (fun _ i => s.size - (intOf i).toNat)
    case atStart => exact ⟨0, Nat.zero_le _, rfl, rfl⟩
    case round =>
      obtain ⟨k, hk, rfl, HA⟩ := hrel
      by_cases hlt : k < s.size
      · cases hd : valB s[k]
        · have HD : Hid (s.data.toList.all valB = false) := all_bad hlt hd
          go_wp2_with (go_at_call 15; refine (zzValue15 _ _).mono ?_; rintro e w' ⟨rfl, hw⟩; rw [hw]; clear hw)
          go_ret
          exact ⟨ret_bool (by rw [HE.out, HD.out]), rfl⟩
        · have HA' : Hid ((s.data.toList.take (k + 1)).all valB = true) := all_snoc hlt HA.out hd
          go_wp2_with (go_at_call 15; refine (zzValue15 _ _).mono ?_; rintro e w' ⟨rfl, hw⟩; rw [hw]; clear hw)
          go_round
          case rel => exact ⟨k + 1, by omega, by go_num, HA'⟩
          case measure => simp [intOf]; omega
      · have HD : Hid (s.data.toList.all valB = true) := all_end (by omega) HA.out
        go_wp2
        go_ret
        exact ⟨ret_bool (by rw [HE.out, HD.out]), rfl⟩
  · have HE : Hid (isVal s.data.toList = false) := by show _ = _; unfold isVal; rw [← Lib.toList_data, he]; rfl
    go_enter Try.func10, Try.ntmps10
    go_wp2
    go_ret
    exact ⟨ret_bool (by rw [HE.out]), rfl⟩

set_option maxHeartbeats 1000000 in
theorem zz9 (s : ByteArray) (w : World) (hs : s.size ≤ 1048576) :
    Calls Try.prog 9 #[.string s] w fun e w' => e = .returned (.bool (isVar s.data.toList)) ∧ w' = w := by
  by_cases h0 : 0 < s.size
  · have he : s.toList.isEmpty = false := by
      rw [Lib.toList_data, List.isEmpty_eq_false_iff, ← List.length_pos_iff, ← Lib.size_eq]; exact h0
    have h0' : (0 : Int) < (s.size : Int) := by omega
    have HV : Hid (isVar s.data.toList = (letB s[0] && isName s.data.toList)) := isVar_at h0
    cases hl : letB s[0]
    · go_enter Try.func9, Try.ntmps9
      go_wp2_with (go_at_call 13; refine (zzLetter13 _ _).mono ?_; rintro e w' ⟨rfl, hw⟩; rw [hw]; clear hw)
      go_ret
      exact ⟨ret_bool (by rw [HV.out, hl]; rfl), rfl⟩
    · go_enter Try.func9, Try.ntmps9
      go_wp2_with (first
        | (go_at_call 13; refine (zzLetter13 _ _).mono ?_; rintro e w' ⟨rfl, hw⟩; rw [hw]; clear hw)
        | (go_at_call 16; refine (zz16 _ _ hs).mono ?_; rintro e w1 ⟨rfl, hw⟩; rw [hw]; clear hw))
      go_ret
      exact ⟨ret_bool (by rw [HV.out, hl]; rfl), rfl⟩
  · have he : s.toList.isEmpty = true := by
      rw [Lib.toList_data, List.isEmpty_iff, ← List.length_eq_zero_iff, ← Lib.size_eq]; omega
    have HV : Hid (isVar s.data.toList = false) := by
      rw [Lib.toList_data] at he
      show _ = _
      rw [List.isEmpty_iff.1 he]
      rfl
    go_enter Try.func9, Try.ntmps9
    go_wp2
    go_ret
    exact ⟨ret_bool (by rw [HV.out]), rfl⟩

/-- (Op).String. -/
def strL (k : Nat) (v x : List UInt8) : List UInt8 := (if k = 1 then [119, 40] else [114, 40]) ++ v ++ [41] ++ x

theorem str11 (wb : Bool) (a b : ByteArray) (w : World) (ha : a.size ≤ 1048576) (hb : b.size ≤ 1048576) :
    Calls Try.prog 11 #[.agg #[.int .u8 (kindN wb : Nat), .string a, .string b]] w fun e w' => (∃ r : ByteArray, e = .returned (.string r) ∧ r.data.toList = strL (kindN wb) a.data.toList b.data.toList) ∧ Below w.heap.size w w' := by
  cases wb
  all_goals
    go_enter Try.func11, Try.ntmps11
    go_wp2
    go_ret
    refine ⟨⟨_, rfl, ?_⟩, (Below.refl _ _).alloc (Nat.le_refl _) _⟩
    simp [strL, kindN]

theorem strL_kind (wb : Bool) (v x : List UInt8) : strL (kindN wb) v x = (if wb then 119 else 114) :: 40 :: (v ++ 41 :: x) := by
  cases wb <;> simp [strL, kindN]

/-- A String is read back. -/
theorem parse_str {wb : Bool} {v x : List UInt8} (hv : isVar v = true) (hx : isVal x = true) : parseL (strL (kindN wb) v x) = (kindN wb, v, x, true) := by
  obtain ⟨ha, c, hc, hl⟩ := isVar_all hv
  have hp : 0 < v.length := (List.getElem?_eq_some_iff.1 hc).1
  rw [strL_kind]
  have hd2 : List.drop 2 ((if wb then (119 : UInt8) else 114) :: 40 :: (v ++ 41 :: x)) = v ++ 41 :: x := rfl
  have hV : Var ((if wb then (119 : UInt8) else 114) :: 40 :: (v ++ 41 :: x)) wb (2 + v.length) := by
    refine ⟨⟨rfl, rfl⟩, by omega, ?_, ⟨c, ?_, hl⟩, ?_⟩
    · have : 2 + v.length = v.length + 1 + 1 := by omega
      rw [this]
      show (v ++ 41 :: x)[v.length]? = some 41
      simp
    · show (v ++ 41 :: x)[0]? = some c
      rw [List.getElem?_append_left hp]; exact hc
    · rw [hd2]
      have : 2 + v.length - 2 = v.length := by omega
      rw [this, List.take_left]
      exact ha
  unfold isVal at hx
  simp only [Bool.and_eq_true] at hx
  have hdr : List.drop (2 + v.length + 1) ((if wb then (119 : UInt8) else 114) :: 40 :: (v ++ 41 :: x)) = x := by
    have : 2 + v.length + 1 = v.length + 1 + 1 + 1 := by omega
    rw [this]
    show List.drop (v.length + 1) (v ++ 41 :: x) = x
    rw [← List.drop_drop, List.drop_left]
    rfl
  have hxp : 0 < x.length := by
    rw [List.length_pos_iff]
    intro e
    rw [e] at hx
    exact absurd hx.1 (by decide)
  have := acc hV (by simp; omega) (by rw [hdr]; exact hx.2)
  rw [this, hdr, hd2]
  have e2 : 2 + v.length - 2 = v.length := by omega
  rw [e2, List.take_left]

/-- What is accepted is the String of what is given. -/
theorem str_parse {t : List UInt8} (h : okL t = true) : strL (parseL t).1 (parseL t).2.1 (parseL t).2.2.1 = t ∧ ∃ wb, (parseL t).1 = kindN wb := by
  have key : ∀ wb, Pre t wb → strL (parseL t).1 (parseL t).2.1 (parseL t).2.2.1 = t ∧ ∃ wb, (parseL t).1 = kindN wb := by
    intro wb hp
    have hr := h
    unfold okL at hr
    rw [parse_pre hp, rest_ok] at hr
    simp only [Bool.and_eq_true] at hr
    have hres : restL (kindN wb) (t.drop 2) = (kindN wb, (brCut (t.drop 2)).1, (brCut (t.drop 2)).2.1, true) := by
      unfold restL
      rw [if_pos (by simp only [Bool.and_eq_true]; exact hr)]
    have hge := Lib.indexByte_ge (t.drop 2) 41
    have hne : ¬ Lib.indexByte (t.drop 2) 41 = -1 := by
      intro e
      rw [brCut_none e] at hr
      exact absurd hr.1.1 (by simp)
    obtain ⟨i, hi⟩ : ∃ i : Nat, Lib.indexByte (t.drop 2) 41 = (i : Int) := ⟨(Lib.indexByte (t.drop 2) 41).toNat, by omega⟩
    obtain ⟨h2, _⟩ := Lib.indexByte_some hi
    obtain ⟨hlt, he⟩ := List.getElem?_eq_some_iff.1 h2
    rw [parse_pre hp, hres]
    refine ⟨?_, wb, rfl⟩
    show strL (kindN wb) (brCut (t.drop 2)).1 (brCut (t.drop 2)).2.1 = t
    rw [brCut_some hi, strL_kind]
    have hj : (t.drop 2).take i ++ 41 :: (t.drop 2).drop (i + 1) = t.drop 2 := by
      rw [← he, ← List.drop_eq_getElem_cons hlt, List.take_append_drop]
    show (if wb then (119 : UInt8) else 114) :: 40 :: ((t.drop 2).take i ++ 41 :: (t.drop 2).drop (i + 1)) = t
    rw [hj]
    match t, hp.1, hp.2 with
    | a :: b :: r, h3, h4 =>
      simp at h3 h4
      rw [h3, h4]
      rfl
  by_cases h1 : Pre t true
  · exact key true h1
  · by_cases h2 : Pre t false
    · exact key false h2
    · have := parse_nopre (l := t) (fun wb => by cases wb; exact h2; exact h1)
      rw [this] at h
      cases h
end Go.Proofs.Qxb6605907a
