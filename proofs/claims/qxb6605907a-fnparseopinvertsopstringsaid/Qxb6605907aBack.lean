/-
  The walk of FnParseOpInvertsOpString.
-/
import Derived.Test.Qxb6605907aInv
namespace Go.Proofs.Qxb6605907a
open Go.RowKit

theorem zzBytes8_any (b : Bool) (v x t : ByteArray) (w : World) (hv : v.size ≤ maxLen) (hx : x.size ≤ maxLen) (ht : t.size ≤ maxLen) :
    Calls Try.prog 8 #[.bool b, .string v, .string x, .string t] w fun e w' => e = .returned (.bool (decide (v.size + x.size + t.size ≤ 1048576))) ∧ w' = w := by
  unfold maxLen at hv hx ht
  by_cases h : v.size + x.size + t.size ≤ 1048576
  · rw [decide_eq_true h]
    go_enter Try.func8, Try.ntmps8
    go_wp2
    go_ret
    exact ⟨rfl, rfl⟩
  · rw [decide_eq_false h]
    by_cases h1 : v.size ≤ 1048576
    · by_cases h2 : x.size ≤ 1048576
      · by_cases h3 : v.size + x.size ≤ 1048576
        · by_cases h4 : t.size ≤ 1048576
          all_goals
            go_enter Try.func8, Try.ntmps8
            go_wp2
            go_ret
            exact ⟨rfl, rfl⟩
        · go_enter Try.func8, Try.ntmps8
          go_wp2
          go_ret
          exact ⟨rfl, rfl⟩
      · go_enter Try.func8, Try.ntmps8
        go_wp2
        go_ret
        exact ⟨rfl, rfl⟩
    · go_enter Try.func8, Try.ntmps8
      go_wp2
      go_ret
      exact ⟨rfl, rfl⟩

theorem ba_ext' {a b : ByteArray} (h : a.data.toList = b.data.toList) : a = b := by
  rw [← Lib.mk_data a, ← Lib.mk_data b, h]

theorem One.next {w w1 w2 : World} {x y z : Value} (h : One w w1 x y z) (hb : Below w1.heap.size w1 w2) : One w w2 x y z := by
  have hs := h.size
  have hs2 := hb.size
  have c0 : ∀ j, w2.cell? ⟨w.heap.size, j, none⟩ = w1.cell? ⟨w.heap.size, j, none⟩ := fun j => hb.cell (p := ⟨w.heap.size, j, none⟩) (by show w.heap.size < _; omega)
  have f0 : ∀ j, w2.frozen? ⟨w.heap.size, j, none⟩ = w1.frozen? ⟨w.heap.size, j, none⟩ := fun j => hb.frozen (p := ⟨w.heap.size, j, none⟩) (by show w.heap.size < _; omega)
  exact ⟨(c0 0).trans h.r0, (c0 1).trans h.r1, (c0 2).trans h.r2, fun j => (f0 j).trans (h.fr j), by omega, h.below.trans (hb.mono (by omega))⟩

set_option maxHeartbeats 4000000 in
theorem back_gy (wr : Bool) (v x t : ByteArray) (w : World) (hs : v.size + x.size + t.size ≤ 1048576) (hv : isVar v.data.toList = true) (hx : isVal x.data.toList = true) (hok : okL t.data.toList = true) :
    Calls Try.prog 4 #[.bool wr, .string v, .string x, .string t] w fun e w' => e = .returned (.bool true) ∧ Below w.heap.size w w' := by
  have hz : decide (v.size + x.size + t.size ≤ 1048576) = true := decide_eq_true hs
  cases wr
  · go_enter Try.func4, Try.ntmps4
    go_wp2_with (first
      | (go_at_call 8; refine (zzBytes8_any _ _ _ _ _ (by unfold maxLen; omega) (by unfold maxLen; omega) (by unfold maxLen; omega)).mono ?_; rintro e w' ⟨rfl, hw⟩; rw [hw, hz]; clear hw)
      | (go_at_call 9; refine (zz9 _ _ (by omega)).mono ?_; rintro e w' ⟨rfl, hw⟩; rw [hw]; clear hw)
      | (go_at_call 10; refine (zz10 _ _ (by omega)).mono ?_; rintro e w' ⟨rfl, hw⟩; rw [hw]; clear hw))
    refine (str11 false v x _ (by omega) (by omega)).mono ?_
    rintro e w1 ⟨⟨r, rfl, hr⟩, hB1⟩
    have T1 := one_of hB1
    have HR : Hid (r.data.toList = strL (kindN false) v.data.toList x.data.toList) := hr
    have hrs : r.size ≤ 1048579 := by
      rw [Lib.size_eq, hr, strL_kind]
      simp
      omega
    have HT1 : Hid (One w w1 (.int .u8 (kindN false : Nat)) (.string v) (.string x)) := T1
    clear hr hB1 T1
    go_wp2_with fail
    refine (parse6 _ _ (by omega)).mono ?_
    rintro e w2 ⟨⟨a, b, rfl, ha, hb⟩, hB2⟩
    rw [HR.out, parse_str hv hx] at ha hb ⊢
    obtain rfl : a = v := ba_ext' ha
    obtain rfl : b = x := ba_ext' hb
    have T2 := HT1.out.next hB2
    obtain ⟨r0, r1, r2, fr, sz, bl⟩ := T2
    have HBx : Hid (Below w.heap.size w (w2.alloc (.cells #[.int .u8 (kindN false : Nat), .string a, .string b] 25))) := bl.alloc bl.size _
    clear hB2 HT1 ha hb bl
    go_wp2_with fail
    refine (parse6 _ _ (by omega)).mono ?_
    rintro e w3 ⟨⟨a3, b3, rfl, ha3, hb3⟩, hB3⟩
    obtain ⟨hst, wb2, hk2⟩ := str_parse hok
    have hk3 : (parseL t.data.toList).2.2.2 = true := hok
    rw [hk3, hk2]
    rw [← ha3, ← hb3, hk2] at hst
    have HST : Hid (strL (kindN wb2) a3.data.toList b3.data.toList = t.data.toList) := hst
    have hlen := congrArg List.length hst
    rw [strL_kind] at hlen
    simp at hlen
    have ha3s : a3.size ≤ 1048576 := by omega
    have hb3s : b3.size ≤ 1048576 := by omega
    have HB3 : Hid (Below w.heap.size w w3) := HBx.out.trans (hB3.mono HBx.out.size)
    clear ha3 hb3 hB3 hst hk3 hk2 hlen HBx
    have hs3 := HB3.out.size
    go_wp2_with fail
    refine (str11 wb2 a3 b3 _ ha3s hb3s).mono ?_
    rintro e w4 ⟨⟨r4, rfl, hr4⟩, hB4⟩
    obtain rfl : r4 = t := ba_ext' (hr4.trans HST.out)
    have HB4 : Hid (Below w.heap.size w w4) := (HB3.out.alloc hs3 _).trans (hB4.mono (by simp; omega))
    clear hr4 hB4 HST
    go_wp2
    go_ret
    exact ⟨ret_bool (by simp), HB4.out⟩
  · go_enter Try.func4, Try.ntmps4
    go_wp2_with (first
      | (go_at_call 8; refine (zzBytes8_any _ _ _ _ _ (by unfold maxLen; omega) (by unfold maxLen; omega) (by unfold maxLen; omega)).mono ?_; rintro e w' ⟨rfl, hw⟩; rw [hw, hz]; clear hw)
      | (go_at_call 9; refine (zz9 _ _ (by omega)).mono ?_; rintro e w' ⟨rfl, hw⟩; rw [hw]; clear hw)
      | (go_at_call 10; refine (zz10 _ _ (by omega)).mono ?_; rintro e w' ⟨rfl, hw⟩; rw [hw]; clear hw))
    refine (str11 true v x _ (by omega) (by omega)).mono ?_
    rintro e w1 ⟨⟨r, rfl, hr⟩, hB1⟩
    have T1 := one_of hB1
    have HR : Hid (r.data.toList = strL (kindN true) v.data.toList x.data.toList) := hr
    have hrs : r.size ≤ 1048579 := by
      rw [Lib.size_eq, hr, strL_kind]
      simp
      omega
    have HT1 : Hid (One w w1 (.int .u8 (kindN true : Nat)) (.string v) (.string x)) := T1
    clear hr hB1 T1
    go_wp2_with fail
    refine (parse6 _ _ (by omega)).mono ?_
    rintro e w2 ⟨⟨a, b, rfl, ha, hb⟩, hB2⟩
    rw [HR.out, parse_str hv hx] at ha hb ⊢
    obtain rfl : a = v := ba_ext' ha
    obtain rfl : b = x := ba_ext' hb
    have T2 := HT1.out.next hB2
    obtain ⟨r0, r1, r2, fr, sz, bl⟩ := T2
    have HBx : Hid (Below w.heap.size w (w2.alloc (.cells #[.int .u8 (kindN true : Nat), .string a, .string b] 25))) := bl.alloc bl.size _
    clear hB2 HT1 ha hb bl
    go_wp2_with fail
    refine (parse6 _ _ (by omega)).mono ?_
    rintro e w3 ⟨⟨a3, b3, rfl, ha3, hb3⟩, hB3⟩
    obtain ⟨hst, wb2, hk2⟩ := str_parse hok
    have hk3 : (parseL t.data.toList).2.2.2 = true := hok
    rw [hk3, hk2]
    rw [← ha3, ← hb3, hk2] at hst
    have HST : Hid (strL (kindN wb2) a3.data.toList b3.data.toList = t.data.toList) := hst
    have hlen := congrArg List.length hst
    rw [strL_kind] at hlen
    simp at hlen
    have ha3s : a3.size ≤ 1048576 := by omega
    have hb3s : b3.size ≤ 1048576 := by omega
    have HB3 : Hid (Below w.heap.size w w3) := HBx.out.trans (hB3.mono HBx.out.size)
    clear ha3 hb3 hB3 hst hk3 hk2 hlen HBx
    have hs3 := HB3.out.size
    go_wp2_with fail
    refine (str11 wb2 a3 b3 _ ha3s hb3s).mono ?_
    rintro e w4 ⟨⟨r4, rfl, hr4⟩, hB4⟩
    obtain rfl : r4 = t := ba_ext' (hr4.trans HST.out)
    have HB4 : Hid (Below w.heap.size w w4) := (HB3.out.alloc hs3 _).trans (hB4.mono (by simp; omega))
    clear hr4 hB4 HST
    go_wp2
    go_ret
    exact ⟨ret_bool (by simp), HB4.out⟩

set_option maxHeartbeats 4000000 in
theorem back_gn (wr : Bool) (v x t : ByteArray) (w : World) (hs : v.size + x.size + t.size ≤ 1048576) (hv : isVar v.data.toList = true) (hx : isVal x.data.toList = true) (hok : okL t.data.toList = false) :
    Calls Try.prog 4 #[.bool wr, .string v, .string x, .string t] w fun e w' => e = .returned (.bool true) ∧ Below w.heap.size w w' := by
  have hz : decide (v.size + x.size + t.size ≤ 1048576) = true := decide_eq_true hs
  cases wr
  · go_enter Try.func4, Try.ntmps4
    go_wp2_with (first
      | (go_at_call 8; refine (zzBytes8_any _ _ _ _ _ (by unfold maxLen; omega) (by unfold maxLen; omega) (by unfold maxLen; omega)).mono ?_; rintro e w' ⟨rfl, hw⟩; rw [hw, hz]; clear hw)
      | (go_at_call 9; refine (zz9 _ _ (by omega)).mono ?_; rintro e w' ⟨rfl, hw⟩; rw [hw]; clear hw)
      | (go_at_call 10; refine (zz10 _ _ (by omega)).mono ?_; rintro e w' ⟨rfl, hw⟩; rw [hw]; clear hw))
    refine (str11 false v x _ (by omega) (by omega)).mono ?_
    rintro e w1 ⟨⟨r, rfl, hr⟩, hB1⟩
    have T1 := one_of hB1
    have HR : Hid (r.data.toList = strL (kindN false) v.data.toList x.data.toList) := hr
    have hrs : r.size ≤ 1048579 := by
      rw [Lib.size_eq, hr, strL_kind]
      simp
      omega
    have HT1 : Hid (One w w1 (.int .u8 (kindN false : Nat)) (.string v) (.string x)) := T1
    clear hr hB1 T1
    go_wp2_with fail
    refine (parse6 _ _ (by omega)).mono ?_
    rintro e w2 ⟨⟨a, b, rfl, ha, hb⟩, hB2⟩
    rw [HR.out, parse_str hv hx] at ha hb ⊢
    obtain rfl : a = v := ba_ext' ha
    obtain rfl : b = x := ba_ext' hb
    have T2 := HT1.out.next hB2
    obtain ⟨r0, r1, r2, fr, sz, bl⟩ := T2
    have HBx : Hid (Below w.heap.size w (w2.alloc (.cells #[.int .u8 (kindN false : Nat), .string a, .string b] 25))) := bl.alloc bl.size _
    clear hB2 HT1 ha hb bl
    go_wp2_with fail
    refine (parse6 _ _ (by omega)).mono ?_
    rintro e w3 ⟨⟨a3, b3, rfl, ha3, hb3⟩, hB3⟩
    have hk3 : (parseL t.data.toList).2.2.2 = false := hok
    rw [hk3]
    have HB3 : Hid (Below w.heap.size w w3) := HBx.out.trans (hB3.mono HBx.out.size)
    clear ha3 hb3 hB3 hk3 HBx
    have hs3 := HB3.out.size
    go_wp2
    go_ret
    exact ⟨rfl, HB3.out.alloc hs3 _⟩
  · go_enter Try.func4, Try.ntmps4
    go_wp2_with (first
      | (go_at_call 8; refine (zzBytes8_any _ _ _ _ _ (by unfold maxLen; omega) (by unfold maxLen; omega) (by unfold maxLen; omega)).mono ?_; rintro e w' ⟨rfl, hw⟩; rw [hw, hz]; clear hw)
      | (go_at_call 9; refine (zz9 _ _ (by omega)).mono ?_; rintro e w' ⟨rfl, hw⟩; rw [hw]; clear hw)
      | (go_at_call 10; refine (zz10 _ _ (by omega)).mono ?_; rintro e w' ⟨rfl, hw⟩; rw [hw]; clear hw))
    refine (str11 true v x _ (by omega) (by omega)).mono ?_
    rintro e w1 ⟨⟨r, rfl, hr⟩, hB1⟩
    have T1 := one_of hB1
    have HR : Hid (r.data.toList = strL (kindN true) v.data.toList x.data.toList) := hr
    have hrs : r.size ≤ 1048579 := by
      rw [Lib.size_eq, hr, strL_kind]
      simp
      omega
    have HT1 : Hid (One w w1 (.int .u8 (kindN true : Nat)) (.string v) (.string x)) := T1
    clear hr hB1 T1
    go_wp2_with fail
    refine (parse6 _ _ (by omega)).mono ?_
    rintro e w2 ⟨⟨a, b, rfl, ha, hb⟩, hB2⟩
    rw [HR.out, parse_str hv hx] at ha hb ⊢
    obtain rfl : a = v := ba_ext' ha
    obtain rfl : b = x := ba_ext' hb
    have T2 := HT1.out.next hB2
    obtain ⟨r0, r1, r2, fr, sz, bl⟩ := T2
    have HBx : Hid (Below w.heap.size w (w2.alloc (.cells #[.int .u8 (kindN true : Nat), .string a, .string b] 25))) := bl.alloc bl.size _
    clear hB2 HT1 ha hb bl
    go_wp2_with fail
    refine (parse6 _ _ (by omega)).mono ?_
    rintro e w3 ⟨⟨a3, b3, rfl, ha3, hb3⟩, hB3⟩
    have hk3 : (parseL t.data.toList).2.2.2 = false := hok
    rw [hk3]
    have HB3 : Hid (Below w.heap.size w w3) := HBx.out.trans (hB3.mono HBx.out.size)
    clear ha3 hb3 hB3 hk3 HBx
    have hs3 := HB3.out.size
    go_wp2
    go_ret
    exact ⟨rfl, HB3.out.alloc hs3 _⟩

set_option maxHeartbeats 4000000 in
theorem back_vy (wr : Bool) (v x t : ByteArray) (w : World) (hs : v.size + x.size + t.size ≤ 1048576) (hv : isVar v.data.toList = false) (hok : okL t.data.toList = true) :
    Calls Try.prog 4 #[.bool wr, .string v, .string x, .string t] w fun e w' => e = .returned (.bool true) ∧ Below w.heap.size w w' := by
  have hz : decide (v.size + x.size + t.size ≤ 1048576) = true := decide_eq_true hs
  have HBx : Hid (Below w.heap.size w w) := Below.refl _ _
  go_enter Try.func4, Try.ntmps4
  go_wp2_with (first
    | (go_at_call 8; refine (zzBytes8_any _ _ _ _ _ (by unfold maxLen; omega) (by unfold maxLen; omega) (by unfold maxLen; omega)).mono ?_; rintro e w' ⟨rfl, hw⟩; rw [hw, hz]; clear hw)
    | (go_at_call 9; refine (zz9 _ _ (by omega)).mono ?_; rintro e w' ⟨rfl, hw⟩; rw [hw]; clear hw)
    | (go_at_call 10; refine (zz10 _ _ (by omega)).mono ?_; rintro e w' ⟨rfl, hw⟩; rw [hw]; clear hw))
  refine (parse6 _ _ (by omega)).mono ?_
  rintro e w3 ⟨⟨a3, b3, rfl, ha3, hb3⟩, hB3⟩
  obtain ⟨hst, wb2, hk2⟩ := str_parse hok
  have hk3 : (parseL t.data.toList).2.2.2 = true := hok
  rw [hk3, hk2]
  rw [← ha3, ← hb3, hk2] at hst
  have HST : Hid (strL (kindN wb2) a3.data.toList b3.data.toList = t.data.toList) := hst
  have hlen := congrArg List.length hst
  rw [strL_kind] at hlen
  simp at hlen
  have ha3s : a3.size ≤ 1048576 := by omega
  have hb3s : b3.size ≤ 1048576 := by omega
  have HB3 : Hid (Below w.heap.size w w3) := HBx.out.trans (hB3.mono HBx.out.size)
  clear ha3 hb3 hB3 hst hk3 hk2 hlen HBx
  have hs3 := HB3.out.size
  go_wp2_with fail
  refine (str11 wb2 a3 b3 _ ha3s hb3s).mono ?_
  rintro e w4 ⟨⟨r4, rfl, hr4⟩, hB4⟩
  obtain rfl : r4 = t := ba_ext' (hr4.trans HST.out)
  have HB4 : Hid (Below w.heap.size w w4) := (HB3.out.alloc hs3 _).trans (hB4.mono (by simp; omega))
  clear hr4 hB4 HST
  go_wp2
  go_ret
  exact ⟨ret_bool (by simp), HB4.out⟩

set_option maxHeartbeats 4000000 in
theorem back_vn (wr : Bool) (v x t : ByteArray) (w : World) (hs : v.size + x.size + t.size ≤ 1048576) (hv : isVar v.data.toList = false) (hok : okL t.data.toList = false) :
    Calls Try.prog 4 #[.bool wr, .string v, .string x, .string t] w fun e w' => e = .returned (.bool true) ∧ Below w.heap.size w w' := by
  have hz : decide (v.size + x.size + t.size ≤ 1048576) = true := decide_eq_true hs
  have HBx : Hid (Below w.heap.size w w) := Below.refl _ _
  go_enter Try.func4, Try.ntmps4
  go_wp2_with (first
    | (go_at_call 8; refine (zzBytes8_any _ _ _ _ _ (by unfold maxLen; omega) (by unfold maxLen; omega) (by unfold maxLen; omega)).mono ?_; rintro e w' ⟨rfl, hw⟩; rw [hw, hz]; clear hw)
    | (go_at_call 9; refine (zz9 _ _ (by omega)).mono ?_; rintro e w' ⟨rfl, hw⟩; rw [hw]; clear hw)
    | (go_at_call 10; refine (zz10 _ _ (by omega)).mono ?_; rintro e w' ⟨rfl, hw⟩; rw [hw]; clear hw))
  refine (parse6 _ _ (by omega)).mono ?_
  rintro e w3 ⟨⟨a3, b3, rfl, ha3, hb3⟩, hB3⟩
  have hk3 : (parseL t.data.toList).2.2.2 = false := hok
  rw [hk3]
  have HB3 : Hid (Below w.heap.size w w3) := HBx.out.trans (hB3.mono HBx.out.size)
  clear ha3 hb3 hB3 hk3 HBx
  have hs3 := HB3.out.size
  go_wp2
  go_ret
  exact ⟨rfl, HB3.out.alloc hs3 _⟩

set_option maxHeartbeats 4000000 in
theorem back_xy (wr : Bool) (v x t : ByteArray) (w : World) (hs : v.size + x.size + t.size ≤ 1048576) (hv : isVar v.data.toList = true) (hx : isVal x.data.toList = false) (hok : okL t.data.toList = true) :
    Calls Try.prog 4 #[.bool wr, .string v, .string x, .string t] w fun e w' => e = .returned (.bool true) ∧ Below w.heap.size w w' := by
  have hz : decide (v.size + x.size + t.size ≤ 1048576) = true := decide_eq_true hs
  have HBx : Hid (Below w.heap.size w w) := Below.refl _ _
  go_enter Try.func4, Try.ntmps4
  go_wp2_with (first
    | (go_at_call 8; refine (zzBytes8_any _ _ _ _ _ (by unfold maxLen; omega) (by unfold maxLen; omega) (by unfold maxLen; omega)).mono ?_; rintro e w' ⟨rfl, hw⟩; rw [hw, hz]; clear hw)
    | (go_at_call 9; refine (zz9 _ _ (by omega)).mono ?_; rintro e w' ⟨rfl, hw⟩; rw [hw]; clear hw)
    | (go_at_call 10; refine (zz10 _ _ (by omega)).mono ?_; rintro e w' ⟨rfl, hw⟩; rw [hw]; clear hw))
  refine (parse6 _ _ (by omega)).mono ?_
  rintro e w3 ⟨⟨a3, b3, rfl, ha3, hb3⟩, hB3⟩
  obtain ⟨hst, wb2, hk2⟩ := str_parse hok
  have hk3 : (parseL t.data.toList).2.2.2 = true := hok
  rw [hk3, hk2]
  rw [← ha3, ← hb3, hk2] at hst
  have HST : Hid (strL (kindN wb2) a3.data.toList b3.data.toList = t.data.toList) := hst
  have hlen := congrArg List.length hst
  rw [strL_kind] at hlen
  simp at hlen
  have ha3s : a3.size ≤ 1048576 := by omega
  have hb3s : b3.size ≤ 1048576 := by omega
  have HB3 : Hid (Below w.heap.size w w3) := HBx.out.trans (hB3.mono HBx.out.size)
  clear ha3 hb3 hB3 hst hk3 hk2 hlen HBx
  have hs3 := HB3.out.size
  go_wp2_with fail
  refine (str11 wb2 a3 b3 _ ha3s hb3s).mono ?_
  rintro e w4 ⟨⟨r4, rfl, hr4⟩, hB4⟩
  obtain rfl : r4 = t := ba_ext' (hr4.trans HST.out)
  have HB4 : Hid (Below w.heap.size w w4) := (HB3.out.alloc hs3 _).trans (hB4.mono (by simp; omega))
  clear hr4 hB4 HST
  go_wp2
  go_ret
  exact ⟨ret_bool (by simp), HB4.out⟩

set_option maxHeartbeats 4000000 in
theorem back_xn (wr : Bool) (v x t : ByteArray) (w : World) (hs : v.size + x.size + t.size ≤ 1048576) (hv : isVar v.data.toList = true) (hx : isVal x.data.toList = false) (hok : okL t.data.toList = false) :
    Calls Try.prog 4 #[.bool wr, .string v, .string x, .string t] w fun e w' => e = .returned (.bool true) ∧ Below w.heap.size w w' := by
  have hz : decide (v.size + x.size + t.size ≤ 1048576) = true := decide_eq_true hs
  have HBx : Hid (Below w.heap.size w w) := Below.refl _ _
  go_enter Try.func4, Try.ntmps4
  go_wp2_with (first
    | (go_at_call 8; refine (zzBytes8_any _ _ _ _ _ (by unfold maxLen; omega) (by unfold maxLen; omega) (by unfold maxLen; omega)).mono ?_; rintro e w' ⟨rfl, hw⟩; rw [hw, hz]; clear hw)
    | (go_at_call 9; refine (zz9 _ _ (by omega)).mono ?_; rintro e w' ⟨rfl, hw⟩; rw [hw]; clear hw)
    | (go_at_call 10; refine (zz10 _ _ (by omega)).mono ?_; rintro e w' ⟨rfl, hw⟩; rw [hw]; clear hw))
  refine (parse6 _ _ (by omega)).mono ?_
  rintro e w3 ⟨⟨a3, b3, rfl, ha3, hb3⟩, hB3⟩
  have hk3 : (parseL t.data.toList).2.2.2 = false := hok
  rw [hk3]
  have HB3 : Hid (Below w.heap.size w w3) := HBx.out.trans (hB3.mono HBx.out.size)
  clear ha3 hb3 hB3 hk3 HBx
  have hs3 := HB3.out.size
  go_wp2
  go_ret
  exact ⟨rfl, HB3.out.alloc hs3 _⟩

theorem law4 (wr : Bool) (v x t : ByteArray) (w : World) (hv : v.size ≤ maxLen) (hx : x.size ≤ maxLen) (ht : t.size ≤ maxLen) :
    Calls Try.prog 4 #[.bool wr, .string v, .string x, .string t] w fun e w' => e = .returned (.bool true) ∧ Below w.heap.size w w' := by
  by_cases hs : v.size + x.size + t.size ≤ 1048576
  · cases hok : okL t.data.toList
    · cases h1 : isVar v.data.toList
      · exact back_vn wr v x t w hs h1 hok
      · cases h2 : isVal x.data.toList
        · exact back_xn wr v x t w hs h1 h2 hok
        · exact back_gn wr v x t w hs h1 h2 hok
    · cases h1 : isVar v.data.toList
      · exact back_vy wr v x t w hs h1 hok
      · cases h2 : isVal x.data.toList
        · exact back_xy wr v x t w hs h1 h2 hok
        · exact back_gy wr v x t w hs h1 h2 hok
  · have HM : Hid (v.size ≤ maxLen ∧ x.size ≤ maxLen ∧ t.size ≤ maxLen) := ⟨hv, hx, ht⟩
    have hz : decide (v.size + x.size + t.size ≤ 1048576) = false := decide_eq_false hs
    clear hv hx ht
    go_enter Try.func4, Try.ntmps4
    go_wp2_with (go_at_call 8; refine (zzBytes8_any _ _ _ _ _ HM.out.1 HM.out.2.1 HM.out.2.2).mono ?_; rintro e w' ⟨rfl, hw⟩; rw [hw, hz]; clear hw)
    go_ret
    exact ⟨rfl, Below.refl _ _⟩
end Go.Proofs.Qxb6605907a
