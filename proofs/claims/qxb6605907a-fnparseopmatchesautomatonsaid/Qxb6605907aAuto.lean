/-
  The walk of FnParseOpMatchesAutomaton.
-/
import Derived.Test.Qxb6605907aModel
namespace Go.Proofs.Qxb6605907a
open Go.RowKit

theorem zzBytes5_any (a : ByteArray) (w : World) (h : a.size ≤ maxLen) :
    Calls Try.prog 5 #[.string a] w fun e w' => e = .returned (.bool (decide (a.size ≤ 1048576))) ∧ w' = w := by
  unfold maxLen at h
  by_cases h1 : a.size ≤ 1048576
  · rw [decide_eq_true h1]
    go_enter Try.func5, Try.ntmps5
    go_wp2
    go_ret
    exact ⟨rfl, rfl⟩
  · rw [decide_eq_false h1]
    go_enter Try.func5, Try.ntmps5
    go_wp2
    go_ret
    exact ⟨rfl, rfl⟩

theorem rest_no {k : Nat} {d : List UInt8} (h : (restL k d).2.2.2 = false) : restL k d = (k, [], [], false) := by
  unfold restL at h ⊢
  split at h
  · cases h
  · rename_i hc; rw [if_neg hc]
theorem parse_no {l : List UInt8} (h : okL l = false) : parseL l = (kindN (Lib.hasPrefix l [119, 40]), [], [], false) := by
  unfold okL at h
  unfold parseL at h ⊢
  cases h1 : Lib.hasPrefix l [119, 40]
  · rw [h1] at h
    cases h2 : Lib.hasPrefix l [114, 40]
    · rfl
    · rw [h2] at h
      exact rest_no h
  · rw [h1] at h
    exact rest_no h
theorem ba_ext {a b : ByteArray} (h : a.data.toList = b.data.toList) : a = b := by
  rw [← Lib.mk_data a, ← Lib.mk_data b, h]
theorem empty_of {a : ByteArray} (h : a.data.toList = []) : a = ⟨#[]⟩ := ba_ext h

set_option maxHeartbeats 2000000 in
theorem auto_yes (s : ByteArray) (w : World) (hs : s.size ≤ 1048576) (hok : okL s.data.toList = true) :
    Calls Try.prog 3 #[.string s] w fun e w' => e = .returned (.bool true) ∧ Below w.heap.size w w' := by
  have hz : decide (s.size ≤ 1048576) = true := decide_eq_true hs
  go_enter Try.func3, Try.ntmps3
  go_wp2_with (go_at_call 5; refine (zzBytes5_any _ _ (by unfold maxLen; omega)).mono ?_; rintro e w' ⟨rfl, hw⟩; rw [hw, hz]; clear hw)
  refine (parse6 _ _ (by omega)).mono ?_
  rintro e w1 ⟨⟨a, b, rfl, ha, hb⟩, hB1⟩
  have HB1 : Hid (Below w.heap.size w w1) := hB1
  have HA : Hid (a.data.toList = (parseL s.data.toList).2.1) := ha
  have HB : Hid (b.data.toList = (parseL s.data.toList).2.2.1) := hb
  have hk3 : (parseL s.data.toList).2.2.2 = true := hok
  rw [hk3]
  obtain ⟨kk, hkk⟩ : ∃ kk : Nat, kk = (parseL s.data.toList).1 := ⟨_, rfl⟩
  rw [← hkk]
  have HK : Hid (kk = (parseL s.data.toList).1) := hkk
  clear hB1 ha hb hk3 hkk
  have hs1 := HB1.out.size
  go_wp2_with fail
  refine (model7 _ _ hs).mono ?_
  rintro e w2 ⟨⟨wb, a2, b2, rfl, h2⟩, hB2⟩
  have hp := h2 hok
  rw [hok]
  have T2 := one_of hB2
  obtain ⟨r0, r1, r2, fr, sz, bl⟩ := T2
  have HB2 : Hid (Below w.heap.size w w2) := HB1.out.trans (bl.mono hs1)
  obtain rfl : a2 = a := ba_ext (by rw [HA.out, hp])
  obtain rfl : b2 = b := ba_ext (by rw [HB.out, hp])
  obtain rfl : kk = kindN wb := by rw [HK.out, hp]
  clear h2 hp hB2 bl HA HB HK
  cases wb
  all_goals
    go_wp2
    go_ret
    exact ⟨rfl, HB2.out.alloc HB2.out.size _⟩

/-- The walk's start where parseOp refuses: shared by the ways of the first two bytes. -/
theorem two_bytes {s : ByteArray} (h : Lib.hasPrefix s.data.toList [119, 40] = true) : ∃ h0 : 1 < s.size, s[0] = 119 ∧ s[1] = 40 := by
  have hl := prefix_two h
  obtain ⟨h1, h2⟩ := (pre_iff _ _ _).1 h
  rw [Lib.data_getElem? s 0 (by omega)] at h1
  rw [Lib.data_getElem? s 1 (by omega)] at h2
  exact ⟨by omega, Option.some.inj h1, Option.some.inj h2⟩

set_option maxHeartbeats 2000000 in
theorem auto_no_w (s : ByteArray) (w : World) (hs : s.size ≤ 1048576) (hok : okL s.data.toList = false) (HP : Hid (parseL s.data.toList = (1, [], [], false))) (hl : 1 < s.size) (h0 : ((s[0].toNat : Int) == 119) = true) (h1 : ((s[1].toNat : Int) == 40) = true) :
    Calls Try.prog 3 #[.string s] w fun e w' => e = .returned (.bool true) ∧ Below w.heap.size w w' := by
  have hz : decide (s.size ≤ 1048576) = true := decide_eq_true hs
  have hl2 : (2 : Int) ≤ (s.size : Int) := by omega
  go_enter Try.func3, Try.ntmps3
  go_wp2_with (go_at_call 5; refine (zzBytes5_any _ _ (by unfold maxLen; omega)).mono ?_; rintro e w' ⟨rfl, hw⟩; rw [hw, hz]; clear hw)
  refine (parse6 _ _ (by omega)).mono ?_
  rintro e w1 ⟨⟨a, b, rfl, ha, hb⟩, hB1⟩
  rw [HP.out] at ha hb ⊢
  obtain rfl := empty_of ha
  obtain rfl := empty_of hb
  have HB1 : Hid (Below w.heap.size w w1) := hB1
  clear hB1 ha hb
  have hs1 := HB1.out.size
  go_wp2_with fail
  refine (model7 _ _ hs).mono ?_
  rintro e w2 ⟨⟨wb, a2, b2, rfl, h2⟩, hB2⟩
  rw [hok]
  have T2 := one_of hB2
  obtain ⟨r0, r1, r2, fr, sz, bl⟩ := T2
  have HB2 : Hid (Below w.heap.size w w2) := HB1.out.trans (bl.mono hs1)
  clear h2 hB2 bl
  go_wp2
  go_ret
  exact ⟨rfl, HB2.out.alloc HB2.out.size _⟩

set_option maxHeartbeats 2000000 in
theorem auto_no_short (s : ByteArray) (w : World) (hs : s.size ≤ 1048576) (hok : okL s.data.toList = false) (HP : Hid (parseL s.data.toList = (0, [], [], false))) (hl : s.size < 2) :
    Calls Try.prog 3 #[.string s] w fun e w' => e = .returned (.bool true) ∧ Below w.heap.size w w' := by
  have hz : decide (s.size ≤ 1048576) = true := decide_eq_true hs
  have hl2 : decide ((2 : Int) ≤ (s.size : Int)) = false := by simp; omega
  go_enter Try.func3, Try.ntmps3
  go_wp2_with (go_at_call 5; refine (zzBytes5_any _ _ (by unfold maxLen; omega)).mono ?_; rintro e w' ⟨rfl, hw⟩; rw [hw, hz]; clear hw)
  refine (parse6 _ _ (by omega)).mono ?_
  rintro e w1 ⟨⟨a, b, rfl, ha, hb⟩, hB1⟩
  rw [HP.out] at ha hb ⊢
  obtain rfl := empty_of ha
  obtain rfl := empty_of hb
  have HB1 : Hid (Below w.heap.size w w1) := hB1
  clear hB1 ha hb
  have hs1 := HB1.out.size
  go_wp2_with fail
  refine (model7 _ _ hs).mono ?_
  rintro e w2 ⟨⟨wb, a2, b2, rfl, h2⟩, hB2⟩
  rw [hok]
  have T2 := one_of hB2
  obtain ⟨r0, r1, r2, fr, sz, bl⟩ := T2
  have HB2 : Hid (Below w.heap.size w w2) := HB1.out.trans (bl.mono hs1)
  clear h2 hB2 bl
  go_wp2
  go_ret
  exact ⟨rfl, HB2.out.alloc HB2.out.size _⟩

set_option maxHeartbeats 2000000 in
theorem auto_no_a (s : ByteArray) (w : World) (hs : s.size ≤ 1048576) (hok : okL s.data.toList = false) (HP : Hid (parseL s.data.toList = (0, [], [], false))) (hl : 1 < s.size) (h0 : ((s[0].toNat : Int) == 119) = false) :
    Calls Try.prog 3 #[.string s] w fun e w' => e = .returned (.bool true) ∧ Below w.heap.size w w' := by
  have hz : decide (s.size ≤ 1048576) = true := decide_eq_true hs
  have hl2 : (2 : Int) ≤ (s.size : Int) := by omega
  go_enter Try.func3, Try.ntmps3
  go_wp2_with (go_at_call 5; refine (zzBytes5_any _ _ (by unfold maxLen; omega)).mono ?_; rintro e w' ⟨rfl, hw⟩; rw [hw, hz]; clear hw)
  refine (parse6 _ _ (by omega)).mono ?_
  rintro e w1 ⟨⟨a, b, rfl, ha, hb⟩, hB1⟩
  rw [HP.out] at ha hb ⊢
  obtain rfl := empty_of ha
  obtain rfl := empty_of hb
  have HB1 : Hid (Below w.heap.size w w1) := hB1
  clear hB1 ha hb
  have hs1 := HB1.out.size
  go_wp2_with fail
  refine (model7 _ _ hs).mono ?_
  rintro e w2 ⟨⟨wb, a2, b2, rfl, h2⟩, hB2⟩
  rw [hok]
  have T2 := one_of hB2
  obtain ⟨r0, r1, r2, fr, sz, bl⟩ := T2
  have HB2 : Hid (Below w.heap.size w w2) := HB1.out.trans (bl.mono hs1)
  clear h2 hB2 bl
  go_wp2
  go_ret
  exact ⟨rfl, HB2.out.alloc HB2.out.size _⟩

set_option maxHeartbeats 2000000 in
theorem auto_no_b (s : ByteArray) (w : World) (hs : s.size ≤ 1048576) (hok : okL s.data.toList = false) (HP : Hid (parseL s.data.toList = (0, [], [], false))) (hl : 1 < s.size) (h0 : ((s[0].toNat : Int) == 119) = true) (h1 : ((s[1].toNat : Int) == 40) = false) :
    Calls Try.prog 3 #[.string s] w fun e w' => e = .returned (.bool true) ∧ Below w.heap.size w w' := by
  have hz : decide (s.size ≤ 1048576) = true := decide_eq_true hs
  have hl2 : (2 : Int) ≤ (s.size : Int) := by omega
  go_enter Try.func3, Try.ntmps3
  go_wp2_with (go_at_call 5; refine (zzBytes5_any _ _ (by unfold maxLen; omega)).mono ?_; rintro e w' ⟨rfl, hw⟩; rw [hw, hz]; clear hw)
  refine (parse6 _ _ (by omega)).mono ?_
  rintro e w1 ⟨⟨a, b, rfl, ha, hb⟩, hB1⟩
  rw [HP.out] at ha hb ⊢
  obtain rfl := empty_of ha
  obtain rfl := empty_of hb
  have HB1 : Hid (Below w.heap.size w w1) := hB1
  clear hB1 ha hb
  have hs1 := HB1.out.size
  go_wp2_with fail
  refine (model7 _ _ hs).mono ?_
  rintro e w2 ⟨⟨wb, a2, b2, rfl, h2⟩, hB2⟩
  rw [hok]
  have T2 := one_of hB2
  obtain ⟨r0, r1, r2, fr, sz, bl⟩ := T2
  have HB2 : Hid (Below w.heap.size w w2) := HB1.out.trans (bl.mono hs1)
  clear h2 hB2 bl
  go_wp2
  go_ret
  exact ⟨rfl, HB2.out.alloc HB2.out.size _⟩

theorem law3 (s : ByteArray) (w : World) (h : s.size ≤ maxLen) :
    Calls Try.prog 3 #[.string s] w fun e w' => e = .returned (.bool true) ∧ Below w.heap.size w w' := by
  by_cases hs : s.size ≤ 1048576
  · cases hok : okL s.data.toList
    · have HP := parse_no hok
      cases hp : Lib.hasPrefix s.data.toList [119, 40]
      · rw [hp] at HP
        by_cases hl : 1 < s.size
        · by_cases h0 : s[0] = 119
          · refine auto_no_b s w hs hok HP hl (by rw [h0]; rfl) ?_
            have : ¬ s[1] = 40 := fun e => by
              have := (pre_iff s.data.toList 119 40).2 ⟨by rw [Lib.data_getElem? s 0 (by omega), h0], by rw [Lib.data_getElem? s 1 hl, e]⟩
              rw [hp] at this
              cases this
            simp; intro h; exact this (UInt8.toNat_inj.1 (by simpa using (by omega : s[1].toNat = 40)))
          · refine auto_no_a s w hs hok HP hl ?_
            simp; intro h; exact h0 (UInt8.toNat_inj.1 (by simpa using (by omega : s[0].toNat = 119)))
        · exact auto_no_short s w hs hok HP (by omega)
      · rw [hp] at HP
        obtain ⟨hl, h0, h1⟩ := two_bytes hp
        exact auto_no_w s w hs hok HP hl (by rw [h0]; rfl) (by rw [h1]; rfl)
    · exact auto_yes s w hs hok
  · have HM : Hid (s.size ≤ maxLen) := h
    have hz : decide (s.size ≤ 1048576) = false := decide_eq_false hs
    go_enter Try.func3, Try.ntmps3
    go_wp2_with (go_at_call 5; refine (zzBytes5_any _ _ HM.out).mono ?_; rintro e w' ⟨rfl, hw⟩; rw [hw, hz]; clear hw)
    go_ret
    exact ⟨rfl, Below.refl _ _⟩
end Go.Proofs.Qxb6605907a
