/-
  The walk of FnSplitRebuildsItsInput.
-/
import Derived.Test.Qxb6605318aCount
namespace Go.Proofs.Qxb6605318a
open Go.RowKit

theorem cf_empty (d : ByteArray) (w : World) (h0 : d.size = 0) :
    Calls Try.prog 12 #[.string d] w fun e w' => e = .returned (.bool (bodyL d.data.toList).2.2) ∧ w' = w := by
  have HB : Hid ((bodyL d.data.toList).2.2 = false) := by
    have : d.data.toList = [] := List.eq_nil_of_length_eq_zero (by rw [← Lib.size_eq]; exact h0)
    show _ = _
    rw [this]
    rfl
  have hg : decide ((0 : Int) < (d.size : Int)) = false := by rw [h0]; rfl
  have hz : ((d.size : Int) == 0) = true := by rw [h0]; rfl
  clear h0
  go_enter Try.func12, Try.ntmps12
  go_wp2
  go_ret
  exact ⟨ret_bool (by rw [HB.out]), rfl⟩

theorem cf12 (s : ByteArray) (w : World) (hs : s.size ≤ 1048576) :
    Calls Try.prog 12 #[.string s] w fun e w' => e = .returned (.bool (splitL s.data.toList).2.2) ∧ w' = w := by
  unfold splitL
  cases hp : Lib.hasPrefix s.data.toList [45]
  · rw [trim_same hp]
    by_cases h0 : 0 < s.size
    · refine cf_plain s w hs h0 ?_
      have hne : ¬ s[0] = 45 := fun e => by rw [(prefix_iff s).2 ⟨h0, e⟩] at hp; cases hp
      simp; intro h; exact hne (UInt8.toNat_inj.1 (by simpa using (by omega : s[0].toNat = 45)))
    · exact cf_empty s w (by omega)
  · obtain ⟨h0, h1⟩ := (prefix_iff s).1 hp
    rw [← trim_drop hp]
    exact cf_minus s _ w hs h0 (by rw [h1]; rfl) rfl

set_option maxHeartbeats 1000000 in
/-- allDigitBytes, where all are digits. -/
theorem allDig13 (s : ByteArray) (w : World) (hs : s.size ≤ 1048576) (h : s.data.toList.all isDig = true) :
    Calls Try.prog 13 #[.string s] w fun e w' => e = .returned (.bool true) ∧ w' = w := by
  have HA : Hid (s.data.toList.all isDig = true) := h
  clear h
  go_enter Try.func13, Try.ntmps13
  go_wp2
  go_loop [2, 3] (fun _ i => ∃ k : Nat, k ≤ s.size ∧ i = .int .i64 k) (fun _ i => s.size - (intOf i).toNat)
  case atStart => exact ⟨0, Nat.zero_le _, rfl⟩
  case round =>
    obtain ⟨k, hk, rfl⟩ := hrel
    by_cases hlt : k < s.size
    · have hdig : isDig s[k] = true := List.all_eq_true.1 HA.out s[k] (List.mem_of_getElem? (Lib.data_getElem? s k hlt))
      go_wp2_with (go_at_call 15; refine (isDigByte15 _ _).mono ?_; rintro e w' ⟨rfl, hw⟩; rw [hw]; clear hw)
      go_round
      case rel => exact ⟨k + 1, by omega, by go_num⟩
      case measure => simp [intOf]; omega
    · go_wp2
      go_ret
      exact ⟨rfl, rfl⟩

theorem zzBytes11_any (a : ByteArray) (w : World) (h : a.size ≤ maxLen) :
    Calls Try.prog 11 #[.string a] w fun e w' => e = .returned (.bool (decide (a.size ≤ 1048576))) ∧ w' = w := by
  unfold maxLen at h
  by_cases h1 : a.size ≤ 1048576
  · rw [decide_eq_true h1]
    go_enter Try.func11, Try.ntmps11
    go_wp2
    go_ret
    exact ⟨rfl, rfl⟩
  · rw [decide_eq_false h1]
    go_enter Try.func11, Try.ntmps11
    go_wp2
    go_ret
    exact ⟨rfl, rfl⟩

/-- What Split's yes says: the parts are digits, and they give the text back. -/
theorem split_yes {l a b : List UInt8} (h : (splitL l).2.2 = true) (ha : a = (splitL l).1) (hb : b = (splitL l).2.1) :
    a ≠ [] ∧ a.all isDig = true ∧ b.all isDig = true ∧ l = sgn l ++ a ++ (if b = [] then [] else 46 :: b) := by
  unfold splitL bodyL at h ha hb
  split at h
  · rename_i hc
    rw [if_pos hc] at ha hb
    simp only [Bool.and_eq_true, Bool.or_eq_true, Bool.not_eq_true'] at hc
    obtain ⟨h1, h2⟩ := hc
    rw [← ha] at h1
    rw [digs_iff] at h1
    have hj : l = sgn l ++ ((dotCut (Lib.trimPrefix l [45])).1 ++ (if (dotCut (Lib.trimPrefix l [45])).2.2 = true then 46 :: (dotCut (Lib.trimPrefix l [45])).2.1 else [])) := by
      rw [dot_join, sgn_trim]
    refine ⟨h1.1, List.all_eq_true.2 h1.2, ?_, ?_⟩
    · rcases h2 with h2 | h2
      · have : b = [] := by
          rw [hb]
          have hge := Lib.indexByte_ge (Lib.trimPrefix l [45]) 46
          by_cases h3 : Lib.indexByte (Lib.trimPrefix l [45]) 46 = -1
          · rw [dotCut_none h3]
          · obtain ⟨i, hi⟩ : ∃ i : Nat, Lib.indexByte (Lib.trimPrefix l [45]) 46 = (i : Int) := ⟨(Lib.indexByte (Lib.trimPrefix l [45]) 46).toNat, by omega⟩
            rw [dotCut_some hi] at h2
            cases h2
        rw [this]
        rfl
      · rw [digs_iff] at h2
        rw [hb]
        exact List.all_eq_true.2 h2.2
    · conv => lhs; rw [hj]
      rw [ha, List.append_assoc]
      congr 2
      rcases h2 with h2 | h2
      · have : b = [] := by
          rw [hb]
          have hge := Lib.indexByte_ge (Lib.trimPrefix l [45]) 46
          by_cases h3 : Lib.indexByte (Lib.trimPrefix l [45]) 46 = -1
          · rw [dotCut_none h3]
          · obtain ⟨i, hi⟩ : ∃ i : Nat, Lib.indexByte (Lib.trimPrefix l [45]) 46 = (i : Int) := ⟨(Lib.indexByte (Lib.trimPrefix l [45]) 46).toNat, by omega⟩
            rw [dotCut_some hi] at h2
            cases h2
        rw [this, h2]
        rfl
      · rw [digs_iff] at h2
        have hpt : (dotCut (Lib.trimPrefix l [45])).2.2 = true := by
          cases hh : (dotCut (Lib.trimPrefix l [45])).2.2
          · exfalso
            apply h2.1
            have hge := Lib.indexByte_ge (Lib.trimPrefix l [45]) 46
            by_cases h3 : Lib.indexByte (Lib.trimPrefix l [45]) 46 = -1
            · rw [dotCut_none h3]
            · obtain ⟨i, hi⟩ : ∃ i : Nat, Lib.indexByte (Lib.trimPrefix l [45]) 46 = (i : Int) := ⟨(Lib.indexByte (Lib.trimPrefix l [45]) 46).toNat, by omega⟩
              rw [dotCut_some hi] at hh
              cases hh
          · rfl
        rw [hpt, if_pos rfl, ← hb, if_neg (by rw [hb]; exact h2.1)]
  · cases h
theorem split_no {l a b : List UInt8} (h : (splitL l).2.2 = false) (ha : a = (splitL l).1) (hb : b = (splitL l).2.1) : a = [] ∧ b = [] := by
  unfold splitL bodyL at h ha hb
  split at h
  · cases h
  · rename_i hc
    rw [if_neg hc] at ha hb
    exact ⟨ha, hb⟩

theorem str_eq {a b : ByteArray} (h : a.data.toList = b.data.toList) : (a.toList == b.toList) = true := by
  rw [Lib.toList_data, Lib.toList_data, h]; simp

set_option maxHeartbeats 2000000 in
theorem rebuild_yes (s : ByteArray) (w : World) (hs : s.size ≤ 1048576) (hok : (splitL s.data.toList).2.2 = true) :
    Calls Try.prog 4 #[.string s] w fun e w' => e = .returned (.bool true) ∧ Below w.heap.size w w' := by
  have hz : decide (s.size ≤ 1048576) = true := decide_eq_true hs
  go_enter Try.func4, Try.ntmps4
  go_wp2_with (first
    | (go_at_call 11; refine (zzBytes11_any _ _ (by unfold maxLen; omega)).mono ?_; rintro e w' ⟨rfl, hw⟩; rw [hw, hz]; clear hw)
    | (go_at_call 9; refine (split9 _ _ hs).mono ?_; rintro e w1 ⟨⟨a1, b1, rfl, ha1, hb1⟩, hB1⟩; rw [hok]; have HA1 : Hid (a1.data.toList = (splitL s.data.toList).1) := ha1; have HB1 : Hid (b1.data.toList = (splitL s.data.toList).2.1) := hb1; clear ha1 hb1))
  obtain ⟨y1, y2, y3, y4⟩ := split_yes hok HA1.out HB1.out
  have hne : a1.toList.isEmpty = false := by rw [Lib.toList_data, List.isEmpty_eq_false_iff]; exact y1
  have HY2 : Hid (a1.data.toList.all isDig = true) := y2
  have HY3 : Hid (b1.data.toList.all isDig = true) := y3
  have HY4 : Hid (s.data.toList = sgn s.data.toList ++ a1.data.toList ++ (if b1.data.toList = [] then [] else 46 :: b1.data.toList)) := y4
  have hlen := congrArg List.length y4
  have hp1 : 0 < a1.data.toList.length := List.length_pos_iff.2 y1
  have h0 : 0 < s.size := by
    rw [Lib.size_eq, hlen, List.length_append, List.length_append]
    omega
  have h0' : (0 : Int) < (s.size : Int) := by omega
  have ha1s : a1.size ≤ 1048576 := by
    rw [Lib.size_eq] at hs
    rw [hlen, List.length_append, List.length_append] at hs
    rw [Lib.size_eq]
    omega
  have hb1s : b1.size ≤ 1048576 := by
    by_cases hb : b1.data.toList = []
    · rw [Lib.size_eq, hb]; simp
    · rw [Lib.size_eq] at hs
      rw [hlen, List.length_append, List.length_append, if_neg hb, List.length_cons] at hs
      rw [Lib.size_eq]
      omega
  have HSG : Hid (sgn s.data.toList = if s[0] = 45 then [45] else []) := by
    show _ = _
    unfold sgn
    by_cases he : s[0] = 45
    · rw [if_pos ((prefix_iff s).2 ⟨h0, he⟩), if_pos he]
    · rw [if_neg (fun hp => he ((prefix_iff s).1 hp).2), if_neg he]
  clear y1 y2 y3 y4 hlen hp1
  refine (cf12 _ _ hs).mono ?_
  rintro e w2 ⟨rfl, hw⟩
  rw [hw, hok]
  clear hw
  by_cases hb : b1.data.toList = []
  · have hbe : b1.toList.isEmpty = true := by rw [Lib.toList_data, hb]; rfl
    have HBE : Hid (b1.data.toList = []) := hb
    clear hb
    by_cases hm : s[0] = 45
    · have hmd : ((s[0].toNat : Int) == 45) = true := by rw [hm]; rfl
      have HE : Hid (s.data.toList = 45 :: a1.data.toList) := by show _ = _; rw [HY4.out, HSG.out, if_pos hm, if_pos HBE.out]; simp
      clear hm
      go_wp2_with fail
      refine (allDig13 a1 _ ha1s HY2.out).mono ?_
      rintro e w3 ⟨rfl, hw3⟩
      rw [hw3]
      clear hw3
      go_wp2_with fail
      refine (allDig13 b1 _ hb1s HY3.out).mono ?_
      rintro e w4 ⟨rfl, hw4⟩
      rw [hw4]
      clear hw4
      go_wp2
      go_ret
      exact ⟨ret_bool (str_eq (by rw [HE.out]; simp)), hB1⟩
    · have hmd : ((s[0].toNat : Int) == 45) = false := by
        simp; intro h; exact hm (UInt8.toNat_inj.1 (by simpa using (by omega : s[0].toNat = 45)))
      have HE : Hid (s.data.toList = a1.data.toList) := by show _ = _; rw [HY4.out, HSG.out, if_neg hm, if_pos HBE.out]; simp
      clear hm
      go_wp2_with fail
      refine (allDig13 a1 _ ha1s HY2.out).mono ?_
      rintro e w3 ⟨rfl, hw3⟩
      rw [hw3]
      clear hw3
      go_wp2_with fail
      refine (allDig13 b1 _ hb1s HY3.out).mono ?_
      rintro e w4 ⟨rfl, hw4⟩
      rw [hw4]
      clear hw4
      go_wp2
      go_ret
      exact ⟨ret_bool (str_eq (by rw [HE.out]; simp)), hB1⟩
  · have hbe : b1.toList.isEmpty = false := by rw [Lib.toList_data, List.isEmpty_eq_false_iff]; exact hb
    have HBE : Hid (¬ b1.data.toList = []) := hb
    clear hb
    by_cases hm : s[0] = 45
    · have hmd : ((s[0].toNat : Int) == 45) = true := by rw [hm]; rfl
      have HE : Hid (s.data.toList = 45 :: a1.data.toList ++ 46 :: b1.data.toList) := by show _ = _; rw [HY4.out, HSG.out, if_pos hm, if_neg HBE.out]; simp
      clear hm
      go_wp2_with fail
      refine (allDig13 a1 _ ha1s HY2.out).mono ?_
      rintro e w3 ⟨rfl, hw3⟩
      rw [hw3]
      clear hw3
      go_wp2_with fail
      refine (allDig13 b1 _ hb1s HY3.out).mono ?_
      rintro e w4 ⟨rfl, hw4⟩
      rw [hw4]
      clear hw4
      go_wp2
      go_ret
      exact ⟨ret_bool (str_eq (by rw [HE.out]; simp)), hB1⟩
    · have hmd : ((s[0].toNat : Int) == 45) = false := by
        simp; intro h; exact hm (UInt8.toNat_inj.1 (by simpa using (by omega : s[0].toNat = 45)))
      have HE : Hid (s.data.toList = a1.data.toList ++ 46 :: b1.data.toList) := by show _ = _; rw [HY4.out, HSG.out, if_neg hm, if_neg HBE.out]; simp
      clear hm
      go_wp2_with fail
      refine (allDig13 a1 _ ha1s HY2.out).mono ?_
      rintro e w3 ⟨rfl, hw3⟩
      rw [hw3]
      clear hw3
      go_wp2_with fail
      refine (allDig13 b1 _ hb1s HY3.out).mono ?_
      rintro e w4 ⟨rfl, hw4⟩
      rw [hw4]
      clear hw4
      go_wp2
      go_ret
      exact ⟨ret_bool (str_eq (by rw [HE.out]; simp)), hB1⟩

set_option maxHeartbeats 2000000 in
theorem rebuild_no (s : ByteArray) (w : World) (hs : s.size ≤ 1048576) (hok : (splitL s.data.toList).2.2 = false) :
    Calls Try.prog 4 #[.string s] w fun e w' => e = .returned (.bool true) ∧ Below w.heap.size w w' := by
  have hz : decide (s.size ≤ 1048576) = true := decide_eq_true hs
  go_enter Try.func4, Try.ntmps4
  go_wp2_with (first
    | (go_at_call 11; refine (zzBytes11_any _ _ (by unfold maxLen; omega)).mono ?_; rintro e w' ⟨rfl, hw⟩; rw [hw, hz]; clear hw)
    | (go_at_call 9; refine (split9 _ _ hs).mono ?_; rintro e w1 ⟨⟨a1, b1, rfl, ha1, hb1⟩, hB1⟩; rw [hok]; have HA1 : Hid (a1.data.toList = (splitL s.data.toList).1) := ha1; have HB1 : Hid (b1.data.toList = (splitL s.data.toList).2.1) := hb1; clear ha1 hb1))
  obtain ⟨y1, y2⟩ := split_no hok HA1.out HB1.out
  have hae : a1.toList.isEmpty = true := by rw [Lib.toList_data, y1]; rfl
  have hbe : b1.toList.isEmpty = true := by rw [Lib.toList_data, y2]; rfl
  clear y1 y2
  refine (cf12 _ _ hs).mono ?_
  rintro e w2 ⟨rfl, hw⟩
  rw [hw, hok]
  clear hw
  go_wp2
  go_ret
  exact ⟨rfl, hB1⟩

theorem law4 (s : ByteArray) (w : World) (h : s.size ≤ maxLen) :
    Calls Try.prog 4 #[.string s] w fun e w' => e = .returned (.bool true) ∧ Below w.heap.size w w' := by
  by_cases hs : s.size ≤ 1048576
  · cases hok : (splitL s.data.toList).2.2
    · exact rebuild_no s w hs hok
    · exact rebuild_yes s w hs hok
  · have HM : Hid (s.size ≤ maxLen) := h
    have hz : decide (s.size ≤ 1048576) = false := decide_eq_false hs
    go_enter Try.func4, Try.ntmps4
    go_wp2_with (go_at_call 11; refine (zzBytes11_any _ _ HM.out).mono ?_; rintro e w' ⟨rfl, hw⟩; rw [hw, hz]; clear hw)
    go_ret
    exact ⟨rfl, Below.refl _ _⟩
end Go.Proofs.Qxb6605318a
