/-
  splitCountForm: the plain law and the walk.
-/
import Derived.Test.Qxb6605318aScan
import Derived.Deep.Cut
namespace Go.Proofs.Qxb6605318a
open Go.RowKit

def odd46 (b : UInt8) : Bool := b != 46 && !isDig b
def nd (d : List UInt8) (k : Nat) : Nat := (d.take k).count 46
def no (d : List UInt8) (k : Nat) : Nat := ((d.take k).filter odd46).length

theorem no_zero {d : List UInt8} : (d.filter odd46).length = 0 ↔ ∀ b ∈ d, b = 46 ∨ isDig b = true := by
  rw [List.length_eq_zero_iff, List.filter_eq_nil_iff]
  constructor
  · intro h b hb
    have := h b hb
    unfold odd46 at this
    simp at this
    by_cases hb46 : b = 46
    · exact .inl hb46
    · exact .inr (this hb46)
  · intro h b hb
    unfold odd46
    rcases h b hb with h1 | h1
    · simp [h1]
    · simp [h1]

theorem digs_iff {l : List UInt8} : digs l = true ↔ l ≠ [] ∧ ∀ b ∈ l, isDig b = true := by
  unfold digs
  rw [Bool.and_eq_true, List.all_eq_true]
  cases l <;> simp

/-- Split accepts just where the counts say so. -/
theorem count_form (d : List UInt8) (h0 : d ≠ []) : (bodyL d).2.2 = true ↔ ((d.filter odd46).length = 0 ∧ d.count 46 ≤ 1 ∧ d.head h0 ≠ 46 ∧ d.getLast h0 ≠ 46) := by
  have hge := Lib.indexByte_ge d 46
  have hb : (bodyL d).2.2 = (digs (dotCut d).1 && (!(dotCut d).2.2 || digs (dotCut d).2.1)) := by
    unfold bodyL
    split <;> simp_all
  rw [hb, no_zero]
  by_cases h : Lib.indexByte d 46 = -1
  · rw [dotCut_none h]
    have hn : ∀ b ∈ d, b ≠ 46 := by
      intro b hb e
      obtain ⟨i, hi⟩ := List.mem_iff_getElem?.1 hb
      exact Lib.indexByte_none h i (by rw [hi, e])
    simp only [Bool.not_false, Bool.true_or, Bool.and_true]
    rw [digs_iff]
    constructor
    · rintro ⟨_, h2⟩
      refine ⟨fun b hb => .inr (h2 b hb), ?_, hn _ (List.head_mem _), hn _ (List.getLast_mem _)⟩
      rw [List.count_eq_zero.2 (fun hm => hn 46 hm rfl)]
      omega
    · rintro ⟨h2, _⟩
      exact ⟨h0, fun b hb => (h2 b hb).resolve_left (hn b hb)⟩
  · obtain ⟨i, hi⟩ : ∃ i : Nat, Lib.indexByte d 46 = (i : Int) := ⟨(Lib.indexByte d 46).toNat, by omega⟩
    obtain ⟨h1, h2⟩ := Lib.indexByte_some hi
    obtain ⟨hlt, he⟩ := List.getElem?_eq_some_iff.1 h1
    rw [dotCut_some hi]
    obtain ⟨w, f, hd, hw, hf⟩ : ∃ w f, d = w ++ 46 :: f ∧ w = d.take i ∧ f = d.drop (i + 1) :=
      ⟨d.take i, d.drop (i + 1), by rw [← he, ← List.drop_eq_getElem_cons hlt, List.take_append_drop], rfl, rfl⟩
    have hwn : ∀ b ∈ w, b ≠ 46 := by
      intro b hb e
      rw [hw] at hb
      obtain ⟨j, hj⟩ := List.mem_iff_getElem?.1 hb
      rw [List.getElem?_take] at hj
      split at hj
      · exact h2 j (by assumption) (by rw [hj, e])
      · cases hj
    show (digs (d.take i) && (!true || digs (d.drop (i + 1)))) = true ↔ _
    rw [← hw, ← hf]
    simp only [Bool.not_true, Bool.false_or, Bool.and_eq_true]
    rw [digs_iff, digs_iff]
    subst hd
    have hc : (w ++ 46 :: f).count 46 = 1 + f.count 46 := by
      rw [List.count_append, List.count_cons_self, List.count_eq_zero.2 (fun hm => hwn 46 hm rfl)]
      omega
    rw [hc]
    constructor
    · rintro ⟨⟨a1, a2⟩, a3, a4⟩
      refine ⟨?_, ?_, ?_, ?_⟩
      · intro b hb
        rw [List.mem_append, List.mem_cons] at hb
        rcases hb with hb | hb | hb
        · exact .inr (a2 b hb)
        · exact .inl hb
        · exact .inr (a4 b hb)
      · rw [List.count_eq_zero.2 (fun hm => dig_not_dot (a4 46 hm) rfl)]
        omega
      · rw [List.head_append_of_ne_nil a1]
        exact hwn _ (List.head_mem _)
      · rw [List.getLast_append_of_ne_nil _ (by simp), List.getLast_cons a3]
        exact dig_not_dot (a4 _ (List.getLast_mem _))
    · rintro ⟨b1, b2, b3, b4⟩
      have hf0 : ∀ b ∈ f, b ≠ 46 := by
        intro b hb e
        have : f.count 46 = 0 := by omega
        exact (List.count_eq_zero.1 this) (e ▸ hb)
      refine ⟨⟨?_, fun b hb => (b1 b (by rw [List.mem_append]; exact .inl hb)).resolve_left (hwn b hb)⟩, ?_, fun b hb => (b1 b (by rw [List.mem_append, List.mem_cons]; exact .inr (.inr hb))).resolve_left (hf0 b hb)⟩
      · intro e
        subst e
        exact b3 rfl
      · intro e
        subst e
        exact b4 (by simp)

-- THE WALK
theorem nd_snoc {d : ByteArray} {k : Nat} (hk : k < d.size) : nd d.data.toList (k + 1) = nd d.data.toList k + (if d[k] = 46 then 1 else 0) := by
  unfold nd
  rw [take_snoc_b d k hk, List.count_append, List.count_singleton]
  simp
theorem no_snoc {d : ByteArray} {k : Nat} (hk : k < d.size) : no d.data.toList (k + 1) = no d.data.toList k + (if odd46 d[k] = true then 1 else 0) := by
  unfold no
  rw [take_snoc_b d k hk, List.filter_append, List.length_append]
  by_cases h : odd46 d[k] = true
  · simp [h]
  · simp [h]
theorem nd_le (l : List UInt8) (k : Nat) : nd l k ≤ k := Nat.le_trans List.count_le_length (List.length_take_le _ _)
theorem no_le (l : List UInt8) (k : Nat) : no l k ≤ k := Nat.le_trans (List.length_filter_le _ _) (List.length_take_le _ _)

/-- The count's verdict in the walk's words. -/
theorem verdict {d : ByteArray} {x y : Nat} (h0 : 0 < d.size) (hx : x = nd d.data.toList d.size) (hy : y = no d.data.toList d.size) :
    (bodyL d.data.toList).2.2 = true ↔ (y = 0 ∧ x ≤ 1 ∧ d[0] ≠ 46 ∧ d[d.size - 1] ≠ 46) := by
  have hne : d.data.toList ≠ [] := List.ne_nil_of_length_pos (by rw [← Lib.size_eq]; exact h0)
  rw [count_form _ hne]
  have e1 : nd d.data.toList d.size = d.data.toList.count 46 := by unfold nd; rw [Lib.size_eq, List.take_length]
  have e2 : no d.data.toList d.size = (d.data.toList.filter odd46).length := by unfold no; rw [Lib.size_eq, List.take_length]
  have e3 : d.data.toList.head hne = d[0] := by
    have := Lib.data_getElem? d 0 h0
    rw [← List.head?_eq_getElem?, List.head?_eq_some_head hne] at this
    exact Option.some.inj this
  have e4 : d.data.toList.getLast hne = d[d.size - 1] := by
    have := Lib.data_getElem? d (d.size - 1) (by omega)
    have h5 := List.getLast?_eq_some_getLast hne
    rw [List.getLast?_eq_getElem?, ← Lib.size_eq, this] at h5
    exact (Option.some.inj h5).symm
  rw [hx, hy, e1, e2, e3, e4]

set_option maxHeartbeats 4000000 in
theorem cf_minus (s d : ByteArray) (w : World) (hs : s.size ≤ 1048576) (h0 : 0 < s.size) (hm : ((s[0].toNat : Int) == 45) = true) (HD : Hid (s.extract 1 s.size = d)) :
    Calls Try.prog 12 #[.string s] w fun e w' => e = .returned (.bool (bodyL d.data.toList).2.2) ∧ w' = w := by
  have hds : d.size ≤ 1048576 := by have := congrArg ByteArray.size HD.out; simp at this; omega
  have h0' : (0 : Int) < (s.size : Int) := by omega
  have hsz : s.size - 1 = d.size := by have := congrArg ByteArray.size HD.out; simpa using this
  have HZ : Hid (s.size - 1 = d.size) := hsz
  clear hsz
  go_enter Try.func12, Try.ntmps12
  go_upto_region 4 with fail
  rw [HD.out]
  clear hm
  by_cases hd0 : d.size = 0
  · have HB : Hid ((bodyL d.data.toList).2.2 = false) := by
      have : d.data.toList = [] := List.eq_nil_of_length_eq_zero (by rw [← Lib.size_eq]; exact hd0)
      show _ = _
      rw [this]
      rfl
    have hz : ((d.size : Int) == 0) = true := by rw [hd0]; rfl
    clear hd0
    go_wp2
    go_ret
    exact ⟨ret_bool (by rw [HB.out]), rfl⟩
  · have hz : ((d.size : Int) == 0) = false := beq_eq_false_iff_ne.2 (by omega)
    have hdp : 0 < d.size := by omega
    have hdp' : (0 : Int) < (d.size : Int) := by omega
    clear hd0
    go_wp2
    go_loop [4, 5, 6, 7] (fun xv yv iv _ => ∃ k x y : Nat, k ≤ d.size ∧ iv = .int .i64 k ∧ xv = .int .i64 x ∧ yv = .int .i64 y ∧ Hid (x = nd d.data.toList k) ∧ Hid (y = no d.data.toList k)) (fun _ _ iv _ => d.size - (intOf iv).toNat)
    case atStart => exact ⟨0, 0, 0, Nat.zero_le _, rfl, rfl, rfl, rfl, rfl⟩
    case round =>
      obtain ⟨k, x, y, hk, rfl, rfl, rfl, HX, HY⟩ := hrel
      have hx1 := nd_le d.data.toList k
      rw [← HX.out] at hx1
      have hy1 := no_le d.data.toList k
      rw [← HY.out] at hy1
      by_cases hlt : k < d.size
      · have hsx := nd_snoc hlt
        have hsy := no_snoc hlt
        by_cases h46 : d[k] = 46
        · have HX' : Hid (x + 1 = nd d.data.toList (k + 1)) := by show _ = _; rw [hsx, if_pos h46, HX.out]
          have HY' : Hid (y = no d.data.toList (k + 1)) := by show _ = _; rw [hsy, h46, HY.out] <;> rfl
          have hd2 : ((d[k].toNat : Int) == 46) = true := by rw [h46]; rfl
          clear hsx hsy h46 HX HY
          go_wp2
          go_round
          case rel => exact ⟨k + 1, x + 1, y, by omega, by go_num, by go_num, rfl, HX', HY'⟩
          case measure => simp [intOf]; omega
        · have HX' : Hid (x = nd d.data.toList (k + 1)) := by show _ = _; rw [hsx, if_neg h46, HX.out] <;> rfl
          have hd2 : ((d[k].toNat : Int) == 46) = false := by
            simp; intro h; exact h46 (UInt8.toNat_inj.1 (by simpa using (by omega : d[k].toNat = 46)))
          cases hdig : isDig d[k]
          · have HY' : Hid (y + 1 = no d.data.toList (k + 1)) := by show _ = _; rw [hsy, if_pos (by unfold odd46; simp [hdig, h46]), HY.out]
            clear hsx hsy h46 HX HY
            go_wp2_with (go_at_call 15; refine (isDigByte15 _ _).mono ?_; rintro e w' ⟨rfl, hw⟩; rw [hw]; clear hw)
            go_round
            case rel => exact ⟨k + 1, x, y + 1, by omega, by go_num, rfl, by go_num, HX', HY'⟩
            case measure => simp [intOf]; omega
          · have HY' : Hid (y = no d.data.toList (k + 1)) := by show _ = _; rw [hsy, if_neg (by unfold odd46; simp [hdig]), HY.out] <;> rfl
            clear hsx hsy h46 HX HY
            go_wp2_with (go_at_call 15; refine (isDigByte15 _ _).mono ?_; rintro e w' ⟨rfl, hw⟩; rw [hw]; clear hw)
            go_round
            case rel => exact ⟨k + 1, x, y, by omega, by go_num, rfl, rfl, HX', HY'⟩
            case measure => simp [intOf]; omega
      · have hke : k = d.size := by omega
        have hv := verdict (x := x) (y := y) hdp (by rw [← hke]; exact HX.out) (by rw [← hke]; exact HY.out)
        clear hke HX HY
        by_cases hy0 : y = 0
        · by_cases hx2 : x ≤ 1
          · by_cases hf : d[0] = 46
            · have HB : Hid ((bodyL d.data.toList).2.2 = false) := by
                show _ = _
                cases hb : (bodyL d.data.toList).2.2
                · rfl
                · exact absurd hf (hv.1 hb).2.2.1
              have h1 : ((y : Int) == 0) = true := by rw [hy0]; rfl
              have h2 : (x : Int) ≤ 1 := by omega
              have h3 : ((d[0].toNat : Int) != 46) = false := by rw [hf]; rfl
              clear hv hf hy0
              go_wp2
              go_ret
              exact ⟨ret_bool (by rw [HB.out]), rfl⟩
            · have h1 : ((y : Int) == 0) = true := by rw [hy0]; rfl
              have h2 : (x : Int) ≤ 1 := by omega
              have h3 : ((d[0].toNat : Int) != 46) = true := by
                simp; intro h; exact hf (UInt8.toNat_inj.1 (by simpa using (by omega : d[0].toNat = 46)))
              by_cases hl : d[d.size - 1] = 46
              · have HB : Hid ((bodyL d.data.toList).2.2 = false) := by
                  show _ = _
                  cases hb : (bodyL d.data.toList).2.2
                  · rfl
                  · exact absurd hl (hv.1 hb).2.2.2
                have h4 : ((d[d.size - 1].toNat : Int) != 46) = false := by rw [hl]; rfl
                clear hv hf hl hy0
                go_wp2
                go_ret
                exact ⟨ret_bool (by rw [HB.out]), rfl⟩
              · have HB : Hid ((bodyL d.data.toList).2.2 = true) := hv.2 ⟨hy0, hx2, hf, hl⟩
                have h4 : ((d[d.size - 1].toNat : Int) != 46) = true := by
                  simp; intro h; exact hl (UInt8.toNat_inj.1 (by simpa using (by omega : d[d.size - 1].toNat = 46)))
                clear hv hf hl hy0
                go_wp2
                go_ret
                exact ⟨ret_bool (by rw [HB.out]), rfl⟩
          · have HB : Hid ((bodyL d.data.toList).2.2 = false) := by
              show _ = _
              cases hb : (bodyL d.data.toList).2.2
              · rfl
              · exact absurd (hv.1 hb).2.1 hx2
            have h1 : ((y : Int) == 0) = true := by rw [hy0]; rfl
            have h2 : decide ((x : Int) ≤ 1) = false := by simp; omega
            clear hv hy0
            go_wp2
            go_ret
            exact ⟨ret_bool (by rw [HB.out]), rfl⟩
        · have HB : Hid ((bodyL d.data.toList).2.2 = false) := by
            show _ = _
            cases hb : (bodyL d.data.toList).2.2
            · rfl
            · exact absurd (hv.1 hb).1 hy0
          have h1 : ((y : Int) == 0) = false := by simp; omega
          clear hv
          go_wp2
          go_ret
          exact ⟨ret_bool (by rw [HB.out]), rfl⟩

set_option maxHeartbeats 4000000 in
theorem cf_plain (d : ByteArray) (w : World) (hds : d.size ≤ 1048576) (h0 : 0 < d.size) (hm : ((d[0].toNat : Int) == 45) = false) :
    Calls Try.prog 12 #[.string d] w fun e w' => e = .returned (.bool (bodyL d.data.toList).2.2) ∧ w' = w := by
  have h0' : (0 : Int) < (d.size : Int) := by omega
  go_enter Try.func12, Try.ntmps12
  go_upto_region 4 with fail
  clear hm
  by_cases hd0 : d.size = 0
  · have HB : Hid ((bodyL d.data.toList).2.2 = false) := by
      have : d.data.toList = [] := List.eq_nil_of_length_eq_zero (by rw [← Lib.size_eq]; exact hd0)
      show _ = _
      rw [this]
      rfl
    have hz : ((d.size : Int) == 0) = true := by rw [hd0]; rfl
    clear hd0
    go_wp2
    go_ret
    exact ⟨ret_bool (by rw [HB.out]), rfl⟩
  · have hz : ((d.size : Int) == 0) = false := beq_eq_false_iff_ne.2 (by omega)
    have hdp : 0 < d.size := by omega
    have hdp' : (0 : Int) < (d.size : Int) := by omega
    clear hd0
    go_wp2
    go_loop [4, 5, 6, 7] (fun xv yv iv _ => ∃ k x y : Nat, k ≤ d.size ∧ iv = .int .i64 k ∧ xv = .int .i64 x ∧ yv = .int .i64 y ∧ Hid (x = nd d.data.toList k) ∧ Hid (y = no d.data.toList k)) (fun _ _ iv _ => d.size - (intOf iv).toNat)
    case atStart => exact ⟨0, 0, 0, Nat.zero_le _, rfl, rfl, rfl, rfl, rfl⟩
    case round =>
      obtain ⟨k, x, y, hk, rfl, rfl, rfl, HX, HY⟩ := hrel
      have hx1 := nd_le d.data.toList k
      rw [← HX.out] at hx1
      have hy1 := no_le d.data.toList k
      rw [← HY.out] at hy1
      by_cases hlt : k < d.size
      · have hsx := nd_snoc hlt
        have hsy := no_snoc hlt
        by_cases h46 : d[k] = 46
        · have HX' : Hid (x + 1 = nd d.data.toList (k + 1)) := by show _ = _; rw [hsx, if_pos h46, HX.out]
          have HY' : Hid (y = no d.data.toList (k + 1)) := by show _ = _; rw [hsy, h46, HY.out] <;> rfl
          have hd2 : ((d[k].toNat : Int) == 46) = true := by rw [h46]; rfl
          clear hsx hsy h46 HX HY
          go_wp2
          go_round
          case rel => exact ⟨k + 1, x + 1, y, by omega, by go_num, by go_num, rfl, HX', HY'⟩
          case measure => simp [intOf]; omega
        · have HX' : Hid (x = nd d.data.toList (k + 1)) := by show _ = _; rw [hsx, if_neg h46, HX.out] <;> rfl
          have hd2 : ((d[k].toNat : Int) == 46) = false := by
            simp; intro h; exact h46 (UInt8.toNat_inj.1 (by simpa using (by omega : d[k].toNat = 46)))
          cases hdig : isDig d[k]
          · have HY' : Hid (y + 1 = no d.data.toList (k + 1)) := by show _ = _; rw [hsy, if_pos (by unfold odd46; simp [hdig, h46]), HY.out]
            clear hsx hsy h46 HX HY
            go_wp2_with (go_at_call 15; refine (isDigByte15 _ _).mono ?_; rintro e w' ⟨rfl, hw⟩; rw [hw]; clear hw)
            go_round
            case rel => exact ⟨k + 1, x, y + 1, by omega, by go_num, rfl, by go_num, HX', HY'⟩
            case measure => simp [intOf]; omega
          · have HY' : Hid (y = no d.data.toList (k + 1)) := by show _ = _; rw [hsy, if_neg (by unfold odd46; simp [hdig]), HY.out] <;> rfl
            clear hsx hsy h46 HX HY
            go_wp2_with (go_at_call 15; refine (isDigByte15 _ _).mono ?_; rintro e w' ⟨rfl, hw⟩; rw [hw]; clear hw)
            go_round
            case rel => exact ⟨k + 1, x, y, by omega, by go_num, rfl, rfl, HX', HY'⟩
            case measure => simp [intOf]; omega
      · have hke : k = d.size := by omega
        have hv := verdict (x := x) (y := y) hdp (by rw [← hke]; exact HX.out) (by rw [← hke]; exact HY.out)
        clear hke HX HY
        by_cases hy0 : y = 0
        · by_cases hx2 : x ≤ 1
          · by_cases hf : d[0] = 46
            · have HB : Hid ((bodyL d.data.toList).2.2 = false) := by
                show _ = _
                cases hb : (bodyL d.data.toList).2.2
                · rfl
                · exact absurd hf (hv.1 hb).2.2.1
              have h1 : ((y : Int) == 0) = true := by rw [hy0]; rfl
              have h2 : (x : Int) ≤ 1 := by omega
              have h3 : ((d[0].toNat : Int) != 46) = false := by rw [hf]; rfl
              clear hv hf hy0
              go_wp2
              go_ret
              exact ⟨ret_bool (by rw [HB.out]), rfl⟩
            · have h1 : ((y : Int) == 0) = true := by rw [hy0]; rfl
              have h2 : (x : Int) ≤ 1 := by omega
              have h3 : ((d[0].toNat : Int) != 46) = true := by
                simp; intro h; exact hf (UInt8.toNat_inj.1 (by simpa using (by omega : d[0].toNat = 46)))
              by_cases hl : d[d.size - 1] = 46
              · have HB : Hid ((bodyL d.data.toList).2.2 = false) := by
                  show _ = _
                  cases hb : (bodyL d.data.toList).2.2
                  · rfl
                  · exact absurd hl (hv.1 hb).2.2.2
                have h4 : ((d[d.size - 1].toNat : Int) != 46) = false := by rw [hl]; rfl
                clear hv hf hl hy0
                go_wp2
                go_ret
                exact ⟨ret_bool (by rw [HB.out]), rfl⟩
              · have HB : Hid ((bodyL d.data.toList).2.2 = true) := hv.2 ⟨hy0, hx2, hf, hl⟩
                have h4 : ((d[d.size - 1].toNat : Int) != 46) = true := by
                  simp; intro h; exact hl (UInt8.toNat_inj.1 (by simpa using (by omega : d[d.size - 1].toNat = 46)))
                clear hv hf hl hy0
                go_wp2
                go_ret
                exact ⟨ret_bool (by rw [HB.out]), rfl⟩
          · have HB : Hid ((bodyL d.data.toList).2.2 = false) := by
              show _ = _
              cases hb : (bodyL d.data.toList).2.2
              · rfl
              · exact absurd (hv.1 hb).2.1 hx2
            have h1 : ((y : Int) == 0) = true := by rw [hy0]; rfl
            have h2 : decide ((x : Int) ≤ 1) = false := by simp; omega
            clear hv hy0
            go_wp2
            go_ret
            exact ⟨ret_bool (by rw [HB.out]), rfl⟩
        · have HB : Hid ((bodyL d.data.toList).2.2 = false) := by
            show _ = _
            cases hb : (bodyL d.data.toList).2.2
            · rfl
            · exact absurd (hv.1 hb).1 hy0
          have h1 : ((y : Int) == 0) = false := by simp; omega
          clear hv
          go_wp2
          go_ret
          exact ⟨ret_bool (by rw [HB.out]), rfl⟩
end Go.Proofs.Qxb6605318a
