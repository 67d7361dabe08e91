/-
  The plain law behind FnAppendGroupDropCommasGivesTextBack: lists of bytes alone.
-/
import Derived.Test.Qxb6605318aGroup
import Derived.Lib.IndexLaws
namespace Go.Proofs.Qxb6605318a

def keep (b : UInt8) : Bool := b != 44

theorem keep_all {l : List UInt8} (h : ∀ b ∈ l, b ≠ 44) : l.filter keep = l := by
  rw [List.filter_eq_self]
  intro b hb
  unfold keep
  simpa using h b hb
theorem count_none {l : List UInt8} (h : ∀ b ∈ l, b ≠ 44) : l.count 44 = 0 := by
  rw [List.count_eq_zero]
  intro hm
  exact h 44 hm rfl

theorem grp_keep {x : List UInt8} (h : ∀ b ∈ x, b ≠ 44) : ∀ k, (grp x k).filter keep = x.take (3 * k)
  | 0 => by simp [grp]
  | k + 1 => by
    unfold grp
    rw [List.filter_append, grp_keep h k, List.filter_cons]
    have h44 : keep 44 = false := rfl
    rw [h44, keep_all (fun b hb => h b (List.mem_of_mem_drop (List.mem_of_mem_take hb)))]
    rw [if_neg (by simp), Nat.mul_succ, List.take_add]
theorem grp_count {x : List UInt8} (h : ∀ b ∈ x, b ≠ 44) : ∀ k, (grp x k).count 44 = k
  | 0 => by simp [grp]
  | k + 1 => by
    unfold grp
    rw [List.count_append, grp_count h k, List.count_cons_self, count_none (fun b hb => h b (List.mem_of_mem_drop (List.mem_of_mem_take hb)))]

theorem commas_le (n : Nat) : 3 * commas n ≤ n := by unfold commas; omega

theorem whole3_keep {x : List UInt8} (h : ∀ b ∈ x, b ≠ 44) : (whole3 x).filter keep = x := by
  have hc := commas_le x.length
  unfold whole3
  rw [List.filter_append, keep_all (fun b hb => h b (List.mem_of_mem_take hb)), grp_keep (fun b hb => h b (List.mem_of_mem_drop hb))]
  rw [List.take_of_length_le (l := x.drop _) (by simp; omega), List.take_append_drop]
theorem whole3_count {x : List UInt8} (h : ∀ b ∈ x, b ≠ 44) : (whole3 x).count 44 = commas x.length := by
  unfold whole3
  rw [List.count_append, count_none (fun b hb => h b (List.mem_of_mem_take hb)), grp_count (fun b hb => h b (List.mem_of_mem_drop hb)), Nat.zero_add]

/-- The sign and what is behind it are the text. -/
theorem sgn_trim (l : List UInt8) : sgn l ++ Lib.trimPrefix l [45] = l := by
  unfold sgn Lib.trimPrefix
  by_cases h : Lib.hasPrefix l [45] = true
  · rw [if_pos h, if_pos h]
    unfold Lib.hasPrefix at h
    rw [List.isPrefixOf_iff_prefix] at h
    obtain ⟨t, rfl⟩ := h
    rfl
  · rw [if_neg h, if_neg h]
    rfl
/-- The whole part, the point and the fraction are the digits. -/
theorem dot_join (l : List UInt8) : (dotCut l).1 ++ (if (dotCut l).2.2 = true then 46 :: (dotCut l).2.1 else []) = l := by
  have hge := Lib.indexByte_ge l 46
  by_cases h : Lib.indexByte l 46 = -1
  · rw [dotCut_none h]; simp
  · obtain ⟨i, hi⟩ : ∃ i : Nat, Lib.indexByte l 46 = (i : Int) := ⟨(Lib.indexByte l 46).toNat, by omega⟩
    rw [dotCut_some hi]
    have h1 := (Lib.indexByte_some hi).1
    obtain ⟨hlt, he⟩ := List.getElem?_eq_some_iff.1 h1
    simp only [if_true]
    have := List.take_append_drop i l
    rw [List.drop_eq_getElem_cons hlt, he] at this
    exact this

/-- The whole part's length. -/
def wholeN (l : List UInt8) : Nat := (dotCut (Lib.trimPrefix l [45])).1.length

theorem parts_no {l : List UInt8} (h : ∀ b ∈ l, b ≠ 44) : (∀ b ∈ (dotCut (Lib.trimPrefix l [45])).1, b ≠ 44) ∧ (∀ b ∈ (if (dotCut (Lib.trimPrefix l [45])).2.2 = true then 46 :: (dotCut (Lib.trimPrefix l [45])).2.1 else []), b ≠ 44) ∧ ∀ b ∈ sgn l, b ≠ 44 := by
  have e : l = sgn l ++ ((dotCut (Lib.trimPrefix l [45])).1 ++ (if (dotCut (Lib.trimPrefix l [45])).2.2 = true then 46 :: (dotCut (Lib.trimPrefix l [45])).2.1 else [])) := by
    rw [dot_join, sgn_trim]
  rw [e] at h
  exact ⟨fun b hb => h b (by rw [List.mem_append, List.mem_append]; exact .inr (.inl hb)), fun b hb => h b (by rw [List.mem_append, List.mem_append]; exact .inr (.inr hb)), fun b hb => h b (by rw [List.mem_append]; exact .inl hb)⟩

/-- Its commas dropped, the grouped text is the text. -/
theorem group_keep {l : List UInt8} (h : ∀ b ∈ l, b ≠ 44) : (groupL l).filter keep = l := by
  obtain ⟨h1, h2, h3⟩ := parts_no h
  unfold groupL
  rw [List.filter_append, List.filter_append, keep_all h3, keep_all h2, whole3_keep h1, List.append_assoc, dot_join, sgn_trim]
/-- How many commas it bears. -/
theorem group_count {l : List UInt8} (h : ∀ b ∈ l, b ≠ 44) : (groupL l).count 44 = commas (wholeN l) := by
  obtain ⟨h1, h2, h3⟩ := parts_no h
  unfold groupL
  rw [List.count_append, List.count_append, count_none h3, count_none h2, whole3_count h1]
  unfold wholeN
  omega
end Go.Proofs.Qxb6605318a
