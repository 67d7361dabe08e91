/-
  Grouping from the right is grouping from the left: lists of bytes alone.
-/
import Derived.Test.Qxb6605318aGroup
namespace Go.Proofs.Qxb6605318a

/-- The comma ahead of the byte with number j, counted from the right. -/
def sep (j : Nat) : List UInt8 := if 0 < j ∧ j % 3 = 0 then [44] else []

/-- What the model has written behind j bytes; r: the whole part turned round. -/
def rv (r : List UInt8) : Nat → List UInt8
  | 0 => []
  | j + 1 => rv r j ++ sep j ++ [r.getD j 0]

theorem sep_len (j : Nat) : (sep j).length ≤ 1 := by unfold sep; split <;> simp
theorem rv_len (r : List UInt8) : ∀ j, (rv r j).length ≤ 2 * j
  | 0 => Nat.le_refl _
  | j + 1 => by
    have h1 := rv_len r j
    have h2 := sep_len j
    unfold rv
    rw [List.length_append, List.length_append]
    simp
    omega

theorem rv_small (r : List UInt8) (j : Nat) (h : j ≤ 3) (hl : j ≤ r.length) : rv r j = r.take j := by
  match j, h with
  | 0, _ => rfl
  | 1, _ =>
    match r, hl with
    | a :: _, _ => rfl
  | 2, _ =>
    match r, hl with
    | a :: b :: _, _ => rfl
  | 3, _ =>
    match r, hl with
    | a :: b :: c :: _, _ => rfl

theorem rv_shift (a b c : UInt8) (r : List UInt8) : ∀ j, rv (a :: b :: c :: r) (3 + j) = [a, b, c] ++ (if 0 < j then 44 :: rv r j else [])
  | 0 => rfl
  | j + 1 => by
    have ih := rv_shift a b c r j
    show rv (a :: b :: c :: r) (3 + j) ++ sep (3 + j) ++ [(a :: b :: c :: r).getD (3 + j) 0] = _
    rw [ih]
    have hg : (a :: b :: c :: r).getD (3 + j) 0 = r.getD j 0 := by
      have : 3 + j = j + 1 + 1 + 1 := by omega
      rw [this]
      rfl
    rw [hg]
    by_cases hj : 0 < j
    · have hs : sep (3 + j) = sep j := by
        unfold sep
        have e : (3 + j) % 3 = j % 3 := by omega
        rw [e]
        have h3 : 0 < 3 + j := by omega
        simp [hj, h3]
      rw [hs]
      simp [hj, rv]
    · have : j = 0 := by omega
      subst this
      rfl

theorem grp_append (x t : List UInt8) : ∀ k, 3 * k ≤ x.length → grp (x ++ t) k = grp x k
  | 0, _ => rfl
  | k + 1, h => by
    unfold grp
    rw [grp_append x t k (by omega), List.drop_append_of_le_length (by omega), List.take_append_of_le_length (by simp; omega)]

theorem whole3_snoc (y t : List UInt8) (hy : y ≠ []) (ht : t.length = 3) : whole3 (y ++ t) = whole3 y ++ 44 :: t := by
  have hp : 0 < y.length := List.length_pos_iff.2 hy
  have hc : commas (y ++ t).length = commas y.length + 1 := by
    unfold commas
    rw [List.length_append, ht]
    omega
  have hle : 3 * commas y.length ≤ y.length := by unfold commas; omega
  have hh : (y ++ t).length - 3 * commas (y ++ t).length = y.length - 3 * commas y.length := by
    rw [hc, List.length_append, ht]
    omega
  unfold whole3
  rw [hh, hc]
  obtain ⟨h, hhh⟩ : ∃ h, h = y.length - 3 * commas y.length := ⟨_, rfl⟩
  obtain ⟨k, hk⟩ : ∃ k, k = commas y.length := ⟨_, rfl⟩
  rw [← hhh, ← hk]
  have hyl : h + 3 * k = y.length := by rw [hhh, hk]; omega
  rw [List.take_append_of_le_length (by omega), List.drop_append_of_le_length (by omega)]
  have hd : (y.drop h).length = 3 * k := by rw [List.length_drop]; omega
  show y.take h ++ (grp (y.drop h ++ t) k ++ (44 :: ((y.drop h ++ t).drop (3 * k)).take 3)) = _
  rw [grp_append _ _ _ (by omega), ← hd, List.drop_left, List.take_of_length_le (l := t) (by omega), List.append_assoc]

theorem whole3_small (x : List UInt8) (h : x.length ≤ 3) : whole3 x = x := by
  have hc : commas x.length = 0 := by unfold commas; omega
  unfold whole3
  rw [hc]
  simp [grp]

/-- The model's order, turned round, is AppendGroup's. -/
theorem rv_whole : ∀ (n : Nat) (x : List UInt8), x.length ≤ n → (rv x.reverse x.length).reverse = whole3 x
  | 0, x, h => by
    have : x = [] := List.eq_nil_of_length_eq_zero (by omega)
    subst this
    rfl
  | n + 1, x, h => by
    by_cases h3 : x.length ≤ 3
    · rw [whole3_small x h3, rv_small _ _ h3 (by simp), List.take_of_length_le (by simp), List.reverse_reverse]
    · obtain ⟨y, t, rfl, hy, ht⟩ : ∃ y t, x = y ++ t ∧ y ≠ [] ∧ t.length = 3 := by
        refine ⟨x.take (x.length - 3), x.drop (x.length - 3), (List.take_append_drop _ _).symm, ?_, by simp; omega⟩
        intro e
        have := congrArg List.length e
        simp at this
        omega
      have hl : (y ++ t).length = 3 + y.length := by rw [List.length_append, ht]; omega
      match t, ht with
      | [a, b, c], _ =>
        have ih := rv_whole n y (by simp at h; omega)
        have hp : 0 < y.length := List.length_pos_iff.2 hy
        rw [whole3_snoc y [a, b, c] hy rfl, ← ih, hl]
        have : (y ++ [a, b, c]).reverse = c :: b :: a :: y.reverse := by simp
        rw [this, rv_shift, if_pos hp]
        simp
end Go.Proofs.Qxb6605318a
