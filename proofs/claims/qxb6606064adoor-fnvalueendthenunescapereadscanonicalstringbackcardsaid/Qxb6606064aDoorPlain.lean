/-
  Where a canonical string ends: the plain law. No Go in sight.
-/
import Derived.Test.Qxb6606064aDoorEsc
namespace Go.Proofs.Qxb6606064aDoor

theorem idx_pre : ∀ (a X : List UInt8), (∀ c ∈ a, c ≠ 34) → Lib.indexByte (a ++ 34 :: X) 34 = (a.length : Int)
  | [], X, _ => by simp [Lib.indexByte]
  | b :: a, X, h => by
    have ih := idx_pre a X (fun c hc => h c (List.mem_cons_of_mem _ hc))
    have hb : (b == 34) = false := by simpa using h b (List.mem_cons_self ..)
    show (if (b == 34) = true then (0 : Int) else if (Lib.indexByte (a ++ 34 :: X) 34 == -1) = true then -1 else Lib.indexByte (a ++ 34 :: X) 34 + 1) = _
    rw [hb, ih]
    have : ((a.length : Int) == -1) = false := by simp
    rw [this]
    simp

theorem hexd_ne : ∀ v, v < 16 → hexd v ≠ 34 ∧ hexd v ≠ 92 := by decide

theorem esc1_noq {c : UInt8} (hc : c ≠ 34) : ∀ x ∈ esc1 c, x ≠ 34 := by
  unfold esc1
  rw [if_neg hc]
  repeat' split
  case isFalse.isFalse.isFalse.isFalse.isFalse.isFalse.isTrue h =>
    intro x hx
    simp only [List.mem_cons, List.not_mem_nil, or_false] at hx
    rcases hx with rfl | rfl | rfl | rfl | rfl | rfl
    · decide
    · decide
    · decide
    · decide
    · exact (hexd_ne _ (by omega)).1
    · exact (hexd_ne _ (by omega)).1
  case isFalse.isFalse.isFalse.isFalse.isFalse.isFalse.isFalse =>
    intro x hx
    simp only [List.mem_cons, List.not_mem_nil, or_false] at hx
    rw [hx]
    exact hc
  all_goals decide

theorem esc_noq {p : List UInt8} (hp : ∀ c ∈ p, c ≠ 34) : ∀ x ∈ esc p, x ≠ 34 := by
  intro x hx
  obtain ⟨c, hc, hx2⟩ := List.mem_flatMap.1 hx
  exact esc1_noq (hp c hc) x hx2

/-- How many backslashes a list opens with. -/
def tw : List UInt8 → Nat
  | [] => 0
  | c :: l => if c = 92 then tw l + 1 else 0

theorem tw_le : ∀ (l : List UInt8), tw l ≤ l.length
  | [] => Nat.le_refl _
  | c :: l => by
    have := tw_le l
    unfold tw
    split <;> simp <;> omega
theorem tw_hit : ∀ (l : List UInt8) (e : Nat), e ≤ tw l → l[e]? = some 92 → e + 1 ≤ tw l
  | [], e, _, h => by simp at h
  | c :: l, 0, _, h => by
    simp at h
    subst h
    simp [tw]
  | c :: l, e + 1, hle, h => by
    unfold tw at hle ⊢
    split at hle
    · next hc =>
      rw [if_pos hc]
      have := tw_hit l e (by omega) (by simpa using h)
      omega
    · omega
theorem tw_miss : ∀ (l : List UInt8) (e : Nat), e ≤ tw l → l[e]? ≠ some 92 → e = tw l
  | [], e, hle, _ => by simp [tw] at hle ⊢; exact hle
  | c :: l, 0, _, h => by
    simp at h
    simp [tw, h]
  | c :: l, e + 1, hle, h => by
    unfold tw at hle ⊢
    split at hle
    · next hc =>
      rw [if_pos hc]
      have := tw_miss l e (by omega) (by simpa using h)
      omega
    · omega

theorem tw_one (c : UInt8) (R : List UInt8) (h : tw R % 2 = 0) : tw ((esc1 c).reverse ++ R) % 2 = 0 := by
  unfold esc1
  repeat' split
  case isFalse.isFalse.isFalse.isFalse.isFalse.isFalse.isFalse.isTrue =>
    have := (hexd_ne (c.toNat % 16) (by omega)).2
    simp [tw, this]
  case isFalse.isFalse.isFalse.isFalse.isFalse.isFalse.isFalse.isFalse h34 h92 _ _ _ _ _ _ =>
    simp [tw, h92]
  all_goals simp [tw]
  omega
theorem tw_esc_r : ∀ (q : List UInt8), tw (esc q.reverse).reverse % 2 = 0
  | [] => rfl
  | c :: q => by
    rw [List.reverse_cons, esc_append, esc_one, List.reverse_append]
    exact tw_one c _ (tw_esc_r q)
theorem tw_esc (p : List UInt8) : tw (esc p).reverse % 2 = 0 := by
  have := tw_esc_r p.reverse
  rwa [List.reverse_reverse] at this

theorem split_q : ∀ (t : List UInt8), ∃ p r, t = p ++ r ∧ (∀ c ∈ p, c ≠ 34) ∧ (r = [] ∨ ∃ r', r = 34 :: r')
  | [] => ⟨[], [], rfl, by simp, .inl rfl⟩
  | c :: t => by
    by_cases h : c = 34
    · exact ⟨[], c :: t, rfl, by simp, .inr ⟨t, by rw [h]⟩⟩
    · obtain ⟨p, r, h1, h2, h3⟩ := split_q t
      refine ⟨c :: p, r, by rw [h1]; rfl, fun x hx => ?_, h3⟩
      rcases List.mem_cons.1 hx with rfl | hx
      · exact h
      · exact h2 x hx

/-- What one round finds. -/
def Found (s tail : List UInt8) (k : Nat) (W : List UInt8) : Prop :=
  (∃ X, esc (s.drop k) ++ 34 :: tail = W ++ 34 :: X) ∧ (∀ c ∈ W, c ≠ 34) ∧
    ((tw W.reverse % 2 = 0 ∧ (esc (s.take k)).length + W.length = (esc s).length) ∨
      (tw W.reverse % 2 = 1 ∧ ∃ k', k < k' ∧ k' ≤ s.length ∧ (esc (s.take k)).length + W.length + 1 = (esc (s.take k')).length))

theorem found (s tail : List UInt8) (k : Nat) : ∃ W, Found s tail k W := by
  obtain ⟨p, r, h1, h2, h3⟩ := split_q (s.drop k)
  rcases h3 with rfl | ⟨r', rfl⟩
  · rw [List.append_nil] at h1
    refine ⟨esc p, ⟨tail, by rw [h1]⟩, esc_noq h2, .inl ⟨tw_esc p, ?_⟩⟩
    have e : esc s = esc (s.take k) ++ esc p := by rw [← h1, ← esc_append, List.take_append_drop]
    rw [e, List.length_append]
  · have hk : k ≤ s.length := by
      by_cases h : k ≤ s.length
      · exact h
      · rw [List.drop_eq_nil_of_le (by omega)] at h1
        cases p <;> cases h1
    have hd := congrArg List.length h1
    simp at hd
    refine ⟨esc p ++ [92], ⟨esc r' ++ 34 :: tail, ?_⟩, ?_, .inr ⟨?_, k + p.length + 1, by omega, by omega, ?_⟩⟩
    · rw [h1, esc_append, esc_cons]
      simp [esc1]
    · intro c hc
      rcases List.mem_append.1 hc with hc | hc
      · exact esc_noq h2 c hc
      · simp at hc
        rw [hc]
        decide
    · rw [List.reverse_append]
      have := tw_esc p
      show tw (92 :: (esc p).reverse) % 2 = 1
      simp [tw]
      omega
    · have e : s.take (k + p.length + 1) = s.take k ++ p ++ [34] := by
        rw [show k + p.length + 1 = k + (p.length + 1) by omega, List.take_add, h1]
        simp [List.take_append]
        exact List.take_of_length_le (by omega)
      rw [e, esc_append, esc_append, esc_one]
      simp [esc1]
      omega

/-- The data: a canonical string, and whatever follows. -/
def dat (s tail : List UInt8) : List UInt8 := 34 :: (esc s ++ 34 :: tail)
theorem dat_len (s tail : List UInt8) : (dat s tail).length = (esc s).length + 2 + tail.length := by
  simp [dat]
  omega
theorem dat_drop (s tail : List UInt8) (k : Nat) : (dat s tail).drop (1 + (esc (s.take k)).length) = esc (s.drop k) ++ 34 :: tail := by
  have e : esc s = esc (s.take k) ++ esc (s.drop k) := by rw [← esc_append, List.take_append_drop]
  unfold dat
  rw [Nat.add_comm 1, List.drop_succ_cons, e, List.append_assoc]
  exact List.drop_left
end Go.Proofs.Qxb6606064aDoor
