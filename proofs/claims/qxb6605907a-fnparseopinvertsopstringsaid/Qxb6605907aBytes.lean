/-
  The byte predicates of this seat: letters, digits, name bytes, value bytes.
-/
import Derived.Test.Qxb6605907aProg
import Derived.WalkKit
import Derived.WalkSpells
import Derived.WalkLawsBesides
import Derived.BigQuiet
import Derived.Deep.QuietTactic
namespace Go.Proofs.Qxb6605907a
open Go.RowKit

theorem ret_bool {a b : Bool} (h : a = b) : Ending.returned (.bool a) = .returned (.bool b) := by rw [h]

def letB (c : UInt8) : Bool := decide ((97 ≤ c.toNat ∧ c.toNat ≤ 122) ∨ (65 ≤ c.toNat ∧ c.toNat ≤ 90) ∨ c.toNat = 95)
def digB (c : UInt8) : Bool := decide (48 ≤ c.toNat ∧ c.toNat ≤ 57)
def nameB (c : UInt8) : Bool := letB c || digB c
def valB (c : UInt8) : Bool := nameB c || decide (c.toNat = 46 ∨ c.toNat = 43 ∨ c.toNat = 45)

set_option maxHeartbeats 1000000 in
theorem isLetter23 (c : UInt8) (w : World) : Calls Try.prog 23 #[.int .u8 (c.toNat : Int)] w fun e w' => e = .returned (.bool (letB c)) ∧ w' = w := by
  go_enter Try.func23, Try.ntmps23
  go_wp2
  all_goals
    go_ret
    refine ⟨ret_bool ?_, rfl⟩
    unfold letB
    rw [Bool.eq_iff_iff]
    simp
    omega
set_option maxHeartbeats 1000000 in
theorem zzLetter13 (c : UInt8) (w : World) : Calls Try.prog 13 #[.int .u8 (c.toNat : Int)] w fun e w' => e = .returned (.bool (letB c)) ∧ w' = w := by
  go_enter Try.func13, Try.ntmps13
  go_wp2
  all_goals
    go_ret
    refine ⟨ret_bool ?_, rfl⟩
    unfold letB
    rw [Bool.eq_iff_iff]
    simp
    omega
theorem isDigit27 (c : UInt8) (w : World) : Calls Try.prog 27 #[.int .u8 (c.toNat : Int)] w fun e w' => e = .returned (.bool (digB c)) ∧ w' = w := by
  go_enter Try.func27, Try.ntmps27
  go_wp2
  all_goals
    go_ret
    refine ⟨ret_bool ?_, rfl⟩
    unfold digB
    rw [Bool.eq_iff_iff]
    simp
    omega
set_option maxHeartbeats 1000000 in
theorem zzName14 (c : UInt8) (w : World) : Calls Try.prog 14 #[.int .u8 (c.toNat : Int)] w fun e w' => e = .returned (.bool (nameB c)) ∧ w' = w := by
  cases hl : letB c
  all_goals
    go_enter Try.func14, Try.ntmps14
    go_wp2_with (go_at_call 13; refine (zzLetter13 _ _).mono ?_; rintro e w' ⟨rfl, hw⟩; rw [hw]; clear hw)
    all_goals
      go_ret
      refine ⟨ret_bool ?_, rfl⟩
      unfold nameB digB
      rw [hl, Bool.eq_iff_iff]
      simp
      try omega
set_option maxHeartbeats 1000000 in
theorem zzValue15 (c : UInt8) (w : World) : Calls Try.prog 15 #[.int .u8 (c.toNat : Int)] w fun e w' => e = .returned (.bool (valB c)) ∧ w' = w := by
  cases hl : nameB c
  all_goals
    go_enter Try.func15, Try.ntmps15
    go_wp2_with (go_at_call 14; refine (zzName14 _ _).mono ?_; rintro e w' ⟨rfl, hw⟩; rw [hw]; clear hw)
    all_goals
      go_ret
      refine ⟨ret_bool ?_, rfl⟩
      unfold valB
      rw [hl, Bool.eq_iff_iff]
      simp
      try omega

/-- The two closures: at a byte below 128. -/
theorem name29 (c : UInt8) (w : World) (h : (c.toNat : Int) < 128) : Calls Try.prog 29 #[.int .i32 (c.toNat : Int)] w fun e w' => e = .returned (.bool (!nameB c)) ∧ w' = w := by
  cases hl : letB c
  · cases hd : digB c
    all_goals
      go_enter Try.func29, Try.ntmps29
      go_wp2_with (first
        | (go_at_call 23; refine (isLetter23 _ _).mono ?_; rintro e w' ⟨rfl, hw⟩; rw [hw]; clear hw)
        | (go_at_call 27; refine (isDigit27 _ _).mono ?_; rintro e w' ⟨rfl, hw⟩; rw [hw]; clear hw))
      go_ret
      exact ⟨ret_bool (by unfold nameB; rw [hl, hd]; first | rfl | (simp; omega)), rfl⟩
  · go_enter Try.func29, Try.ntmps29
    go_wp2_with (first
      | (go_at_call 23; refine (isLetter23 _ _).mono ?_; rintro e w' ⟨rfl, hw⟩; rw [hw]; clear hw)
      | (go_at_call 27; refine (isDigit27 _ _).mono ?_; rintro e w' ⟨rfl, hw⟩; rw [hw]; clear hw))
    go_ret
    exact ⟨ret_bool (by unfold nameB; rw [hl]; first | rfl | (simp; omega)), rfl⟩
theorem name29_high (r : Int) (w : World) (h : 128 ≤ r) : Calls Try.prog 29 #[.int .i32 r] w fun e w' => e = .returned (.bool true) ∧ w' = w := by
  go_enter Try.func29, Try.ntmps29
  go_wp2
  go_ret
  exact ⟨rfl, rfl⟩
theorem value26_high (r : Int) (w : World) (h : 128 ≤ r) : Calls Try.prog 26 #[.int .i32 r] w fun e w' => e = .returned (.bool true) ∧ w' = w := by
  go_enter Try.func26, Try.ntmps26
  go_wp2
  go_ret
  exact ⟨rfl, rfl⟩
set_option maxHeartbeats 1000000 in
theorem value26 (c : UInt8) (w : World) (h : (c.toNat : Int) < 128) : Calls Try.prog 26 #[.int .i32 (c.toNat : Int)] w fun e w' => e = .returned (.bool (!valB c)) ∧ w' = w := by
  cases hl : letB c
  · cases hd : digB c
    · by_cases h46 : c.toNat = 46
      · have e1 : ((c.toNat : Int) != 46) = false := by rw [h46]; rfl
        have HV : Hid (valB c = true) := by show _ = _; unfold valB; rw [h46]; simp
        clear h46
        go_enter Try.func26, Try.ntmps26
        go_wp2_with (first
          | (go_at_call 23; refine (isLetter23 _ _).mono ?_; rintro e w' ⟨rfl, hw⟩; rw [hw]; clear hw)
          | (go_at_call 27; refine (isDigit27 _ _).mono ?_; rintro e w' ⟨rfl, hw⟩; rw [hw]; clear hw))
        go_ret
        exact ⟨ret_bool (by rw [HV.out]; first | rfl | (simp; omega)), rfl⟩
      · have e1 : ((c.toNat : Int) != 46) = true := by simp; omega
        by_cases h43 : c.toNat = 43
        · have e2 : ((c.toNat : Int) != 43) = false := by rw [h43]; rfl
          have HV : Hid (valB c = true) := by show _ = _; unfold valB; rw [h43]; simp
          clear h46 h43
          go_enter Try.func26, Try.ntmps26
          go_wp2_with (first
            | (go_at_call 23; refine (isLetter23 _ _).mono ?_; rintro e w' ⟨rfl, hw⟩; rw [hw]; clear hw)
            | (go_at_call 27; refine (isDigit27 _ _).mono ?_; rintro e w' ⟨rfl, hw⟩; rw [hw]; clear hw))
          go_ret
          exact ⟨ret_bool (by rw [HV.out]; first | rfl | (simp; omega)), rfl⟩
        · have e2 : ((c.toNat : Int) != 43) = true := by simp; omega
          have HV : Hid (valB c = decide (c.toNat = 45)) := by show _ = _; unfold valB nameB; rw [hl, hd]; simp [h46, h43]
          go_enter Try.func26, Try.ntmps26
          go_wp2_with (first
            | (go_at_call 23; refine (isLetter23 _ _).mono ?_; rintro e w' ⟨rfl, hw⟩; rw [hw]; clear hw)
            | (go_at_call 27; refine (isDigit27 _ _).mono ?_; rintro e w' ⟨rfl, hw⟩; rw [hw]; clear hw))
          go_ret
          refine ⟨ret_bool ?_, rfl⟩
          rw [HV.out, Bool.eq_iff_iff]
          simp
          try omega
    · go_enter Try.func26, Try.ntmps26
      go_wp2_with (first
        | (go_at_call 23; refine (isLetter23 _ _).mono ?_; rintro e w' ⟨rfl, hw⟩; rw [hw]; clear hw)
        | (go_at_call 27; refine (isDigit27 _ _).mono ?_; rintro e w' ⟨rfl, hw⟩; rw [hw]; clear hw))
      go_ret
      exact ⟨ret_bool (by unfold valB nameB; rw [hl, hd]; first | rfl | (simp; omega)), rfl⟩
  · go_enter Try.func26, Try.ntmps26
    go_wp2_with (first
      | (go_at_call 23; refine (isLetter23 _ _).mono ?_; rintro e w' ⟨rfl, hw⟩; rw [hw]; clear hw)
      | (go_at_call 27; refine (isDigit27 _ _).mono ?_; rintro e w' ⟨rfl, hw⟩; rw [hw]; clear hw))
    go_ret
    exact ⟨ret_bool (by unfold valB nameB; rw [hl]; first | rfl | (simp; omega)), rfl⟩
end Go.Proofs.Qxb6605907a
