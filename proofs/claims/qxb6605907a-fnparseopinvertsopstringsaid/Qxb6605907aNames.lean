/-
  strings.IndexFunc at the two closures, IsName, IsVar, IsValue; zzIsName, zzIsVar, zzIsValue.
-/
import Derived.Test.Qxb6605907aBytes
import Derived.Laws.RangeAny
import Derived.Stop.FmtRuneSmall
import Derived.Deep.LoopGhost
import Derived.Lib.Strings
import Derived.Lib.IndexBytes
import Derived.Below
namespace Go.Proofs.Qxb6605907a
open Go.RowKit

theorem take_snoc_b (s : ByteArray) (k : Nat) (h : k < s.size) : s.data.toList.take (k + 1) = s.data.toList.take k ++ [s[k]] := by
  rw [List.take_succ_eq_append_getElem (by simpa using h)]; rfl
theorem all_snoc {p : UInt8 → Bool} {s : ByteArray} {k : Nat} (hk : k < s.size) (h : (s.data.toList.take k).all p = true) (hd : p s[k] = true) : (s.data.toList.take (k + 1)).all p = true := by
  rw [take_snoc_b s k hk, List.all_append, h]
  simp [hd]
theorem all_bad {p : UInt8 → Bool} {s : ByteArray} {k : Nat} (hk : k < s.size) (hd : p s[k] = false) : s.data.toList.all p = false := by
  cases h : s.data.toList.all p with
  | false => rfl
  | true =>
    have := List.all_eq_true.1 h s[k] (List.mem_of_getElem? (Lib.data_getElem? s k hk))
    rw [hd] at this
    cases this
theorem all_end {p : UInt8 → Bool} {s : ByteArray} {k : Nat} (hk : k = s.size) (h : (s.data.toList.take k).all p = true) : s.data.toList.all p = true := by
  rwa [hk, Lib.size_eq, List.take_length] at h

/-- A byte from 128 on is no name byte and no value byte. -/
theorem name_high {c : UInt8} (h : 128 ≤ c.toNat) : nameB c = false := by
  unfold nameB letB digB
  simp
  omega
theorem val_high {c : UInt8} (h : 128 ≤ c.toNat) : valB c = false := by
  unfold valB
  rw [name_high h]
  simp
  omega

/-- An index: below zero just where all bytes are good. -/
def Idx (b : Bool) (e : Ending) : Prop := ∃ i : Int, e = .returned (.int .i64 i) ∧ (b = true → i = -1) ∧ (b = false → 0 ≤ i)

theorem nonempty_list {s : ByteArray} (h : s.toList.isEmpty = false) : s.data.toList ≠ [] := by
  rw [Lib.toList_data] at h
  exact List.isEmpty_eq_false_iff.1 h

set_option maxHeartbeats 1000000 in
theorem idx30_29 (s : ByteArray) (w : World) :
    Calls Try.prog 30 #[.string s, .func (.func 29) #[] #[], .bool true] w fun e w' => Idx (s.data.toList.all nameB) e ∧ Below w.heap.size w w' := by
  go_enter Try.func30, Try.ntmps30
  go_wp2
  go_loopg [6, 7, 8] s.size (fun g _ _ _ wx => ∃ i : Nat, i + g = s.size ∧ wx = w.iter s i ∧ Hid ((s.data.toList.take i).all nameB = true))
  case atStart => exact ⟨0, by omega, rfl, rfl⟩
  case round =>
    obtain ⟨i, hig, rfl, HA⟩ := hrel
    by_cases hi : i < s.size
    · obtain ⟨x, hx⟩ : ∃ x, s[i] = x := ⟨_, rfl⟩
      by_cases h128 : x.toNat < 128
      · have hnx := fun ty => run_next_ascii (P := Try.prog) w s i ty hi (by rw [hx]; exact h128)
        rw [hx] at hnx
        have hxi : (x.toNat : Int) < 128 := by omega
        cases hd : nameB x
        · have HD : Hid (s.data.toList.all nameB = false) := all_bad hi (by rw [hx]; exact hd)
          clear hx HA h128
          go_wp2_with (go_at_call 29; refine (name29 _ _ hxi).mono ?_; rintro e w' ⟨rfl, hw⟩; rw [hw]; clear hw)
          go_ret
          exact ⟨⟨_, rfl, (fun h => by rw [HD.out] at h; cases h), (fun _ => by omega)⟩, (Below.refl _ _).alloc (Nat.le_refl _) _⟩
        · have HA' : Hid ((s.data.toList.take (i + 1)).all nameB = true) := all_snoc hi HA.out (by rw [hx]; exact hd)
          clear hx HA h128
          go_wp2_with (go_at_call 29; refine (name29 _ _ hxi).mono ?_; rintro e w' ⟨rfl, hw⟩; rw [hw]; clear hw)
          go_roundg (gk - 1)
          case measure => omega
          case rel => exact ⟨i + 1, by omega, rfl, HA'⟩
      · have hnx := fun ty => run_next_any (P := Try.prog) w s i ty hi
        have hh := decode_high s i hi (by rw [hx]; omega)
        have HD : Hid (s.data.toList.all nameB = false) := all_bad hi (by rw [hx]; exact name_high (by omega))
        obtain ⟨r, d, hrd⟩ : ∃ r d, Utf8.decode s i = (r, d) := ⟨_, _, rfl⟩
        rw [hrd] at hnx hh
        obtain ⟨hr, _⟩ := hh
        have hr' : (128 : Int) ≤ (r : Int) := by omega
        clear hx HA hrd h128 hr
        go_wp2_with (go_at_call 29; refine (name29_high _ _ hr').mono ?_; rintro e w' ⟨rfl, hw⟩; rw [hw]; clear hw)
        go_ret
        exact ⟨⟨_, rfl, (fun h => by rw [HD.out] at h; cases h), (fun _ => by omega)⟩, (Below.refl _ _).alloc (Nat.le_refl _) _⟩
    · have hnx := fun ty => run_next_end (P := Try.prog) w s i ty hi
      have HD : Hid (s.data.toList.all nameB = true) := all_end (by omega) HA.out
      clear HA
      go_wp2
      go_ret
      exact ⟨⟨_, rfl, (fun _ => rfl), (fun h => by rw [HD.out] at h; cases h)⟩, (Below.refl _ _).alloc (Nat.le_refl _) _⟩

theorem idx25_29 (s : ByteArray) (w : World) :
    Calls Try.prog 25 #[.string s, .func (.func 29) #[] #[]] w fun e w' => Idx (s.data.toList.all nameB) e ∧ Below w.heap.size w w' := by
  go_enter Try.func25, Try.ntmps25
  go_wp2_with (go_at_call 30; refine (idx30_29 _ _).mono ?_; rintro e w1 ⟨⟨i, rfl, h1, h2⟩, hb⟩)
  go_ret
  exact ⟨⟨_, rfl, h1, h2⟩, hb⟩

set_option maxHeartbeats 1000000 in
theorem idx30_26 (s : ByteArray) (w : World) :
    Calls Try.prog 30 #[.string s, .func (.func 26) #[] #[], .bool true] w fun e w' => Idx (s.data.toList.all valB) e ∧ Below w.heap.size w w' := by
  go_enter Try.func30, Try.ntmps30
  go_wp2
  go_loopg [6, 7, 8] s.size (fun g _ _ _ wx => ∃ i : Nat, i + g = s.size ∧ wx = w.iter s i ∧ Hid ((s.data.toList.take i).all valB = true))
  case atStart => exact ⟨0, by omega, rfl, rfl⟩
  case round =>
    obtain ⟨i, hig, rfl, HA⟩ := hrel
    by_cases hi : i < s.size
    · obtain ⟨x, hx⟩ : ∃ x, s[i] = x := ⟨_, rfl⟩
      by_cases h128 : x.toNat < 128
      · have hnx := fun ty => run_next_ascii (P := Try.prog) w s i ty hi (by rw [hx]; exact h128)
        rw [hx] at hnx
        have hxi : (x.toNat : Int) < 128 := by omega
        cases hd : valB x
        · have HD : Hid (s.data.toList.all valB = false) := all_bad hi (by rw [hx]; exact hd)
          clear hx HA h128
          go_wp2_with (go_at_call 26; refine (value26 _ _ hxi).mono ?_; rintro e w' ⟨rfl, hw⟩; rw [hw]; clear hw)
          go_ret
          exact ⟨⟨_, rfl, (fun h => by rw [HD.out] at h; cases h), (fun _ => by omega)⟩, (Below.refl _ _).alloc (Nat.le_refl _) _⟩
        · have HA' : Hid ((s.data.toList.take (i + 1)).all valB = true) := all_snoc hi HA.out (by rw [hx]; exact hd)
          clear hx HA h128
          go_wp2_with (go_at_call 26; refine (value26 _ _ hxi).mono ?_; rintro e w' ⟨rfl, hw⟩; rw [hw]; clear hw)
          go_roundg (gk - 1)
          case measure => omega
          case rel => exact ⟨i + 1, by omega, rfl, HA'⟩
      · have hnx := fun ty => run_next_any (P := Try.prog) w s i ty hi
        have hh := decode_high s i hi (by rw [hx]; omega)
        have HD : Hid (s.data.toList.all valB = false) := all_bad hi (by rw [hx]; exact val_high (by omega))
        obtain ⟨r, d, hrd⟩ : ∃ r d, Utf8.decode s i = (r, d) := ⟨_, _, rfl⟩
        rw [hrd] at hnx hh
        obtain ⟨hr, _⟩ := hh
        have hr' : (128 : Int) ≤ (r : Int) := by omega
        clear hx HA hrd h128 hr
        go_wp2_with (go_at_call 26; refine (value26_high _ _ hr').mono ?_; rintro e w' ⟨rfl, hw⟩; rw [hw]; clear hw)
        go_ret
        exact ⟨⟨_, rfl, (fun h => by rw [HD.out] at h; cases h), (fun _ => by omega)⟩, (Below.refl _ _).alloc (Nat.le_refl _) _⟩
    · have hnx := fun ty => run_next_end (P := Try.prog) w s i ty hi
      have HD : Hid (s.data.toList.all valB = true) := all_end (by omega) HA.out
      clear HA
      go_wp2
      go_ret
      exact ⟨⟨_, rfl, (fun _ => rfl), (fun h => by rw [HD.out] at h; cases h)⟩, (Below.refl _ _).alloc (Nat.le_refl _) _⟩

theorem idx25_26 (s : ByteArray) (w : World) :
    Calls Try.prog 25 #[.string s, .func (.func 26) #[] #[]] w fun e w' => Idx (s.data.toList.all valB) e ∧ Below w.heap.size w w' := by
  go_enter Try.func25, Try.ntmps25
  go_wp2_with (go_at_call 30; refine (idx30_26 _ _).mono ?_; rintro e w1 ⟨⟨i, rfl, h1, h2⟩, hb⟩)
  go_ret
  exact ⟨⟨_, rfl, h1, h2⟩, hb⟩

def isName (l : List UInt8) : Bool := !l.isEmpty && l.all nameB

set_option maxHeartbeats 1000000 in
theorem is24 (s : ByteArray) (w : World) :
    Calls Try.prog 24 #[.string s] w fun e w' => e = .returned (.bool (isName s.data.toList)) ∧ Below w.heap.size w w' := by
  cases he : s.toList.isEmpty
  · have HE : Hid (isName s.data.toList = s.data.toList.all nameB) := by show _ = _; unfold isName; rw [← Lib.toList_data, he]; rfl
    cases ha : s.data.toList.all nameB
    · go_enter Try.func24, Try.ntmps24
      go_wp2_with (go_at_call 25; refine (idx25_29 _ _).mono ?_; rintro e w1 ⟨⟨i, rfl, h1, h2⟩, hb⟩; have hi := h2 ha; clear h1 h2)
      go_ret
      exact ⟨ret_bool (by rw [HE.out, ha]; exact decide_eq_false (by omega)), hb⟩
    · go_enter Try.func24, Try.ntmps24
      go_wp2_with (go_at_call 25; refine (idx25_29 _ _).mono ?_; rintro e w1 ⟨⟨i, rfl, h1, h2⟩, hb⟩; obtain rfl := h1 ha; clear h1 h2)
      go_ret
      exact ⟨ret_bool (by rw [HE.out, ha] <;> rfl), hb⟩
  · have HE : Hid (isName s.data.toList = false) := by show _ = _; unfold isName; rw [← Lib.toList_data, he]; rfl
    go_enter Try.func24, Try.ntmps24
    go_wp2
    go_ret
    exact ⟨ret_bool (by rw [HE.out]), Below.refl _ _⟩

def isVal (l : List UInt8) : Bool := !l.isEmpty && l.all valB

set_option maxHeartbeats 1000000 in
theorem is20 (s : ByteArray) (w : World) :
    Calls Try.prog 20 #[.string s] w fun e w' => e = .returned (.bool (isVal s.data.toList)) ∧ Below w.heap.size w w' := by
  cases he : s.toList.isEmpty
  · have HE : Hid (isVal s.data.toList = s.data.toList.all valB) := by show _ = _; unfold isVal; rw [← Lib.toList_data, he]; rfl
    cases ha : s.data.toList.all valB
    · go_enter Try.func20, Try.ntmps20
      go_wp2_with (go_at_call 25; refine (idx25_26 _ _).mono ?_; rintro e w1 ⟨⟨i, rfl, h1, h2⟩, hb⟩; have hi := h2 ha; clear h1 h2)
      go_ret
      exact ⟨ret_bool (by rw [HE.out, ha]; exact decide_eq_false (by omega)), hb⟩
    · go_enter Try.func20, Try.ntmps20
      go_wp2_with (go_at_call 25; refine (idx25_26 _ _).mono ?_; rintro e w1 ⟨⟨i, rfl, h1, h2⟩, hb⟩; obtain rfl := h1 ha; clear h1 h2)
      go_ret
      exact ⟨ret_bool (by rw [HE.out, ha] <;> rfl), hb⟩
  · have HE : Hid (isVal s.data.toList = false) := by show _ = _; unfold isVal; rw [← Lib.toList_data, he]; rfl
    go_enter Try.func20, Try.ntmps20
    go_wp2
    go_ret
    exact ⟨ret_bool (by rw [HE.out]), Below.refl _ _⟩

def isVar (l : List UInt8) : Bool := match l with | [] => false | c :: _ => letB c && isName l

theorem isVar_at {s : ByteArray} (h : 0 < s.size) : isVar s.data.toList = (letB s[0] && isName s.data.toList) := by
  have := Lib.data_getElem? s 0 h
  cases hs : s.data.toList with
  | nil => rw [hs] at this; simp at this
  | cons a t => rw [hs] at this; simp at this; unfold isVar; rw [this]

set_option maxHeartbeats 1000000 in
theorem isVar19 (s : ByteArray) (w : World) :
    Calls Try.prog 19 #[.string s] w fun e w' => e = .returned (.bool (isVar s.data.toList)) ∧ Below w.heap.size w w' := by
  by_cases h0 : 0 < s.size
  · have he : s.toList.isEmpty = false := by
      rw [Lib.toList_data, List.isEmpty_eq_false_iff, ← List.length_pos_iff, ← Lib.size_eq]; exact h0
    have h0' : (0 : Int) < (s.size : Int) := by omega
    have HV : Hid (isVar s.data.toList = (letB s[0] && isName s.data.toList)) := isVar_at h0
    cases hl : letB s[0]
    · go_enter Try.func19, Try.ntmps19
      go_wp2_with (go_at_call 23; refine (isLetter23 _ _).mono ?_; rintro e w' ⟨rfl, hw⟩; rw [hw]; clear hw)
      go_ret
      exact ⟨ret_bool (by rw [HV.out, hl]; rfl), Below.refl _ _⟩
    · go_enter Try.func19, Try.ntmps19
      go_wp2_with (first
        | (go_at_call 23; refine (isLetter23 _ _).mono ?_; rintro e w' ⟨rfl, hw⟩; rw [hw]; clear hw)
        | (go_at_call 24; refine (is24 _ _).mono ?_; rintro e w1 ⟨rfl, hb⟩))
      go_ret
      exact ⟨ret_bool (by rw [HV.out, hl]; rfl), hb⟩
  · have he : s.toList.isEmpty = true := by
      rw [Lib.toList_data, List.isEmpty_iff, ← List.length_eq_zero_iff, ← Lib.size_eq]; omega
    have HV : Hid (isVar s.data.toList = false) := by
      rw [Lib.toList_data] at he
      show _ = _
      rw [List.isEmpty_iff.1 he]
      rfl
    go_enter Try.func19, Try.ntmps19
    go_wp2
    go_ret
    exact ⟨ret_bool (by rw [HV.out]), Below.refl _ _⟩
end Go.Proofs.Qxb6605907a
