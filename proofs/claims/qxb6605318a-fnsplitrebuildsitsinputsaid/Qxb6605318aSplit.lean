/-
  The walks of isDigits, isDigitByte and Split.
-/
import Derived.Test.Qxb6605318aPlain2
import Derived.Laws.RangeAny
import Derived.Deep.LoopGhost
import Derived.Below
import Derived.Deep.RegionWith
namespace Go.Proofs.Qxb6605318a
open Go.RowKit

theorem ret_bool {a b : Bool} (h : a = b) : Ending.returned (.bool a) = .returned (.bool b) := by rw [h]

theorem isDigByte15 (c : UInt8) (w : World) :
    Calls Try.prog 15 #[.int .u8 (c.toNat : Int)] w fun e w' => e = .returned (.bool (isDig c)) ∧ w' = w := by
  by_cases h1 : 48 ≤ c.toNat
  · by_cases h2 : c.toNat ≤ 57
    · have hd : isDig c = true := by unfold isDig; simp [h1, h2]
      rw [hd]
      go_enter Try.func15, Try.ntmps15
      go_wp2
      go_ret
      exact ⟨ret_bool (decide_eq_true (by omega)), rfl⟩
    · have hd : isDig c = false := by unfold isDig; simp [h2]
      rw [hd]
      go_enter Try.func15, Try.ntmps15
      go_wp2
      go_ret
      exact ⟨ret_bool (decide_eq_false (by omega)), rfl⟩
  · have hd : isDig c = false := by unfold isDig; simp [h1]
    rw [hd]
    go_enter Try.func15, Try.ntmps15
    go_wp2
    go_ret
    exact ⟨rfl, rfl⟩

theorem digs_bad {s : ByteArray} {i : Nat} (hi : i < s.size) (h : isDig s[i] = false) : digs s.data.toList = false := by
  cases hd : digs s.data.toList with
  | false => rfl
  | true =>
    unfold digs at hd
    simp only [Bool.and_eq_true] at hd
    have := List.all_eq_true.1 hd.2 s[i] (List.mem_of_getElem? (Lib.data_getElem? s i hi))
    rw [h] at this
    cases this
theorem take_snoc_b (s : ByteArray) (k : Nat) (h : k < s.size) : s.data.toList.take (k + 1) = s.data.toList.take k ++ [s[k]] := by
  rw [List.take_succ_eq_append_getElem (by simpa using h)]; rfl
theorem all_snoc {s : ByteArray} {k : Nat} (hk : k < s.size) (h : (s.data.toList.take k).all isDig = true) (hd : isDig s[k] = true) : (s.data.toList.take (k + 1)).all isDig = true := by
  rw [take_snoc_b s k hk, List.all_append, h]
  simp [hd]

set_option maxHeartbeats 1000000 in
theorem isDigits26 (s : ByteArray) (w : World) :
    Calls Try.prog 26 #[.string s] w fun e w' => e = .returned (.bool (digs s.data.toList)) ∧ Below w.heap.size w w' := by
  go_enter Try.func26, Try.ntmps26
  go_wp2
  go_loopg [2, 4] s.size (fun g _ _ wx => ∃ i : Nat, i + g = s.size ∧ wx = w.iter s i ∧ Hid ((s.data.toList.take i).all isDig = true))
  case atStart => exact ⟨0, by omega, rfl, rfl⟩
  case round =>
    obtain ⟨i, hig, rfl, HA⟩ := hrel
    by_cases hi : i < s.size
    · obtain ⟨x, hx⟩ : ∃ x, s[i] = x := ⟨_, rfl⟩
      by_cases hd : isDig x = true
      · have hd2 := hd
        unfold isDig at hd2
        simp only [Bool.and_eq_true, decide_eq_true_eq] at hd2
        obtain ⟨h48, h57⟩ := hd2
        have hnx := fun ty => run_next_ascii (P := Try.prog) w s i ty hi (by rw [hx]; omega)
        rw [hx] at hnx
        have HA' : Hid ((s.data.toList.take (i + 1)).all isDig = true) := all_snoc hi HA.out (by rw [hx]; exact hd)
        clear hd hx HA
        go_wp2
        go_roundg (gk - 1)
        case measure => omega
        case rel => exact ⟨i + 1, by omega, rfl, HA'⟩
      · have hdf : isDig x = false := by simpa using hd
        have HD : Hid (digs s.data.toList = false) := digs_bad hi (by rw [hx]; exact hdf)
        by_cases h128 : x.toNat < 128
        · have hnx := fun ty => run_next_ascii (P := Try.prog) w s i ty hi (by rw [hx]; exact h128)
          rw [hx] at hnx
          by_cases h48 : 48 ≤ x.toNat
          · have h57 : 57 < x.toNat := by
              by_cases h : x.toNat ≤ 57
              · exfalso; apply hd; unfold isDig; simp [h48, h]
              · omega
            clear hd hdf hx HA
            go_wp2
            go_ret
            exact ⟨by rw [HD.out]; rfl, (Below.refl _ _).alloc (Nat.le_refl _) _⟩
          · clear hd hdf hx HA
            go_wp2
            go_ret
            exact ⟨by rw [HD.out]; rfl, (Below.refl _ _).alloc (Nat.le_refl _) _⟩
        · have hnx := fun ty => run_next_any (P := Try.prog) w s i ty hi
          have hh := decode_high s i hi (by rw [hx]; omega)
          obtain ⟨r, d, hrd⟩ : ∃ r d, Utf8.decode s i = (r, d) := ⟨_, _, rfl⟩
          rw [hrd] at hnx hh
          obtain ⟨hr, _⟩ := hh
          clear hd hdf hx HA hrd
          go_wp2
          go_ret
          exact ⟨by rw [HD.out]; rfl, (Below.refl _ _).alloc (Nat.le_refl _) _⟩
    · have hnx := fun ty => run_next_end (P := Try.prog) w s i ty hi
      have hie : i = s.size := by omega
      have hall : s.data.toList.all isDig = true := by
        have := HA.out
        rwa [hie, Lib.size_eq, List.take_length] at this
      have HD : Hid (digs s.data.toList = !s.toList.isEmpty) := by
        show _ = _
        unfold digs
        rw [hall, Lib.toList_data, Bool.and_true]
      clear hie hall HA
      go_wp2
      go_ret
      exact ⟨by rw [HD.out]; rfl, (Below.refl _ _).alloc (Nat.le_refl _) _⟩

/-- What Split and the scanner hand back: two strings and a bool that spell r. -/
def Gives (r : List UInt8 × List UInt8 × Bool) (e : Ending) : Prop :=
  ∃ a b : ByteArray, e = .returned (.tuple #[.string a, .string b, .bool r.2.2]) ∧ a.data.toList = r.1 ∧ b.data.toList = r.2.1

theorem below_d {w w' : World} {n : Nat} (h : Below (w.drewN n).heap.size (w.drewN n) w') : Below w.heap.size w w' := ⟨h.os, h.tape, h.output, h.size, h.block⟩

set_option maxHeartbeats 1000000 in
theorem split9 (s : ByteArray) (w : World) (hs : s.size ≤ 1048576) :
    Calls Try.prog 9 #[.string s] w fun e w' => Gives (splitL s.data.toList) e ∧ Below w.heap.size w w' := by
  obtain ⟨d, hd⟩ : ∃ d : ByteArray, d = ⟨(Lib.trimPrefix s.data.toList [45]).toArray⟩ := ⟨_, rfl⟩
  have hdl : d.data.toList = Lib.trimPrefix s.data.toList [45] := by rw [hd]
  have hds : d.size ≤ 1048576 := by
    have := Lib.trimPrefix_le s.data.toList [45]
    rw [← hdl, ← Lib.size_eq, ← Lib.size_eq] at this
    omega
  have hsp : splitL s.data.toList = bodyL d.data.toList := by unfold splitL; rw [hdl]
  rw [hsp]
  have HD : Hid (d = ⟨(Lib.trimPrefix s.data.toList [45]).toArray⟩) := hd
  clear hd hdl hsp
  go_enter Try.func9, Try.ntmps9
  go_wp2_with (go_at_call 25; refine (Try.strings_TrimPrefix _ _ _).mono ?_; rintro e w' ⟨rfl, hw⟩; rw [hw]; clear hw)
  rw [← HD.out]
  refine (cut24_any d _ hds).mono ?_
  rintro e w2 ⟨⟨wh, fr, rfl, hwh, hfr⟩, n2, rfl⟩
  obtain ⟨pt, hpt⟩ : ∃ pt, pt = (dotCut d.data.toList).2.2 := ⟨_, rfl⟩
  rw [← hpt]
  have HB : Hid (bodyL d.data.toList = if digs wh.data.toList && (!pt || digs fr.data.toList) then (wh.data.toList, fr.data.toList, true) else ([], [], false)) := by
    show _ = _; unfold bodyL; rw [hwh, hfr, hpt]
  clear hwh hfr hpt HD
  cases hdw : digs wh.data.toList
  · have HB' : Hid (bodyL d.data.toList = ([], [], false)) := by show _ = _; rw [HB.out, hdw]; rfl
    go_wp2_with (go_at_call 26; refine (isDigits26 _ _).mono ?_; rintro e w3 ⟨rfl, hb3⟩)
    go_ret3
    exact ⟨by rw [HB'.out]; exact ⟨_, _, rfl, rfl, rfl⟩, below_d (n := n2) hb3⟩
  · cases pt
    · have HB' : Hid (bodyL d.data.toList = (wh.data.toList, fr.data.toList, true)) := by show _ = _; rw [HB.out, hdw]; rfl
      go_wp2_with (go_at_call 26; refine (isDigits26 _ _).mono ?_; rintro e w3 ⟨rfl, hb3⟩)
      go_ret3
      exact ⟨by rw [HB'.out]; exact ⟨_, _, rfl, rfl, rfl⟩, below_d (n := n2) hb3⟩
    · cases hdf : digs fr.data.toList
      · have HB' : Hid (bodyL d.data.toList = ([], [], false)) := by show _ = _; rw [HB.out, hdw, hdf]; rfl
        go_wp2_with fail
        refine (isDigits26 _ _).mono ?_
        rintro e w3 ⟨rfl, hb3⟩
        go_wp2_with fail
        refine (isDigits26 _ _).mono ?_
        rintro e w4 ⟨rfl, hb4⟩
        go_wp2
        go_ret3
        exact ⟨by rw [HB'.out]; exact ⟨_, _, rfl, rfl, rfl⟩, (below_d (n := n2) hb3).trans (hb4.mono (by have := hb3.size; simpa using this))⟩
      · have HB' : Hid (bodyL d.data.toList = (wh.data.toList, fr.data.toList, true)) := by show _ = _; rw [HB.out, hdw, hdf]; rfl
        go_wp2_with fail
        refine (isDigits26 _ _).mono ?_
        rintro e w3 ⟨rfl, hb3⟩
        go_wp2_with fail
        refine (isDigits26 _ _).mono ?_
        rintro e w4 ⟨rfl, hb4⟩
        go_wp2
        go_ret3
        exact ⟨by rw [HB'.out]; exact ⟨_, _, rfl, rfl, rfl⟩, (below_d (n := n2) hb3).trans (hb4.mono (by have := hb3.size; simpa using this))⟩
end Go.Proofs.Qxb6605318a
