/-
  The walk of splitScan, and of FnSplitMatchesScanner.
-/
import Derived.Test.Qxb6605318aSplit
import Derived.Test.Qxb6605318aWhole
namespace Go.Proofs.Qxb6605318a
open Go.RowKit

theorem zzBytes8_any (a : ByteArray) (w : World) (h : a.size ≤ maxLen) :
    Calls Try.prog 8 #[.string a] w fun e w' => e = .returned (.bool (decide (a.size ≤ 1048576))) ∧ w' = w := by
  unfold maxLen at h
  by_cases h1 : a.size ≤ 1048576
  · rw [decide_eq_true h1]
    go_enter Try.func8, Try.ntmps8
    go_wp2
    go_ret
    exact ⟨rfl, rfl⟩
  · rw [decide_eq_false h1]
    go_enter Try.func8, Try.ntmps8
    go_wp2
    go_ret
    exact ⟨rfl, rfl⟩

theorem all_snoc' {s : ByteArray} {st k : Nat} (hst : st ≤ k) (hk : k < s.size) (h : ((s.data.toList.drop st).take (k - st)).all isDig = true) (hd : isDig s[k] = true) : ((s.data.toList.drop st).take (k + 1 - st)).all isDig = true := by
  have e : k + 1 - st = (k - st) + 1 := by omega
  have hx : (s.data.toList.drop st)[k - st]? = some s[k] := by
    rw [List.getElem?_drop]
    have : st + (k - st) = k := by omega
    rw [this]
    exact Lib.data_getElem? s k hk
  obtain ⟨hl, he⟩ := List.getElem?_eq_some_iff.1 hx
  rw [e, List.take_succ_eq_append_getElem hl, List.all_append, h, he]
  simp [hd]
theorem drop_at {s : ByteArray} {st k : Nat} (hst : st ≤ k) (hk : k < s.size) : (s.data.toList.drop st)[k - st]? = some s[k] := by
  rw [List.getElem?_drop]
  have : st + (k - st) = k := by omega
  rw [this]
  exact Lib.data_getElem? s k hk
theorem drop_len (s : ByteArray) (st : Nat) : (s.data.toList.drop st).length = s.size - st := by
  rw [List.length_drop, ← Lib.size_eq]
theorem gives_false {r : List UInt8 × List UInt8 × Bool} (h : r = ([], [], false)) : Gives r (.returned (.tuple #[.string ⟨#[]⟩, .string ⟨#[]⟩, .bool false])) := by
  rw [h]; exact ⟨_, _, rfl, rfl, rfl⟩
theorem gives_true {r : List UInt8 × List UInt8 × Bool} {a b : ByteArray} (h : r = (a.data.toList, b.data.toList, true)) : Gives r (.returned (.tuple #[.string a, .string b, .bool true])) := by
  rw [h]; exact ⟨_, _, rfl, rfl, rfl⟩
theorem ext_end (s : ByteArray) (k : Nat) : (s.extract k s.size).data.toList = s.data.toList.drop k := by
  rw [Lib.extract_data]; exact List.take_of_length_le (by simp)

/-- The ways out of the scanner, by the plain function. -/
theorem out_none {s : ByteArray} {st : Nat} (h : ∀ hk : st < s.size, isDig s[st] = false) : bodyL (s.data.toList.drop st) = ([], [], false) := by
  refine body_none fun x hx => ?_
  rw [List.getElem?_drop, Nat.add_zero] at hx
  have hl := (List.getElem?_eq_some_iff.1 hx).1
  rw [← Lib.size_eq] at hl
  rw [Lib.data_getElem? s st hl] at hx
  rw [← Option.some.inj hx]
  exact h hl
theorem out_digits {s : ByteArray} {st k : Nat} (hst : st < k) (hk : k = s.size) (h : ((s.data.toList.drop st).take (k - st)).all isDig = true) : bodyL (s.data.toList.drop st) = ((s.extract st s.size).data.toList, (⟨#[]⟩ : ByteArray).data.toList, true) := by
  rw [List.take_of_length_le (by rw [drop_len]; omega)] at h
  rw [body_digits (fun e => by have := drop_len s st; rw [e] at this; simp at this; omega) h, ext_end]
theorem out_bad {s : ByteArray} {st k : Nat} (hst : st ≤ k) (hk : k < s.size) (h : ((s.data.toList.drop st).take (k - st)).all isDig = true) (h1 : isDig s[k] = false) (h2 : s[k] ≠ 46) : bodyL (s.data.toList.drop st) = ([], [], false) :=
  body_bad (drop_at hst hk) h1 h2 h
theorem out_point {s : ByteArray} {st k : Nat} (hst : st < k) (hk : k < s.size) (h : ((s.data.toList.drop st).take (k - st)).all isDig = true) (h2 : s[k] = 46) :
    bodyL (s.data.toList.drop st) = if digs (s.data.toList.drop (k + 1)) then ((s.extract st k).data.toList, (s.extract (k + 1) s.size).data.toList, true) else ([], [], false) := by
  have hx := drop_at (Nat.le_of_lt hst) hk
  rw [h2] at hx
  rw [body_point (by omega) hx h, List.drop_drop, ext_end, Lib.extract_data]
  have : st + (k - st + 1) = k + 1 := by omega
  rw [this]
theorem out_frac_bad {s : ByteArray} {f k : Nat} (hf : f ≤ k) (hk : k < s.size) (h1 : isDig s[k] = false) : digs (s.data.toList.drop f) = false := by
  cases hd : digs (s.data.toList.drop f) with
  | false => rfl
  | true =>
    unfold digs at hd
    simp only [Bool.and_eq_true] at hd
    have := List.all_eq_true.1 hd.2 s[k] (List.mem_of_getElem? (drop_at hf hk))
    rw [h1] at this
    cases this
theorem out_frac_none {s : ByteArray} {f : Nat} (hf : s.size ≤ f) : digs (s.data.toList.drop f) = false := by
  rw [List.drop_eq_nil_of_le (by rw [← Lib.size_eq]; exact hf)]
  rfl
theorem out_frac_good {s : ByteArray} {f k : Nat} (hf : f < k) (hk : k = s.size) (h : ((s.data.toList.drop f).take (k - f)).all isDig = true) : digs (s.data.toList.drop f) = true := by
  rw [List.take_of_length_le (by rw [drop_len]; omega)] at h
  unfold digs
  rw [h]
  have : (s.data.toList.drop f).isEmpty = false := by
    rw [List.isEmpty_eq_false_iff, ← List.length_pos_iff, drop_len]
    omega
  rw [this]
  rfl

set_option maxHeartbeats 4000000 in
theorem scan_minus (s : ByteArray) (D : List UInt8) (w : World) (hs : s.size ≤ 1048576) (h0 : 0 < s.size) (hd0 : ((s[0].toNat : Int) == 45) = true) (HD : Hid (s.data.toList.drop 1 = D)) :
    Calls Try.prog 10 #[.string s] w fun e w' => Gives (bodyL D) e ∧ ∃ n, w' = w.drewN n := by
  have h0' : (0 : Int) < (s.size : Int) := by omega
  go_enter Try.func10, Try.ntmps10
  go_wp2
  clear hd0
  go_loop [5] (fun i => ∃ k : Nat, 1 ≤ k ∧ k ≤ s.size ∧ i = .int .i64 k ∧ Hid (((s.data.toList.drop 1).take (k - 1)).all isDig = true)) (fun i => s.size - (intOf i).toNat)
  case atStart => exact ⟨1, Nat.le_refl _, by omega, rfl, by show _ = _; simp⟩
  case round =>
    obtain ⟨k, hk1, hk2, rfl, HA⟩ := hrel
    by_cases hlt : k < s.size
    · cases hdig : isDig s[k]
      · -- no digit: the loop is left
        have HG : Hid (isDig s[k] = false) := hdig
        by_cases hk0 : k = 1
        · have HR : Hid (bodyL D = ([], [], false)) := by show _ = _; rw [← HD.out]; exact out_none (fun h => by rw [← HG.out]; congr 1; simp only [hk0])
          have hkd : ((k : Int) == 1) = true := by simp; omega
          clear hk0
          go_wp2_with (go_at_call 15; refine (isDigByte15 _ _).mono ?_; rintro e w' ⟨rfl, hw⟩; rw [hw]; clear hw)
          go_ret3
          exact ⟨gives_false HR.out, 0, rfl⟩
        · have hkd : ((k : Int) == 1) = false := by simp; omega
          have hke : ((k : Int) == (s.size : Int)) = false := by simp; omega
          by_cases h46 : s[k] = 46
          · have hdot : ((s[k].toNat : Int) != 46) = false := by rw [h46]; rfl
            have HR : Hid (bodyL D = if digs (s.data.toList.drop (k + 1)) then ((s.extract 1 k).data.toList, (s.extract (k + 1) s.size).data.toList, true) else ([], [], false)) := by show _ = _; rw [← HD.out]; exact out_point (by omega) hlt HA.out h46
            clear h46 HA
            go_wp2_with (go_at_call 15; refine (isDigByte15 _ _).mono ?_; rintro e w' ⟨rfl, hw⟩; rw [hw]; clear hw)
            clear hdig
            go_loop [5] (fun i => ∃ m : Nat, k + 1 ≤ m ∧ m ≤ s.size ∧ i = .int .i64 m ∧ Hid (((s.data.toList.drop (k + 1)).take (m - (k + 1))).all isDig = true)) (fun i => s.size - (intOf i).toNat)
            case atStart => exact ⟨k + 1, Nat.le_refl _, by omega, by go_num, by show _ = _; simp⟩
            case round =>
              obtain ⟨m, hm1, hm2, rfl, HA2⟩ := hrel
              by_cases hlt2 : m < s.size
              · cases hdig2 : isDig s[m]
                · have HF : Hid (digs (s.data.toList.drop (k + 1)) = false) := out_frac_bad hm1 hlt2 hdig2
                  have hme : ((m : Int) != (s.size : Int)) = true := by simp; omega
                  go_wp2_with (go_at_call 15; refine (isDigByte15 _ _).mono ?_; rintro e w' ⟨rfl, hw⟩; rw [hw]; clear hw)
                  go_ret3
                  exact ⟨gives_false (by rw [HR.out, HF.out]; rfl), 0, rfl⟩
                · have HA3 : Hid (((s.data.toList.drop (k + 1)).take (m + 1 - (k + 1))).all isDig = true) := all_snoc' hm1 hlt2 HA2.out hdig2
                  go_wp2_with (go_at_call 15; refine (isDigByte15 _ _).mono ?_; rintro e w' ⟨rfl, hw⟩; rw [hw]; clear hw)
                  go_round
                  case rel => exact ⟨m + 1, by omega, by omega, by go_num, HA3⟩
                  case measure => simp [intOf]; omega
              · have hme : ((m : Int) != (s.size : Int)) = false := by simp; omega
                by_cases hmk : m = k + 1
                · have HF : Hid (digs (s.data.toList.drop (k + 1)) = false) := out_frac_none (by omega)
                  have hmf : ((m : Int) == (k : Int) + 1) = true := by simp; omega
                  clear hmk
                  go_wp2
                  go_ret3
                  exact ⟨gives_false (by rw [HR.out, HF.out]; rfl), 0, rfl⟩
                · have HF : Hid (digs (s.data.toList.drop (k + 1)) = true) := out_frac_good (k := m) (by omega) (by omega) HA2.out
                  have hmf : ((m : Int) == (k : Int) + 1) = false := by simp; omega
                  clear hmk
                  go_wp2
                  go_quiet (fail)
                  go_wp2
                  go_ret3
                  exact ⟨gives_true (by rw [HR.out, HF.out]; rfl), _, rfl⟩
          · have hdot : ((s[k].toNat : Int) != 46) = true := by
              simp; intro h; exact h46 (UInt8.toNat_inj.1 (by simpa using (by omega : s[k].toNat = 46)))
            have HR : Hid (bodyL D = ([], [], false)) := by show _ = _; rw [← HD.out]; exact out_bad hk1 hlt HA.out HG.out h46
            clear h46
            go_wp2_with (go_at_call 15; refine (isDigByte15 _ _).mono ?_; rintro e w' ⟨rfl, hw⟩; rw [hw]; clear hw)
            go_ret3
            exact ⟨gives_false HR.out, 0, rfl⟩
      · have HA3 : Hid (((s.data.toList.drop 1).take (k + 1 - 1)).all isDig = true) := all_snoc' hk1 hlt HA.out hdig
        go_wp2_with (go_at_call 15; refine (isDigByte15 _ _).mono ?_; rintro e w' ⟨rfl, hw⟩; rw [hw]; clear hw)
        go_round
        case rel => exact ⟨k + 1, by omega, by omega, by go_num, HA3⟩
        case measure => simp [intOf]; omega
    · have hke : ((k : Int) == (s.size : Int)) = true := by simp; omega
      by_cases hk0 : k = 1
      · have HR : Hid (bodyL D = ([], [], false)) := by show _ = _; rw [← HD.out]; exact out_none (fun h => by omega)
        have hkd : ((k : Int) == 1) = true := by simp; omega
        clear hk0
        go_wp2
        go_ret3
        exact ⟨gives_false HR.out, 0, rfl⟩
      · have HR : Hid (bodyL D = ((s.extract 1 s.size).data.toList, (⟨#[]⟩ : ByteArray).data.toList, true)) := by show _ = _; rw [← HD.out]; exact out_digits (by omega) (by omega) HA.out
        have hkd : ((k : Int) == 1) = false := by simp; omega
        clear hk0
        go_wp2
        go_ret3
        first | exact ⟨gives_true HR.out, 0, rfl⟩ | exact ⟨gives_true (by simpa using HR.out), 0, rfl⟩

set_option maxHeartbeats 8000000 in
theorem scan_plain (s : ByteArray) (D : List UInt8) (w : World) (hs : s.size ≤ 1048576) (hp : ∀ h : 0 < s.size, s[0] ≠ 45) (HD : Hid (s.data.toList.drop 0 = D)) :
    Calls Try.prog 10 #[.string s] w fun e w' => Gives (bodyL D) e ∧ ∃ n, w' = w.drewN n := by
  by_cases h0 : 0 < s.size
  · have h0' : (0 : Int) < (s.size : Int) := by omega
    have hd0 : ((s[0].toNat : Int) == 45) = false := by
      simp; intro h; exact hp h0 (UInt8.toNat_inj.1 (by simpa using (by omega : s[0].toNat = 45)))
    clear hp
    go_enter Try.func10, Try.ntmps10
    go_wp2
    clear hd0
    go_loop [5] (fun i => ∃ k : Nat, 0 ≤ k ∧ k ≤ s.size ∧ i = .int .i64 k ∧ Hid (((s.data.toList.drop 0).take (k - 0)).all isDig = true)) (fun i => s.size - (intOf i).toNat)
    case atStart => exact ⟨0, Nat.le_refl _, by omega, rfl, by show _ = _; simp⟩
    case round =>
      obtain ⟨k, hk1, hk2, rfl, HA⟩ := hrel
      by_cases hlt : k < s.size
      · cases hdig : isDig s[k]
        · -- no digit: the loop is left
          have HG : Hid (isDig s[k] = false) := hdig
          by_cases hk0 : k = 0
          · have HR : Hid (bodyL D = ([], [], false)) := by show _ = _; rw [← HD.out]; exact out_none (fun h => by rw [← HG.out]; congr 1; simp only [hk0])
            have hkd : ((k : Int) == 0) = true := by simp; omega
            clear hk0
            go_wp2_with (go_at_call 15; refine (isDigByte15 _ _).mono ?_; rintro e w' ⟨rfl, hw⟩; rw [hw]; clear hw)
            go_ret3
            exact ⟨gives_false HR.out, 0, rfl⟩
          · have hkd : ((k : Int) == 0) = false := by simp; omega
            have hke : ((k : Int) == (s.size : Int)) = false := by simp; omega
            by_cases h46 : s[k] = 46
            · have hdot : ((s[k].toNat : Int) != 46) = false := by rw [h46]; rfl
              have HR : Hid (bodyL D = if digs (s.data.toList.drop (k + 1)) then ((s.extract 0 k).data.toList, (s.extract (k + 1) s.size).data.toList, true) else ([], [], false)) := by show _ = _; rw [← HD.out]; exact out_point (by omega) hlt HA.out h46
              clear h46 HA
              go_wp2_with (go_at_call 15; refine (isDigByte15 _ _).mono ?_; rintro e w' ⟨rfl, hw⟩; rw [hw]; clear hw)
              clear hdig
              go_loop [5] (fun i => ∃ m : Nat, k + 1 ≤ m ∧ m ≤ s.size ∧ i = .int .i64 m ∧ Hid (((s.data.toList.drop (k + 1)).take (m - (k + 1))).all isDig = true)) (fun i => s.size - (intOf i).toNat)
              case atStart => exact ⟨k + 1, Nat.le_refl _, by omega, by go_num, by show _ = _; simp⟩
              case round =>
                obtain ⟨m, hm1, hm2, rfl, HA2⟩ := hrel
                by_cases hlt2 : m < s.size
                · cases hdig2 : isDig s[m]
                  · have HF : Hid (digs (s.data.toList.drop (k + 1)) = false) := out_frac_bad hm1 hlt2 hdig2
                    have hme : ((m : Int) != (s.size : Int)) = true := by simp; omega
                    go_wp2_with (go_at_call 15; refine (isDigByte15 _ _).mono ?_; rintro e w' ⟨rfl, hw⟩; rw [hw]; clear hw)
                    go_ret3
                    exact ⟨gives_false (by rw [HR.out, HF.out]; rfl), 0, rfl⟩
                  · have HA3 : Hid (((s.data.toList.drop (k + 1)).take (m + 1 - (k + 1))).all isDig = true) := all_snoc' hm1 hlt2 HA2.out hdig2
                    go_wp2_with (go_at_call 15; refine (isDigByte15 _ _).mono ?_; rintro e w' ⟨rfl, hw⟩; rw [hw]; clear hw)
                    go_round
                    case rel => exact ⟨m + 1, by omega, by omega, by go_num, HA3⟩
                    case measure => simp [intOf]; omega
                · have hme : ((m : Int) != (s.size : Int)) = false := by simp; omega
                  by_cases hmk : m = k + 1
                  · have HF : Hid (digs (s.data.toList.drop (k + 1)) = false) := out_frac_none (by omega)
                    have hmf : ((m : Int) == (k : Int) + 1) = true := by simp; omega
                    clear hmk
                    go_wp2
                    go_ret3
                    exact ⟨gives_false (by rw [HR.out, HF.out]; rfl), 0, rfl⟩
                  · have HF : Hid (digs (s.data.toList.drop (k + 1)) = true) := out_frac_good (k := m) (by omega) (by omega) HA2.out
                    have hmf : ((m : Int) == (k : Int) + 1) = false := by simp; omega
                    clear hmk
                    go_wp2
                    go_quiet (fail)
                    go_wp2
                    go_ret3
                    exact ⟨gives_true (by rw [HR.out, HF.out]; rfl), _, rfl⟩
            · have hdot : ((s[k].toNat : Int) != 46) = true := by
                simp; intro h; exact h46 (UInt8.toNat_inj.1 (by simpa using (by omega : s[k].toNat = 46)))
              have HR : Hid (bodyL D = ([], [], false)) := by show _ = _; rw [← HD.out]; exact out_bad hk1 hlt HA.out HG.out h46
              clear h46
              go_wp2_with (go_at_call 15; refine (isDigByte15 _ _).mono ?_; rintro e w' ⟨rfl, hw⟩; rw [hw]; clear hw)
              go_ret3
              exact ⟨gives_false HR.out, 0, rfl⟩
        · have HA3 : Hid (((s.data.toList.drop 0).take (k + 1 - 0)).all isDig = true) := all_snoc' hk1 hlt HA.out hdig
          go_wp2_with (go_at_call 15; refine (isDigByte15 _ _).mono ?_; rintro e w' ⟨rfl, hw⟩; rw [hw]; clear hw)
          go_round
          case rel => exact ⟨k + 1, by omega, by omega, by go_num, HA3⟩
          case measure => simp [intOf]; omega
      · have hke : ((k : Int) == (s.size : Int)) = true := by simp; omega
        by_cases hk0 : k = 0
        · have HR : Hid (bodyL D = ([], [], false)) := by show _ = _; rw [← HD.out]; exact out_none (fun h => by omega)
          have hkd : ((k : Int) == 0) = true := by simp; omega
          clear hk0
          go_wp2
          go_ret3
          exact ⟨gives_false HR.out, 0, rfl⟩
        · have HR : Hid (bodyL D = ((s.extract 0 s.size).data.toList, (⟨#[]⟩ : ByteArray).data.toList, true)) := by show _ = _; rw [← HD.out]; exact out_digits (by omega) (by omega) HA.out
          have hkd : ((k : Int) == 0) = false := by simp; omega
          clear hk0
          go_wp2
          go_ret3
          first | exact ⟨gives_true HR.out, 0, rfl⟩ | exact ⟨gives_true (by simpa using HR.out), 0, rfl⟩
  · have hg : decide ((0 : Int) < (s.size : Int)) = false := by simpa using h0
    have HR : Hid (bodyL D = ([], [], false)) := by show _ = _; rw [← HD.out]; exact out_none (fun h => by omega)
    have hsz : s.size = 0 := by omega
    clear hp h0
    go_enter Try.func10, Try.ntmps10
    go_wp2
    refine wp_loop_rounds 1 ?_
    rw [rounds_succ]
    go_wp2
    go_ret3
    exact ⟨gives_false HR.out, 0, rfl⟩

theorem scan10 (s : ByteArray) (w : World) (hs : s.size ≤ 1048576) :
    Calls Try.prog 10 #[.string s] w fun e w' => Gives (splitL s.data.toList) e ∧ ∃ n, w' = w.drewN n := by
  cases hp : Lib.hasPrefix s.data.toList [45]
  · unfold splitL
    rw [trim_same hp]
    exact scan_plain s s.data.toList w hs (fun h e => by rw [(prefix_iff s).2 ⟨h, e⟩] at hp; cases hp) rfl
  · obtain ⟨h0, h1⟩ := (prefix_iff s).1 hp
    unfold splitL
    refine scan_minus s _ w hs h0 (by rw [h1]; rfl) ?_
    show _ = _
    rw [← trim_drop hp, ext_end]

theorem ba_ext {a b : ByteArray} (h : a.data.toList = b.data.toList) : a = b := by
  rw [← Lib.mk_data a, ← Lib.mk_data b, h]

set_option maxHeartbeats 1000000 in
theorem law3 (s : ByteArray) (w : World) (h : s.size ≤ maxLen) :
    Calls Try.prog 3 #[.string s] w fun e w' => e = .returned (.bool true) ∧ Below w.heap.size w w' := by
  have HM : Hid (s.size ≤ maxLen) := h
  by_cases hs : s.size ≤ 1048576
  · have hz : decide (s.size ≤ 1048576) = true := decide_eq_true hs
    go_enter Try.func3, Try.ntmps3
    go_wp2_with (first
      | (go_at_call 8; refine (zzBytes8_any _ _ HM.out).mono ?_; rintro e w' ⟨rfl, hw⟩; rw [hw, hz]; clear hw)
      | (go_at_call 9; refine (split9 _ _ hs).mono ?_; rintro e w1 ⟨⟨a1, b1, rfl, ha1, hb1⟩, hB1⟩)
      | (go_at_call 10; refine (scan10 _ _ hs).mono ?_; rintro e w2 ⟨⟨a2, b2, rfl, ha2, hb2⟩, n2, rfl⟩; obtain rfl : a2 = a1 := ba_ext (ha2.trans ha1.symm); obtain rfl : b2 = b1 := ba_ext (hb2.trans hb1.symm)))
    go_ret
    exact ⟨ret_bool (by simp), hB1.trans ⟨rfl, rfl, rfl, Nat.le_refl _, fun _ _ => rfl⟩⟩
  · have hz : decide (s.size ≤ 1048576) = false := decide_eq_false hs
    go_enter Try.func3, Try.ntmps3
    go_wp2_with (go_at_call 8; refine (zzBytes8_any _ _ HM.out).mono ?_; rintro e w' ⟨rfl, hw⟩; rw [hw, hz]; clear hw)
    go_ret
    exact ⟨rfl, Below.refl _ _⟩
end Go.Proofs.Qxb6605318a
