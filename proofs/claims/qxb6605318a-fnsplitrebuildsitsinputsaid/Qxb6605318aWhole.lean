/-
  The walk of wholeLen.
-/
import Derived.Test.Qxb6605318aClone
import Derived.Test.Qxb6605318aPlain1
namespace Go.Proofs.Qxb6605318a
open Go.RowKit

theorem dot_at {l : List UInt8} {k : Nat} (h : l[k]? = some 46) (hn : ∀ i, i < k → l[i]? ≠ some 46) : (dotCut l).1.length = k := by
  have hge := Lib.indexByte_ge l 46
  have hk : k < l.length := (List.getElem?_eq_some_iff.1 h).1
  by_cases h1 : Lib.indexByte l 46 = -1
  · exact absurd h (Lib.indexByte_none h1 k)
  · obtain ⟨i, hi⟩ : ∃ i : Nat, Lib.indexByte l 46 = (i : Int) := ⟨(Lib.indexByte l 46).toNat, by omega⟩
    obtain ⟨h2, h3⟩ := Lib.indexByte_some hi
    have : i = k := by
      rcases Nat.lt_trichotomy i k with hl | hl | hl
      · exact absurd h2 (hn i hl)
      · exact hl
      · exact absurd h (h3 k hl)
    rw [dotCut_some hi]
    simp
    omega
theorem dot_none {l : List UInt8} (hn : ∀ i, i < l.length → l[i]? ≠ some 46) : (dotCut l).1.length = l.length := by
  have hge := Lib.indexByte_ge l 46
  by_cases h1 : Lib.indexByte l 46 = -1
  · rw [dotCut_none h1]
  · obtain ⟨i, hi⟩ : ∃ i : Nat, Lib.indexByte l 46 = (i : Int) := ⟨(Lib.indexByte l 46).toNat, by omega⟩
    obtain ⟨h2, h3⟩ := Lib.indexByte_some hi
    exact absurd h2 (hn i (List.getElem?_eq_some_iff.1 h2).1)

/-- A leading minus, by its byte. -/
theorem prefix_iff (s : ByteArray) : Lib.hasPrefix s.data.toList [45] = true ↔ ∃ h : 0 < s.size, s[0] = 45 := by
  unfold Lib.hasPrefix
  rw [List.isPrefixOf_iff_prefix]
  constructor
  · rintro ⟨t, ht⟩
    have hl : 0 < s.size := by rw [Lib.size_eq, ← ht]; simp
    refine ⟨hl, ?_⟩
    have := Lib.data_getElem? s 0 hl
    rw [← ht] at this
    simpa using this.symm
  · rintro ⟨h, he⟩
    have := Lib.data_getElem? s 0 h
    rw [he] at this
    cases hs : s.data.toList with
    | nil => rw [hs] at this; simp at this
    | cons a t => rw [hs] at this; simp at this; exact ⟨t, by rw [this]; rfl⟩

theorem trim_drop {s : ByteArray} (h : Lib.hasPrefix s.data.toList [45] = true) : (s.extract 1 s.size).data.toList = Lib.trimPrefix s.data.toList [45] := by
  unfold Lib.trimPrefix
  rw [if_pos h, Lib.extract_data, List.take_of_length_le (by simp)]
  rfl
theorem trim_same {s : ByteArray} (h : Lib.hasPrefix s.data.toList [45] = false) : Lib.trimPrefix s.data.toList [45] = s.data.toList := by
  unfold Lib.trimPrefix
  rw [if_neg (by rw [h]; simp)]

theorem ret_int {a b : Int} (h : a = b) : Ending.returned (.int .i64 a) = .returned (.int .i64 b) := by rw [h]

set_option maxHeartbeats 1000000 in
theorem whole23_minus (s d : ByteArray) (w : World) (hs : s.size ≤ 1048576) (h0 : 0 < s.size) (hd : ((s[0].toNat : Int) == 45) = true) (HD : Hid (s.extract 1 s.size = d)) :
    Calls Try.prog 23 #[.string s] w fun e w' => e = .returned (.int .i64 ((dotCut d.data.toList).1.length : Nat)) ∧ w' = w := by
  have hds : d.size ≤ 1048576 := by have := congrArg ByteArray.size HD.out; simp at this; omega
  have h0' : (0 : Int) < (s.size : Int) := by omega
  go_enter Try.func23, Try.ntmps23
  go_wp2
  rw [HD.out]
  go_loop [2, 4] (fun _ i => ∃ k : Nat, k ≤ d.size ∧ i = .int .i64 k ∧ Hid (∀ i, i < k → d.data.toList[i]? ≠ some 46)) (fun _ i => d.size - (intOf i).toNat)
  case atStart => exact ⟨0, Nat.zero_le _, rfl, fun i h0 => by omega⟩
  case round =>
    obtain ⟨k, hk, rfl, HK⟩ := hrel
    by_cases hlt : k < d.size
    · by_cases heq : d[k] = 46
      · have hd2 : ((d[k].toNat : Int) == 46) = true := by rw [heq]; rfl
        have HE : Hid (d.data.toList[k]? = some 46) := by show _ = _; rw [Lib.data_getElem? d k hlt, heq]
        clear heq
        go_wp2
        go_ret
        exact ⟨ret_int (by rw [dot_at HE.out HK.out]), rfl⟩
      · have hd2 : ((d[k].toNat : Int) == 46) = false := by
          simp; intro h; exact heq (UInt8.toNat_inj.1 (by simpa using (by omega : d[k].toNat = 46)))
        have HE : Hid (d.data.toList[k]? ≠ some 46) := by show _ ≠ _; rw [Lib.data_getElem? d k hlt]; intro e; exact heq (Option.some.inj e)
        clear heq
        go_wp2
        go_round
        case rel => exact ⟨k + 1, by omega, by go_num, fun i hi => if e : i = k then by subst e; exact HE.out else HK.out i (by omega)⟩
        case measure => simp [intOf]; omega
    · go_wp2
      go_ret
      exact ⟨ret_int (by rw [dot_none (fun i hi => HK.out i (by rw [← Lib.size_eq] at hi; omega)), ← Lib.size_eq]), rfl⟩
set_option maxHeartbeats 1000000 in
theorem whole23_plain (d : ByteArray) (w : World) (hds : d.size ≤ 1048576) (hp : Lib.hasPrefix d.data.toList [45] = false) :
    Calls Try.prog 23 #[.string d] w fun e w' => e = .returned (.int .i64 ((dotCut d.data.toList).1.length : Nat)) ∧ w' = w := by
  by_cases h0 : 0 < d.size
  · have hne : ¬ d[0] = 45 := fun e => by rw [(prefix_iff d).2 ⟨h0, e⟩] at hp; cases hp
    have hd : ((d[0].toNat : Int) == 45) = false := by
      simp; intro h; exact hne (UInt8.toNat_inj.1 (by simpa using (by omega : d[0].toNat = 45)))
    have h0' : (0 : Int) < (d.size : Int) := by omega
    clear hne hp
    go_enter Try.func23, Try.ntmps23
    go_wp2
    go_loop [2, 4] (fun _ i => ∃ k : Nat, k ≤ d.size ∧ i = .int .i64 k ∧ Hid (∀ i, i < k → d.data.toList[i]? ≠ some 46)) (fun _ i => d.size - (intOf i).toNat)
    case atStart => exact ⟨0, Nat.zero_le _, rfl, fun i h0 => by omega⟩
    case round =>
      obtain ⟨k, hk, rfl, HK⟩ := hrel
      by_cases hlt : k < d.size
      · by_cases heq : d[k] = 46
        · have hd2 : ((d[k].toNat : Int) == 46) = true := by rw [heq]; rfl
          have HE : Hid (d.data.toList[k]? = some 46) := by show _ = _; rw [Lib.data_getElem? d k hlt, heq]
          clear heq
          go_wp2
          go_ret
          exact ⟨ret_int (by rw [dot_at HE.out HK.out]), rfl⟩
        · have hd2 : ((d[k].toNat : Int) == 46) = false := by
            simp; intro h; exact heq (UInt8.toNat_inj.1 (by simpa using (by omega : d[k].toNat = 46)))
          have HE : Hid (d.data.toList[k]? ≠ some 46) := by show _ ≠ _; rw [Lib.data_getElem? d k hlt]; intro e; exact heq (Option.some.inj e)
          clear heq
          go_wp2
          go_round
          case rel => exact ⟨k + 1, by omega, by go_num, fun i hi => if e : i = k then by subst e; exact HE.out else HK.out i (by omega)⟩
          case measure => simp [intOf]; omega
      · go_wp2
        go_ret
        exact ⟨ret_int (by rw [dot_none (fun i hi => HK.out i (by rw [← Lib.size_eq] at hi; omega)), ← Lib.size_eq]), rfl⟩
  · have hg : decide ((0 : Int) < (d.size : Int)) = false := by simpa using h0
    clear hp
    go_enter Try.func23, Try.ntmps23
    go_wp2
    go_loop [2, 4] (fun _ i => ∃ k : Nat, k ≤ d.size ∧ i = .int .i64 k ∧ Hid (∀ i, i < k → d.data.toList[i]? ≠ some 46)) (fun _ i => d.size - (intOf i).toNat)
    case atStart => exact ⟨0, Nat.zero_le _, rfl, fun i h0 => by omega⟩
    case round =>
      obtain ⟨k, hk, rfl, HK⟩ := hrel
      by_cases hlt : k < d.size
      · by_cases heq : d[k] = 46
        · have hd2 : ((d[k].toNat : Int) == 46) = true := by rw [heq]; rfl
          have HE : Hid (d.data.toList[k]? = some 46) := by show _ = _; rw [Lib.data_getElem? d k hlt, heq]
          clear heq
          go_wp2
          go_ret
          exact ⟨ret_int (by rw [dot_at HE.out HK.out]), rfl⟩
        · have hd2 : ((d[k].toNat : Int) == 46) = false := by
            simp; intro h; exact heq (UInt8.toNat_inj.1 (by simpa using (by omega : d[k].toNat = 46)))
          have HE : Hid (d.data.toList[k]? ≠ some 46) := by show _ ≠ _; rw [Lib.data_getElem? d k hlt]; intro e; exact heq (Option.some.inj e)
          clear heq
          go_wp2
          go_round
          case rel => exact ⟨k + 1, by omega, by go_num, fun i hi => if e : i = k then by subst e; exact HE.out else HK.out i (by omega)⟩
          case measure => simp [intOf]; omega
      · go_wp2
        go_ret
        exact ⟨ret_int (by rw [dot_none (fun i hi => HK.out i (by rw [← Lib.size_eq] at hi; omega)), ← Lib.size_eq]), rfl⟩

theorem whole23 (s : ByteArray) (w : World) (hs : s.size ≤ 1048576) :
    Calls Try.prog 23 #[.string s] w fun e w' => e = .returned (.int .i64 (wholeN s.data.toList : Nat)) ∧ w' = w := by
  cases hp : Lib.hasPrefix s.data.toList [45]
  · unfold wholeN
    rw [trim_same hp]
    exact whole23_plain s w hs hp
  · obtain ⟨h0, h1⟩ := (prefix_iff s).1 hp
    have h := whole23_minus s (s.extract 1 s.size) w hs h0 (by rw [h1]; rfl) rfl
    rw [trim_drop hp] at h
    exact h
end Go.Proofs.Qxb6605318a
