/-
  The leaves of the road of FnNormaliseAddressOnlyDeletes: zzBytes_.., zzHasByteIn, zzCut.
-/
import Derived.Test.Qxb6604254aProg
import Derived.WalkKit
import Derived.WalkSpells
import Derived.WalkLawsBesides
import Derived.Deep.QuietTactic
import Derived.BigQuiet
import Derived.Lib.Strings
import Derived.Lib.IndexBytes
namespace Go.Proofs.Qxb6604254a
open Go.RowKit

theorem zzBytes_any (a : ByteArray) (w : World) (h : a.size ≤ maxLen) :
    Calls Try.prog 17 #[.string a] w fun e w' => e = .returned (.bool (decide (a.size ≤ 1048576))) ∧ w' = w := by
  unfold maxLen at h
  by_cases h1 : a.size ≤ 1048576
  · rw [decide_eq_true h1]
    go_enter Try.func17, Try.ntmps17
    go_wp2
    go_ret
    exact ⟨rfl, rfl⟩
  · rw [decide_eq_false h1]
    go_enter Try.func17, Try.ntmps17
    go_wp2
    go_ret
    exact ⟨rfl, rfl⟩

set_option maxHeartbeats 1000000 in
/-- zzHasByteIn: no byte of s is a byte of set: false. -/
theorem zzHasByteIn_no (s set : ByteArray) (w : World) (hs : s.size ≤ maxLen) (hset : set.size ≤ maxLen)
    (hno : ∀ (i j : Nat) (hi : i < s.size) (hj : j < set.size), s[i] ≠ set[j]) :
    Calls Try.prog 18 #[.string s, .string set] w fun e w' => e = .returned (.bool false) ∧ ∃ n, w' = w.drewN n := by
  unfold maxLen at hs hset
  have HN : Hid (∀ (i j : Nat) (hi : i < s.size) (hj : j < set.size), s[i] ≠ set[j]) := hno
  clear hno
  go_enter Try.func18, Try.ntmps18
  go_wp2
  go_loopw [4, 5, 6] (fun r i _ wr => ∃ k n : Nat, k ≤ s.size ∧ i = .int .i64 k ∧ wr = w.drewN n) (fun _ i _ _ => s.size - (intOf i).toNat)
  case atStart => exact ⟨0, 0, Nat.zero_le _, rfl, rfl⟩
  case round =>
    obtain ⟨k, n, hk, rfl, rfl⟩ := hrel
    by_cases hlt : k < s.size
    · go_wp2
      go_loopw [6] (fun j wr => ∃ m n' : Nat, m ≤ set.size ∧ j = .int .i64 m ∧ wr = w.drewN n') (fun j _ => set.size - (intOf j).toNat)
      case atStart => exact ⟨0, n, Nat.zero_le _, rfl, rfl⟩
      case round =>
        obtain ⟨m, n', hm, rfl, rfl⟩ := hrel
        by_cases hlt2 : m < set.size
        · have hne := HN.out k m hlt hlt2
          have hd : ((s[k].toNat : Int) == (set[m].toNat : Int)) = false := by
            simp; intro h; exact hne (UInt8.toNat_inj.1 (by omega))
          clear hne
          go_wp2
          go_quiet (fail)
          go_wp2
          go_roundw
          case rel => exact ⟨m + 1, _, by omega, by go_num, rfl⟩
          case measure => simp [intOf]; omega
        · go_wp2
          go_roundw
          case rel => exact ⟨k + 1, _, by omega, by go_num, rfl⟩
          case measure => simp [intOf]; omega
    · go_wp2
      go_ret
      exact ⟨rfl, n, rfl⟩

set_option maxHeartbeats 1000000 in
/-- zzCut: the index of the first '#', or the length. -/
theorem zzCut_any (a : ByteArray) (w : World) (hs : a.size ≤ maxLen) :
    Calls Try.prog 19 #[.string a] w fun e w' => (∃ c : Nat, e = .returned (.int .i64 c) ∧ c ≤ a.size ∧ (∀ (i : Nat) (h : i < a.size), i < c → a[i] ≠ 35) ∧ (∀ h : c < a.size, a[c] = 35)) ∧ w' = w := by
  unfold maxLen at hs
  go_enter Try.func19, Try.ntmps19
  go_wp2
  go_loop [2, 3] (fun _ i => ∃ k : Nat, k ≤ a.size ∧ i = .int .i64 k ∧ Hid (∀ (i : Nat) (h : i < a.size), i < k → a[i] ≠ 35)) (fun _ i => a.size - (intOf i).toNat)
  case atStart => exact ⟨0, Nat.zero_le _, rfl, fun i h h0 => by omega⟩
  case round =>
    obtain ⟨k, hk, rfl, HK⟩ := hrel
    by_cases hlt : k < a.size
    · by_cases heq : a[k] = 35
      · have hd : ((a[k].toNat : Int) == 35) = true := by rw [heq]; rfl
        have HE : Hid (a[k] = 35) := heq
        clear heq
        go_wp2
        go_ret
        exact ⟨⟨k, rfl, hk, HK.out, fun _ => HE.out⟩, rfl⟩
      · have hd : ((a[k].toNat : Int) == 35) = false := by
          simp; intro h; exact heq (UInt8.toNat_inj.1 (by simpa using (by omega : a[k].toNat = 35)))
        have HE : Hid (¬ a[k] = 35) := heq
        clear heq
        go_wp2
        go_round
        case rel => exact ⟨k + 1, by omega, by go_num, fun i h hi => if e : i = k then by subst e; exact HE.out else HK.out i h (by omega)⟩
        case measure => simp [intOf]; omega
    · go_wp2
      go_ret
      exact ⟨⟨a.size, rfl, Nat.le_refl _, fun i h _ => HK.out i h (by omega), fun h => by omega⟩, rfl⟩
end Go.Proofs.Qxb6604254a
