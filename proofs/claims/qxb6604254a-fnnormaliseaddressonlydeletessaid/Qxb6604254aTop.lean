/-
  The walk of FnNormaliseAddressOnlyDeletes itself.
-/
import Derived.Test.Qxb6604254aNorm
namespace Go.Proofs.Qxb6604254a
open Go.RowKit

/-- Where the first number sign lies (or the end), as zzCut tells it. -/
structure CutAt (a : ByteArray) (c : Nat) : Prop where
  le : c ≤ a.size
  none : ∀ (i : Nat), i < c → a.data.toList[i]? ≠ some 35
  here : c < a.size → a.data.toList[c]? = some 35

theorem CutAt.one {a : ByteArray} {c d : Nat} (h : CutAt a c) (k : CutAt a d) : c = d := by
  rcases Nat.lt_trichotomy c d with hl | hl | hl
  · exact absurd (h.here (by have := k.le; omega)) (k.none c hl)
  · exact hl
  · exact absurd (k.here (by have := h.le; omega)) (h.none d hl)

theorem norm24 (a : ByteArray) (w : World) (hs : a.size ≤ 1048576) :
    Calls Try.prog 24 #[.string a] w fun e w' => (∃ (c : Nat) (r : ByteArray), e = .returned (.string r) ∧ CutAt a c ∧ Norm (a.data.toList.take c) r.data.toList ∧ r.size ≤ c) ∧ Below w.heap.size w w' := by
  by_cases hi : Lib.indexByte a.data.toList 35 = -1
  · refine (norm_walk1 a w hs hi).mono fun e w' ⟨⟨r, he, hn, hr⟩, hb⟩ => ⟨⟨a.size, r, he, ⟨Nat.le_refl _, fun i _ => Lib.indexByte_none hi i, fun h => by omega⟩, ?_, ?_⟩, hb⟩
    · rw [Lib.size_eq, List.take_length]; exact hn
    · rw [Lib.size_eq a]; exact hr
  · have hge := Lib.indexByte_ge a.data.toList 35
    obtain ⟨i, hi'⟩ : ∃ i : Nat, Lib.indexByte a.data.toList 35 = (i : Int) := ⟨(Lib.indexByte a.data.toList 35).toNat, by omega⟩
    obtain ⟨h1, h2⟩ := Lib.indexByte_some hi'
    have hlt : i < a.size := by
      rw [Lib.size_eq]
      exact (List.getElem?_eq_some_iff.1 h1).1
    refine (norm_walk2 a _ w hs i hi' hlt rfl).mono fun e w' ⟨⟨r, he, hn, hr⟩, hb⟩ => ⟨⟨i, r, he, ⟨by omega, h2, fun _ => h1⟩, ?_, ?_⟩, hb⟩
    · rw [Lib.extract_data] at hn; simpa using hn
    · rw [Lib.extract_data] at hr; simp at hr; omega

theorem norm16 (a : ByteArray) (w : World) (hs : a.size ≤ 1048576) :
    Calls Try.prog 16 #[.string a] w fun e w' => (∃ (c : Nat) (r : ByteArray), e = .returned (.string r) ∧ CutAt a c ∧ Norm (a.data.toList.take c) r.data.toList ∧ r.size ≤ c) ∧ Below w.heap.size w w' := by
  go_enter Try.func16, Try.ntmps16
  go_wp2_with (go_at_call 24; refine (norm24 _ _ (by omega)).mono ?_; rintro e w' ⟨⟨c, r, rfl, h1⟩, hb⟩)
  go_ret
  exact ⟨⟨c, r, rfl, h1⟩, hb⟩

theorem cut19 (a : ByteArray) (c : Nat) (w : World) (hs : a.size ≤ maxLen) (hc : CutAt a c) :
    Calls Try.prog 19 #[.string a] w fun e w' => e = .returned (.int .i64 (c : Int)) ∧ w' = w := by
  refine (zzCut_any a w hs).mono fun e w' ⟨⟨d, he, h1, h2, h3⟩, hw⟩ => ⟨?_, hw⟩
  have hd : CutAt a d := ⟨h1, fun i hi => by rw [Lib.data_getElem? a i (by omega)]; intro e; exact h2 i (by omega) hi (Option.some.inj e), fun h => by rw [Lib.data_getElem? a d h, h3 h]⟩
  rw [he, hc.one hd]

theorem hasIn_no (r : ByteArray) (w : World) (hs : r.size ≤ maxLen) (hno : ∀ b ∈ r.data.toList, b ≠ 35) :
    Calls Try.prog 18 #[.string r, .string ⟨#[35]⟩] w fun e w' => e = .returned (.bool false) ∧ ∃ n, w' = w.drewN n := by
  refine zzHasByteIn_no r ⟨#[35]⟩ w hs (by decide) fun i j hi hj => ?_
  have hj0 : j = 0 := by have hj' : j < 1 := hj; omega
  subst hj0
  have := hno (r[i]) (List.mem_of_getElem? (Lib.data_getElem? r i hi))
  exact this

theorem sub_miss {x y : UInt8} {r p : List UInt8} (hne : y ≠ x) (h : (x :: r).Sublist (y :: p)) : (x :: r).Sublist p := by
  cases h with
  | cons _ h => exact h
  | cons_cons _ h => exact absurd rfl hne

/-- What is left to match. -/
def Left (a r : ByteArray) (c i j : Nat) : Prop := (r.data.toList.drop j).Sublist ((a.data.toList.take c).drop i)

theorem Left.hit {a r : ByteArray} {c i j : Nat} (h : Left a r c i j) (hi : i < c) (hc : c ≤ a.size) (hj : j < r.size) (he : (a[i]'(by omega)) = r[j]) : Left a r c (i + 1) (j + 1) := by
  unfold Left at *
  have e1 : (a.data.toList.take c).drop i = a[i] :: (a.data.toList.take c).drop (i + 1) := by
    rw [List.drop_eq_getElem_cons (by rw [List.length_take, ← Lib.size_eq]; omega)]
    congr 1
    simp
    rfl
  have e2 : r.data.toList.drop j = r[j] :: r.data.toList.drop (j + 1) := by
    rw [List.drop_eq_getElem_cons (by rw [← Lib.size_eq]; exact hj)]
    rfl
  rw [e1, e2, he] at h
  simpa using h

theorem Left.miss {a r : ByteArray} {c i j : Nat} (h : Left a r c i j) (hi : i < c) (hc : c ≤ a.size) (hj : j < r.size) (he : (a[i]'(by omega)) ≠ r[j]) : Left a r c (i + 1) j := by
  unfold Left at *
  have e1 : (a.data.toList.take c).drop i = a[i] :: (a.data.toList.take c).drop (i + 1) := by
    rw [List.drop_eq_getElem_cons (by rw [List.length_take, ← Lib.size_eq]; omega)]
    congr 1
    simp
    rfl
  have e2 : r.data.toList.drop j = r[j] :: r.data.toList.drop (j + 1) := by
    rw [List.drop_eq_getElem_cons (by rw [← Lib.size_eq]; exact hj)]
    rfl
  rw [e1, e2] at h
  rw [e2]
  exact sub_miss he h

theorem Left.done {a r : ByteArray} {c i j : Nat} (h : Left a r c i j) (hi : c ≤ i) (hj : j ≤ r.size) : j = r.size := by
  unfold Left at h
  have e0 : List.drop i (List.take c a.data.toList) = [] := List.drop_eq_nil_of_le (by rw [List.length_take]; omega)
  rw [e0] at h
  have h2 := h.length_le
  rw [List.length_drop, ← Lib.size_eq, List.length_nil] at h2
  omega

theorem no_hash {a r : ByteArray} {c : Nat} (hc : CutAt a c) (hs : r.data.toList.Sublist (a.data.toList.take c)) : ∀ b ∈ r.data.toList, b ≠ 35 := by
  intro b hb he
  obtain ⟨i, hi⟩ := List.mem_iff_getElem?.1 (hs.subset hb)
  rw [List.getElem?_take] at hi
  split at hi
  · exact hc.none i (by omega) (by rw [hi, he])
  · simp at hi

theorem below_drewN' {w w1 : World} (h : Below w.heap.size w w1) (n : Nat) : Below w.heap.size w (w1.drewN n) := ⟨h.os, h.tape, h.output, h.size, h.block⟩

set_option maxHeartbeats 1000000 in
set_option maxRecDepth 1000000 in
theorem walk6 (a : ByteArray) (w : World) (h : a.size ≤ maxLen) :
    Calls Try.prog 6 #[.string a] w fun e w' => e = .returned (.bool true) ∧ Below w.heap.size w w' := by
  unfold maxLen at h
  by_cases hs : a.size ≤ 1048576
  · have hz : decide (a.size ≤ 1048576) = true := decide_eq_true hs
    go_enter Try.func6, Try.ntmps6
    go_wp2_with (first
      | (go_at_call 17; refine (zzBytes_any _ _ (by unfold maxLen; omega)).mono ?_; rintro e w' ⟨rfl, rfl⟩; rw [hz])
      | (go_at_call 16; refine (norm16 _ _ (by omega)).mono ?_; rintro e w1 ⟨⟨c, r, rfl, hc, hn, hr⟩, hb⟩))
    have hcle := hc.le
    have hrm : r.size ≤ maxLen := by unfold maxLen; omega
    have hlen : c ≤ r.size + 5 := by have := hn.len; rw [List.length_take, ← Lib.size_eq, ← Lib.size_eq] at this; omega
    refine (hasIn_no r _ hrm (no_hash hc hn.sub)).mono ?_
    rintro e w2 ⟨rfl, n2, rfl⟩
    go_wp2_with (go_at_call 19; refine (cut19 _ c _ (by unfold maxLen; omega) hc).mono ?_; rintro e w' ⟨rfl, rfl⟩)
    have HL0 : Left a r c 0 0 := by unfold Left; simpa using hn.sub
    have HL : Hid (Left a r c 0 0) := HL0
    clear HL0
    clear hn hc
    go_loopw [5, 6] (fun jv iv wr => ∃ i j n : Nat, i ≤ c ∧ j ≤ r.size ∧ iv = .int .i64 i ∧ jv = .int .i64 j ∧ Hid (Left a r c i j) ∧ wr = w1.drewN n) (fun _ iv _ => c - (intOf iv).toNat)
    case atStart => exact ⟨0, 0, n2, Nat.zero_le _, Nat.zero_le _, rfl, rfl, HL, rfl⟩
    case round =>
      obtain ⟨i, j, n, hic, hjr, rfl, rfl, HK, rfl⟩ := hrel
      clear HL
      by_cases hi : i < c
      · by_cases hj : j < r.size
        · have hia : i < a.size := by omega
          by_cases he : a[i] = r[j]
          · have HE : Hid (Left a r c (i + 1) (j + 1)) := HK.out.hit hi hcle hj he
            have hd : ((a[i].toNat : Int) == (r[j].toNat : Int)) = true := by rw [he]; simp
            clear he
            go_wp2
            go_quiet (fail)
            go_wp2
            go_roundw
            case rel => exact ⟨i + 1, j + 1, _, by omega, by omega, by go_num, by go_num, HE, rfl⟩
            case measure => simp [intOf]; omega
          · have HE : Hid (Left a r c (i + 1) j) := HK.out.miss hi hcle hj he
            have hd : ((a[i].toNat : Int) == (r[j].toNat : Int)) = false := by
              simp; intro h; exact he (UInt8.toNat_inj.1 (by omega))
            clear he
            go_wp2
            go_quiet (fail)
            go_wp2
            go_roundw
            case rel => exact ⟨i + 1, j, _, by omega, by omega, by go_num, by go_num, HE, rfl⟩
            case measure => simp [intOf]; omega
        · have hje : ((j : Int) == (r.size : Int)) = true := by simp; omega
          go_wp2
          go_ret
          exact ⟨rfl, below_drewN' hb _⟩
      · have hjz : j = r.size := HK.out.done (by omega) hjr
        have hje : ((j : Int) == (r.size : Int)) = true := by simp; omega
        clear hjz
        go_wp2
        go_ret
        exact ⟨rfl, below_drewN' hb _⟩
  · have hz : decide (a.size ≤ 1048576) = false := decide_eq_false hs
    go_enter Try.func6, Try.ntmps6
    go_wp2_with (go_at_call 17; refine (zzBytes_any _ _ (by unfold maxLen; omega)).mono ?_; rintro e w' ⟨rfl, rfl⟩; rw [hz])
    go_ret
    exact ⟨rfl, Below.refl _ _⟩
end Go.Proofs.Qxb6604254a
