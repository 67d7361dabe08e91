/-
  The walk of FnAppendGroupMatchesGroupingFromTheRight.
-/
import Derived.Test.Qxb6605318aModel
namespace Go.Proofs.Qxb6605318a
open Go.RowKit

theorem zzBytes17_any (a : Option Addr) (n c : Nat) (s : ByteArray) (w : World) (h : s.size ≤ maxLen) (hn : n ≤ maxLen) :
    Calls Try.prog 17 #[.slice a n c, .string s] w fun e w' => e = .returned (.bool (decide (n + s.size ≤ 1048576))) ∧ w' = w := by
  unfold maxLen at h hn
  by_cases h1 : n + s.size ≤ 1048576
  · rw [decide_eq_true h1]
    go_enter Try.func17, Try.ntmps17
    go_wp2
    go_ret
    exact ⟨rfl, rfl⟩
  · rw [decide_eq_false h1]
    by_cases h2 : n ≤ 1048576
    · by_cases h3 : s.size ≤ 1048576
      all_goals
        go_enter Try.func17, Try.ntmps17
        go_wp2
        go_ret
        exact ⟨rfl, rfl⟩
    · go_enter Try.func17, Try.ntmps17
      go_wp2
      go_ret
      exact ⟨rfl, rfl⟩

set_option maxHeartbeats 1000000 in
theorem same21 (u v : Value) (L : List UInt8) (b1 b2 : Nat) (w : World) (hu : Own w b1 5 u L) (hv : Own w b2 5 v L) (hl : L.length ≤ 1099511627776) :
    Calls Try.prog 21 #[u, v] w fun e w' => e = .returned (.bool true) ∧ ∃ n, w' = w.drewN n := by
  obtain ⟨a1, cap1, rfl, hr1⟩ := hu.rd
  obtain ⟨a2, cap2, rfl, hr2⟩ := hv.rd
  have HR1 : Hid (∀ (j : Nat) (u : UInt8), L[j]? = some u → ∃ g, a1 = some ⟨g, 0, none⟩ ∧ w.cell? ⟨g, j, none⟩ = some (.int .u8 (u.toNat : Int))) := hr1
  have HR2 : Hid (∀ (j : Nat) (u : UInt8), L[j]? = some u → ∃ g, a2 = some ⟨g, 0, none⟩ ∧ w.cell? ⟨g, j, none⟩ = some (.int .u8 (u.toNat : Int))) := hr2
  clear hr1 hr2 hu hv
  have hne : ((L.length : Int) != (L.length : Int)) = false := by simp
  go_enter Try.func21, Try.ntmps21
  go_wp2
  go_loopw [4, 5] (fun _ i wr => ∃ i1 n : Nat, i1 ≤ L.length ∧ i = .int .i64 i1 ∧ wr = w.drewN n) (fun _ i _ => L.length - (intOf i).toNat)
  case atStart => exact ⟨0, 0, Nat.zero_le _, rfl, rfl⟩
  case round =>
    obtain ⟨i1, n, hi1, rfl, rfl⟩ := hrel
    by_cases hl1 : i1 < L.length
    · obtain ⟨u, hu⟩ : ∃ u, L[i1]? = some u := ⟨L[i1], List.getElem?_eq_getElem hl1⟩
      obtain ⟨g1, rfl, hc1⟩ := HR1.out i1 u hu
      obtain ⟨g2, rfl, hc2⟩ := HR2.out i1 u hu
      clear hu
      go_wp2
      go_quiet (fail)
      go_wp2
      go_roundw
      case rel => exact ⟨i1 + 1, _, by omega, by go_num, rfl⟩
      case measure => simp [intOf]; omega
    · go_wp2
      go_ret
      exact ⟨rfl, _, rfl⟩

/-- An owned slice as what is appended. -/
theorem src_own {w : World} {base : Nat} {e tx e' : TypeId} {u : Value} {m : List UInt8} (hk : Try.prog.underlying tx = some (.slice e')) (h : Own w base e u m) : Src Try.prog 1 tx u m.length (bys m) w := by
  rcases h.2 with ⟨rfl, h0⟩ | ⟨g, cap, cur, rfl, _⟩
  · have : m = [] := List.eq_nil_of_length_eq_zero h0
    subst this
    exact Src.ofNil w hk 0
  · exact Src.ofSlice w hk _ _ cap (bys m) (by rw [bys_length, Nat.mul_one]) (World.ownsRow.cells h rfl) bys_one

set_option maxHeartbeats 4000000 in
theorem match_walk (v : Value) (l : List UInt8) (text : ByteArray) (w : World) (hr : Reads w v l) (hsz : l.length + text.size ≤ 1048576) :
    Calls Try.prog 6 #[v, .string text] w fun e w' => e = .returned (.bool true) ∧ Below w.heap.size w w' := by
  have HRD : Hid (Reads w v l) := hr
  obtain ⟨a, cap, rfl⟩ : ∃ a cap, v = .slice a l.length cap := by
    rcases hr with ⟨rfl, rfl⟩ | ⟨x, cap, rfl, _⟩
    · exact ⟨none, 0, rfl⟩
    · exact ⟨_, cap, rfl⟩
  clear hr
  have hz : decide (l.length + text.size ≤ 1048576) = true := decide_eq_true hsz
  have hgl : (groupL text.data.toList).length ≤ 4 * text.size + 4 := by rw [Lib.size_eq]; exact group_le _
  go_enter Try.func6, Try.ntmps6
  go_wp2_with (go_at_call 17; refine (zzBytes17_any _ _ _ _ _ (by unfold maxLen; omega) (by unfold maxLen; omega)).mono ?_; rintro e w' ⟨rfl, hw⟩; rw [hw, hz]; clear hw)
  refine (clone_any _ l _ HRD.out (by omega)).mono ?_
  rintro e w1 ⟨⟨v1, rfl, hO1, _⟩, hb1⟩
  have HO1 : Hid (Own w1 w.heap.size 5 v1 l) := hO1
  have HB1 : Hid (Below w.heap.size w w1) := hb1
  clear hO1 hb1 hz
  have hs1 := HB1.out.size
  go_wp2_with fail
  refine (clone_any v1 l w1 HO1.out.reads (by omega)).mono ?_
  rintro e w2 ⟨⟨v2, rfl, hO2, _⟩, hb2⟩
  have HO2 : Hid (Own w2 w1.heap.size 5 v2 l) := hO2
  have HB2 : Hid (Below w.heap.size w w2) := HB1.out.trans (hb2.mono hs1)
  have HO1' : Hid (Own w2 w.heap.size 5 v1 l) := HO1.out.below hb2
  have hs2 := hb2.size
  have HL1 : Hid (∀ k, v1.ownBlock = some k → k < w1.heap.size) := HO1.out.lt
  clear hO2 hb2 HO1 HB1
  go_wp2_with fail
  refine (gm_any text w2 (by omega)).mono ?_
  rintro e w3 ⟨⟨v3, rfl, hO3⟩, hb3⟩
  have hs3 := hb3.size
  have HO2' : Hid (Own w3 w1.heap.size 5 v2 l) := HO2.out.below hb3
  have HO1'' : Hid (Own w3 w.heap.size 5 v1 l) := HO1'.out.below hb3
  have HO3 : Hid (Own w3 w2.heap.size 5 v3 (groupL text.data.toList)) := hO3
  have HB3 : Hid (Below w.heap.size w w3) := HB2.out.trans (hb3.mono (by omega))
  clear hO3 hb3 HO2 HO1' HB2
  go_wp2_with (at_builtin; refine wpList_append_bytes _ rfl (.tmp 26) (.tmp 28) 26 26 rfl w1.heap.size 5 bt v2 l rfl HO2'.out _ rfl (groupL text.data.toList) (src_own Try.underlying26 HO3.out) (by omega) (by omega) ?_; intro v4 w4 hO4 hG4)
  have HNE : Hid (v1.ownBlock = none ∨ v1.ownBlock ≠ v2.ownBlock) := by
    cases hv : v1.ownBlock with
    | none => exact .inl rfl
    | some k =>
      refine .inr fun e => ?_
      have h1 := HO2'.out.ge k e.symm
      have h2 := HL1.out k hv
      omega
  have HO1f : Hid (Own w4 w.heap.size 5 v1 l) := HO1''.out.kept hG4 HNE.out
  have HO4 : Hid (Own w4 w1.heap.size 5 v4 (l ++ groupL text.data.toList)) := hO4
  have hs4 := hG4.by_.size
  have HB4 : Hid (Below w.heap.size w w4) := HB3.out.trans (hG4.below (by omega) (fun k hk => by have := HO2'.out.ge k hk; omega))
  clear hO4 hG4 HO1'' HO2' HO3 HB3 HNE
  refine (ag_any v1 l text w.heap.size w4 HO1f.out (by omega) hsz).mono ?_
  rintro e w5 ⟨v5, rfl, hO5, hG5⟩
  have HNE2 : Hid (v4.ownBlock = none ∨ v4.ownBlock ≠ v1.ownBlock) := by
    cases hv : v4.ownBlock with
    | none => exact .inl rfl
    | some k =>
      refine .inr fun e => ?_
      have h1 := HO4.out.ge k hv
      have h2 := HL1.out k e.symm
      omega
  have HO4' : Hid (Own w5 w1.heap.size 5 v4 (l ++ groupL text.data.toList)) := HO4.out.kept hG5 HNE2.out
  have HO5 : Hid (Own w5 w.heap.size 5 v5 (l ++ groupL text.data.toList)) := hO5
  have HB5 : Hid (Below w.heap.size w w5) := HB4.out.trans (hG5.below (by omega) HO1f.out.ge)
  clear hO5 hG5 HO4 HO1f HNE2 HB4
  go_wp2_with (go_at_call 21; refine (same21 _ _ _ _ _ _ HO5.out HO4'.out (by simp; omega)).mono ?_; rintro e w6 ⟨rfl, n6, rfl⟩)
  go_ret
  exact ⟨rfl, HB5.out.trans ⟨rfl, rfl, rfl, Nat.le_refl _, fun _ _ => rfl⟩⟩

set_option maxHeartbeats 1000000 in
theorem match_long (v : Value) (l : List UInt8) (text : ByteArray) (w : World) (hr : Reads w v l) (hl : l.length ≤ maxLen) (ht : text.size ≤ maxLen) (hbig : ¬ l.length + text.size ≤ 1048576) :
    Calls Try.prog 6 #[v, .string text] w fun e w' => e = .returned (.bool true) ∧ Below w.heap.size w w' := by
  obtain ⟨a, cap, rfl⟩ : ∃ a cap, v = .slice a l.length cap := by
    rcases hr with ⟨rfl, rfl⟩ | ⟨x, cap, rfl, _⟩
    · exact ⟨none, 0, rfl⟩
    · exact ⟨_, cap, rfl⟩
  have hz : decide (l.length + text.size ≤ 1048576) = false := decide_eq_false hbig
  go_enter Try.func6, Try.ntmps6
  go_wp2_with (go_at_call 17; refine (zzBytes17_any _ _ _ _ _ ht hl).mono ?_; rintro e w' ⟨rfl, rfl⟩; rw [hz])
  go_ret
  exact ⟨rfl, Below.refl _ _⟩

theorem match_top (a : Option Addr) (len cap : Nat) (zs : List Int) (text : ByteArray) (w : World)
    (h : (a = none ∧ len = 0 ∧ cap = 0 ∧ zs = []) ∨ ∃ x, a = some x ∧ len ≤ cap ∧ cap ≤ maxLen ∧ zs.length = cap ∧ (∀ i, i < zs.length → w.cell? (x.add i) = some (.int .u8 (zs.getD i 0))) ∧ ∀ n ∈ zs, (Lit.int .u8 n).wf = true)
    (ht : text.size ≤ maxLen) :
    Calls Try.prog 6 #[.slice a len cap, .string text] w fun e w' => e = .returned (.bool true) ∧ Below w.heap.size w w' := by
  obtain ⟨l, hl, hm, hr⟩ := reads_of_row w a len cap zs h
  by_cases hs : l.length + text.size ≤ 1048576
  · exact match_walk _ l text w hr hs
  · exact match_long _ l text w hr (by omega) ht hs
end Go.Proofs.Qxb6605318a
