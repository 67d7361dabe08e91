/-
  normaliseAddress.
-/
import Derived.Test.Qxb6604254aIdx3
import Derived.Test.Qxb6604254aShelf
import Derived.Lib.IndexAny
namespace Go.Proofs.Qxb6604254a
open Go.RowKit

/-- What the law needs of the normal form 'r' of an address whose part ahead of the first '#' is 'p'. -/
structure Norm (p r : List UInt8) : Prop where
  sub : r.Sublist p
  len : p.length ≤ r.length + 5

theorem norm_plain (p : List UInt8) : Norm p (Lib.trimSuffix p [47]) := by
  unfold Lib.trimSuffix
  split
  · exact ⟨List.take_sublist _ _, by simp; omega⟩
  · exact ⟨List.Sublist.refl _, by omega⟩

theorem norm_cut (p : List UInt8) (h k : Nat) (hk : k ≤ 4) (hh : h ≤ p.length) : Norm p (Lib.trimSuffix (p.take (h - k) ++ p.drop h) [47]) := by
  have hs : (p.take (h - k) ++ p.drop h).Sublist p := by
    have h1 : (p.take (h - k)).Sublist (p.take h) := List.take_sublist_take_left (by omega)
    have h2 : (p.take (h - k) ++ p.drop h).Sublist (p.take h ++ p.drop h) := h1.append (List.Sublist.refl _)
    rwa [List.take_append_drop] at h2
  have hl : p.length ≤ (p.take (h - k) ++ p.drop h).length + 4 := by simp; omega
  unfold Lib.trimSuffix
  split
  · exact ⟨(List.take_sublist _ _).trans hs, by simp at hl ⊢; omega⟩
  · exact ⟨hs, by omega⟩

theorem indexAny_lt (chars : List UInt8) : ∀ l : List UInt8, Lib.indexAny l chars = -1 ∨ ∃ n : Nat, Lib.indexAny l chars = n ∧ n < l.length
  | [] => .inl rfl
  | b :: l => by
    have ih := indexAny_lt chars l
    unfold Lib.indexAny
    by_cases h : chars.contains b = true
    · rw [if_pos h]; exact .inr ⟨0, rfl, Nat.succ_pos _⟩
    · rw [if_neg h]
      rcases ih with ih | ⟨n, hn, hl⟩
      · rw [ih]; exact .inl (by rfl)
      · rw [hn, if_neg (by simp)]
        exact .inr ⟨n + 1, by omega, by simp only [List.length_cons]; omega⟩

theorem idxAny_any (s : ByteArray) (w : World) (hs : s.size ≤ 1048576) :
    Calls Try.prog 27 #[.string s, .string ⟨#[47, 63]⟩] w fun e w' => (∃ i : Int, e = .returned (.int .i64 i) ∧ (i = -1 ∨ ∃ n : Nat, i = n ∧ n < s.size)) ∧ Below w.heap.size w w' := by
  by_cases h8 : s.size ≤ 8
  · refine (idxAny_short s w h8).mono fun e w' ⟨⟨i, he, h1, h2⟩, hb⟩ => ⟨⟨i, he, ?_⟩, hb⟩
    by_cases hi : i = -1
    · exact .inl hi
    · exact .inr ⟨i.toNat, by omega, by omega⟩
  · have hv : ∀ w, (zeroValue 43).run Try.prog w = .ok (.agg (Array.replicate 256 (.bool false))) w := (zero_of_info (n := 256) (by kernel_rfl)).1
    refine (Try.strings_IndexAny_long hv s ⟨#[47, 63]⟩ w (by decide) (by omega) (by omega) (by decide) (fun j b hj => ?_)).mono fun e w' ⟨he, hw⟩ => ⟨⟨_, he, ?_⟩, ?_⟩
    · match j, hj with
      | 0, hj => simp at hj; subst hj; decide
      | 1, hj => simp at hj; subst hj; decide
    · rw [Lib.size_eq]; exact indexAny_lt _ _
    · rw [hw]
      exact ((Below.refl _ _).alloc (Nat.le_refl _) _).alloc (by simp) _

theorem suffix_len {l : List UInt8} {n : Nat} {s : List UInt8} (h : Lib.hasSuffix (l.take n) s = true) : s.length ≤ n := by
  unfold Lib.hasSuffix at h
  rw [List.isSuffixOf_iff_suffix] at h
  have := h.length_le
  simp at this
  omega

theorem norm_cut' (p : List UInt8) (h k m : Nat) (hk : k ≤ 4) (hh : h ≤ p.length) (hm : p.length - h ≤ m) : Norm p (Lib.trimSuffix (p.take (h - k) ++ (p.drop h).take m) [47]) := by
  rw [List.take_of_length_le (l := p.drop h) (by simp; omega)]
  exact norm_cut p h k hk hh

theorem norm_take (p : List UInt8) (h k : Nat) (hk : k ≤ 4) (hh : p.length ≤ h) : Norm p (Lib.trimSuffix (p.take (h - k)) [47]) := by
  unfold Lib.trimSuffix
  split
  · exact ⟨(List.take_sublist _ _).trans (List.take_sublist _ _), by simp; omega⟩
  · exact ⟨List.take_sublist _ _, by simp; omega⟩

/-- The end of the walk, said at once. -/
def NormEnd (p : List UInt8) (e : Ending) : Prop := ∃ r : ByteArray, e = .returned (.string r) ∧ Norm p r.data.toList ∧ r.size ≤ p.length

theorem suffix_len' {l : List UInt8} {n : Nat} {s : List UInt8} (h : Lib.hasSuffix l s = true) (hl : l.length ≤ n) : s.length ≤ n := by
  unfold Lib.hasSuffix at h
  rw [List.isSuffixOf_iff_suffix] at h
  exact Nat.le_trans h.length_le hl

theorem end_of {p q : List UInt8} {e : Ending} (h : Norm p q) (he : e = .returned (.string ⟨q.toArray⟩)) : NormEnd p e :=
  ⟨_, he, h, by rw [Lib.size_eq]; exact h.sub.length_le⟩

theorem below_end {w w1 : World} (h : Below w.heap.size w w1) (o : Obj) (n : Nat) : Below w.heap.size w ((w1.alloc o).drewN n) := by
  have h2 := h.alloc h.size o
  exact ⟨h2.os, h2.tape, h2.output, h2.size, h2.block⟩

set_option maxHeartbeats 1000000 in
set_option maxRecDepth 1000000 in
theorem norm_walk1 (a : ByteArray) (w : World) (hs : a.size ≤ 1048576) (hi : Lib.indexByte a.data.toList 35 = -1) :
    Calls Try.prog 24 #[.string a] w fun e w' => NormEnd a.data.toList e ∧ Below w.heap.size w w' := by
  go_enter Try.func24, Try.ntmps24
  go_wp2_with (go_at_call 26; refine (idxByte26 _ _ _).mono ?_; rintro e w' ⟨rfl, rfl⟩)
  refine (idxAny_any _ _ (by omega)).mono ?_
  rintro e w1 ⟨⟨i, rfl, hi⟩, hb1⟩
  rcases hi with rfl | ⟨n, rfl, hn⟩
  · have hsz : a.data.toList.length ≤ a.size := by rw [← Lib.size_eq]; exact Nat.le_refl _
    have HZ : Hid (a.data.toList.length ≤ a.size) := hsz
    clear hsz
    by_cases h80 : Lib.hasSuffix (a.data.toList) [58, 56, 48] = true
    · have h3 : 3 ≤ a.size := suffix_len' h80 HZ.out
      have h3' : (3 : Int) ≤ (a.size : Int) := by omega
      go_wp2_with fail
      refine wp_loop_rounds 3 ?_
      rw [rounds_succ]
      go_wp2_with (go_at_call 28; refine (Try.strings_HasSuffix _ _ _ (by first | omega | (simp; omega))).mono ?_; rintro e w' ⟨rfl, rfl⟩)
      go_quiet (fail)
      go_wp2_with (go_at_call 29; refine (Try.strings_TrimSuffix _ _ _ (by simp; omega)).mono ?_; rintro e w' ⟨rfl, rfl⟩)
      go_ret
      first
        | exact ⟨end_of (norm_cut' _ a.size 3 _ (by omega) (by rw [← Lib.size_eq]; omega) (by rw [← Lib.size_eq]; omega)) rfl, below_end hb1 _ _⟩
        | exact ⟨end_of (norm_take _ a.size 3 (by omega) (by rw [← Lib.size_eq]; omega)) rfl, below_end hb1 _ _⟩
    · have h80f : Lib.hasSuffix (a.data.toList) [58, 56, 48] = false := by simpa using h80
      by_cases h443 : Lib.hasSuffix (a.data.toList) [58, 52, 52, 51] = true
      · have h4 : 4 ≤ a.size := suffix_len' h443 HZ.out
        have h4' : (4 : Int) ≤ (a.size : Int) := by omega
        clear h80
        go_wp2_with fail
        refine wp_loop_rounds 3 ?_
        rw [rounds_succ]
        go_wp2_with (go_at_call 28; refine (Try.strings_HasSuffix _ _ _ (by first | omega | (simp; omega))).mono ?_; rintro e w' ⟨rfl, rfl⟩)
        rw [rounds_succ]
        go_wp2_with (go_at_call 28; refine (Try.strings_HasSuffix _ _ _ (by first | omega | (simp; omega))).mono ?_; rintro e w' ⟨rfl, rfl⟩)
        go_quiet (fail)
        go_wp2_with (go_at_call 29; refine (Try.strings_TrimSuffix _ _ _ (by simp; omega)).mono ?_; rintro e w' ⟨rfl, rfl⟩)
        go_ret
        first
          | exact ⟨end_of (norm_cut' _ a.size 4 _ (by omega) (by rw [← Lib.size_eq]; omega) (by rw [← Lib.size_eq]; omega)) rfl, below_end hb1 _ _⟩
          | exact ⟨end_of (norm_take _ a.size 4 (by omega) (by rw [← Lib.size_eq]; omega)) rfl, below_end hb1 _ _⟩
      · have h443f : Lib.hasSuffix (a.data.toList) [58, 52, 52, 51] = false := by simpa using h443
        clear h80 h443
        go_wp2_with fail
        refine wp_loop_rounds 3 ?_
        rw [rounds_succ]
        go_wp2_with (go_at_call 28; refine (Try.strings_HasSuffix _ _ _ (by first | omega | (simp; omega))).mono ?_; rintro e w' ⟨rfl, rfl⟩)
        rw [rounds_succ]
        go_wp2_with (go_at_call 28; refine (Try.strings_HasSuffix _ _ _ (by first | omega | (simp; omega))).mono ?_; rintro e w' ⟨rfl, rfl⟩)
        rw [rounds_succ]
        go_wp2_with (go_at_call 29; refine (Try.strings_TrimSuffix _ _ _ (by first | omega | (simp; omega))).mono ?_; rintro e w' ⟨rfl, rfl⟩)
        go_ret
        exact ⟨end_of (norm_plain _) rfl, below_end hb1 _ 0⟩
  · have hx : (List.take n a.data.toList).length ≤ n := List.length_take_le _ _
    have HX : Hid ((List.take n a.data.toList).length ≤ n) := hx
    clear hx
    by_cases h80 : Lib.hasSuffix (List.take n a.data.toList) [58, 56, 48] = true
    · have h3 : 3 ≤ n := suffix_len' h80 HX.out
      have h3' : (3 : Int) ≤ (n : Int) := by omega
      go_wp2_with fail
      refine wp_loop_rounds 3 ?_
      rw [rounds_succ]
      go_wp2_with (go_at_call 28; refine (Try.strings_HasSuffix _ _ _ (by first | omega | (simp; omega))).mono ?_; rintro e w' ⟨rfl, rfl⟩)
      go_quiet (fail)
      go_wp2_with (go_at_call 29; refine (Try.strings_TrimSuffix _ _ _ (by simp; omega)).mono ?_; rintro e w' ⟨rfl, rfl⟩)
      go_ret
      first
        | exact ⟨end_of (norm_cut' _ n 3 _ (by omega) (by rw [← Lib.size_eq]; omega) (by rw [← Lib.size_eq]; omega)) rfl, below_end hb1 _ _⟩
        | exact ⟨end_of (norm_take _ n 3 (by omega) (by rw [← Lib.size_eq]; omega)) rfl, below_end hb1 _ _⟩
    · have h80f : Lib.hasSuffix (List.take n a.data.toList) [58, 56, 48] = false := by simpa using h80
      by_cases h443 : Lib.hasSuffix (List.take n a.data.toList) [58, 52, 52, 51] = true
      · have h4 : 4 ≤ n := suffix_len' h443 HX.out
        have h4' : (4 : Int) ≤ (n : Int) := by omega
        clear h80
        go_wp2_with fail
        refine wp_loop_rounds 3 ?_
        rw [rounds_succ]
        go_wp2_with (go_at_call 28; refine (Try.strings_HasSuffix _ _ _ (by first | omega | (simp; omega))).mono ?_; rintro e w' ⟨rfl, rfl⟩)
        rw [rounds_succ]
        go_wp2_with (go_at_call 28; refine (Try.strings_HasSuffix _ _ _ (by first | omega | (simp; omega))).mono ?_; rintro e w' ⟨rfl, rfl⟩)
        go_quiet (fail)
        go_wp2_with (go_at_call 29; refine (Try.strings_TrimSuffix _ _ _ (by simp; omega)).mono ?_; rintro e w' ⟨rfl, rfl⟩)
        go_ret
        first
          | exact ⟨end_of (norm_cut' _ n 4 _ (by omega) (by rw [← Lib.size_eq]; omega) (by rw [← Lib.size_eq]; omega)) rfl, below_end hb1 _ _⟩
          | exact ⟨end_of (norm_take _ n 4 (by omega) (by rw [← Lib.size_eq]; omega)) rfl, below_end hb1 _ _⟩
      · have h443f : Lib.hasSuffix (List.take n a.data.toList) [58, 52, 52, 51] = false := by simpa using h443
        clear h80 h443
        go_wp2_with fail
        refine wp_loop_rounds 3 ?_
        rw [rounds_succ]
        go_wp2_with (go_at_call 28; refine (Try.strings_HasSuffix _ _ _ (by first | omega | (simp; omega))).mono ?_; rintro e w' ⟨rfl, rfl⟩)
        rw [rounds_succ]
        go_wp2_with (go_at_call 28; refine (Try.strings_HasSuffix _ _ _ (by first | omega | (simp; omega))).mono ?_; rintro e w' ⟨rfl, rfl⟩)
        rw [rounds_succ]
        go_wp2_with (go_at_call 29; refine (Try.strings_TrimSuffix _ _ _ (by first | omega | (simp; omega))).mono ?_; rintro e w' ⟨rfl, rfl⟩)
        go_ret
        exact ⟨end_of (norm_plain _) rfl, below_end hb1 _ 0⟩

set_option maxHeartbeats 1000000 in
set_option maxRecDepth 1000000 in
theorem norm_walk2 (a a1 : ByteArray) (w : World) (hs : a.size ≤ 1048576) (i0 : Nat) (hi : Lib.indexByte a.data.toList 35 = (i0 : Int)) (hlt : i0 < a.size) (ha1 : Hid (a.extract 0 i0 = a1)) :
    Calls Try.prog 24 #[.string a] w fun e w' => NormEnd a1.data.toList e ∧ Below w.heap.size w w' := by
  go_enter Try.func24, Try.ntmps24
  go_wp2_with (go_at_call 26; refine (idxByte26 _ _ _).mono ?_; rintro e w' ⟨rfl, rfl⟩)
  have hsz : min i0 a.size = a1.size := by rw [← ha1.out]; simp
  rw [ha1.out, hsz]
  have hs1 : a1.size ≤ 1048576 := by omega
  clear hsz hi
  refine (idxAny_any _ _ (by omega)).mono ?_
  rintro e w1 ⟨⟨i, rfl, hi⟩, hb1⟩
  rcases hi with rfl | ⟨n, rfl, hn⟩
  · have hsz : a1.data.toList.length ≤ a1.size := by rw [← Lib.size_eq]; exact Nat.le_refl _
    have HZ : Hid (a1.data.toList.length ≤ a1.size) := hsz
    clear hsz
    by_cases h80 : Lib.hasSuffix (a1.data.toList) [58, 56, 48] = true
    · have h3 : 3 ≤ a1.size := suffix_len' h80 HZ.out
      have h3' : (3 : Int) ≤ (a1.size : Int) := by omega
      go_wp2_with fail
      refine wp_loop_rounds 3 ?_
      rw [rounds_succ]
      go_wp2_with (go_at_call 28; refine (Try.strings_HasSuffix _ _ _ (by first | omega | (simp; omega))).mono ?_; rintro e w' ⟨rfl, rfl⟩)
      go_quiet (fail)
      go_wp2_with (go_at_call 29; refine (Try.strings_TrimSuffix _ _ _ (by simp; omega)).mono ?_; rintro e w' ⟨rfl, rfl⟩)
      go_ret
      first
        | exact ⟨end_of (norm_cut' _ a1.size 3 _ (by omega) (by rw [← Lib.size_eq]; omega) (by rw [← Lib.size_eq]; omega)) rfl, below_end hb1 _ _⟩
        | exact ⟨end_of (norm_take _ a1.size 3 (by omega) (by rw [← Lib.size_eq]; omega)) rfl, below_end hb1 _ _⟩
    · have h80f : Lib.hasSuffix (a1.data.toList) [58, 56, 48] = false := by simpa using h80
      by_cases h443 : Lib.hasSuffix (a1.data.toList) [58, 52, 52, 51] = true
      · have h4 : 4 ≤ a1.size := suffix_len' h443 HZ.out
        have h4' : (4 : Int) ≤ (a1.size : Int) := by omega
        clear h80
        go_wp2_with fail
        refine wp_loop_rounds 3 ?_
        rw [rounds_succ]
        go_wp2_with (go_at_call 28; refine (Try.strings_HasSuffix _ _ _ (by first | omega | (simp; omega))).mono ?_; rintro e w' ⟨rfl, rfl⟩)
        rw [rounds_succ]
        go_wp2_with (go_at_call 28; refine (Try.strings_HasSuffix _ _ _ (by first | omega | (simp; omega))).mono ?_; rintro e w' ⟨rfl, rfl⟩)
        go_quiet (fail)
        go_wp2_with (go_at_call 29; refine (Try.strings_TrimSuffix _ _ _ (by simp; omega)).mono ?_; rintro e w' ⟨rfl, rfl⟩)
        go_ret
        first
          | exact ⟨end_of (norm_cut' _ a1.size 4 _ (by omega) (by rw [← Lib.size_eq]; omega) (by rw [← Lib.size_eq]; omega)) rfl, below_end hb1 _ _⟩
          | exact ⟨end_of (norm_take _ a1.size 4 (by omega) (by rw [← Lib.size_eq]; omega)) rfl, below_end hb1 _ _⟩
      · have h443f : Lib.hasSuffix (a1.data.toList) [58, 52, 52, 51] = false := by simpa using h443
        clear h80 h443
        go_wp2_with fail
        refine wp_loop_rounds 3 ?_
        rw [rounds_succ]
        go_wp2_with (go_at_call 28; refine (Try.strings_HasSuffix _ _ _ (by first | omega | (simp; omega))).mono ?_; rintro e w' ⟨rfl, rfl⟩)
        rw [rounds_succ]
        go_wp2_with (go_at_call 28; refine (Try.strings_HasSuffix _ _ _ (by first | omega | (simp; omega))).mono ?_; rintro e w' ⟨rfl, rfl⟩)
        rw [rounds_succ]
        go_wp2_with (go_at_call 29; refine (Try.strings_TrimSuffix _ _ _ (by first | omega | (simp; omega))).mono ?_; rintro e w' ⟨rfl, rfl⟩)
        go_ret
        exact ⟨end_of (norm_plain _) rfl, below_end hb1 _ 0⟩
  · have hx : (List.take n a1.data.toList).length ≤ n := List.length_take_le _ _
    have HX : Hid ((List.take n a1.data.toList).length ≤ n) := hx
    clear hx
    by_cases h80 : Lib.hasSuffix (List.take n a1.data.toList) [58, 56, 48] = true
    · have h3 : 3 ≤ n := suffix_len' h80 HX.out
      have h3' : (3 : Int) ≤ (n : Int) := by omega
      go_wp2_with fail
      refine wp_loop_rounds 3 ?_
      rw [rounds_succ]
      go_wp2_with (go_at_call 28; refine (Try.strings_HasSuffix _ _ _ (by first | omega | (simp; omega))).mono ?_; rintro e w' ⟨rfl, rfl⟩)
      go_quiet (fail)
      go_wp2_with (go_at_call 29; refine (Try.strings_TrimSuffix _ _ _ (by simp; omega)).mono ?_; rintro e w' ⟨rfl, rfl⟩)
      go_ret
      first
        | exact ⟨end_of (norm_cut' _ n 3 _ (by omega) (by rw [← Lib.size_eq]; omega) (by rw [← Lib.size_eq]; omega)) rfl, below_end hb1 _ _⟩
        | exact ⟨end_of (norm_take _ n 3 (by omega) (by rw [← Lib.size_eq]; omega)) rfl, below_end hb1 _ _⟩
    · have h80f : Lib.hasSuffix (List.take n a1.data.toList) [58, 56, 48] = false := by simpa using h80
      by_cases h443 : Lib.hasSuffix (List.take n a1.data.toList) [58, 52, 52, 51] = true
      · have h4 : 4 ≤ n := suffix_len' h443 HX.out
        have h4' : (4 : Int) ≤ (n : Int) := by omega
        clear h80
        go_wp2_with fail
        refine wp_loop_rounds 3 ?_
        rw [rounds_succ]
        go_wp2_with (go_at_call 28; refine (Try.strings_HasSuffix _ _ _ (by first | omega | (simp; omega))).mono ?_; rintro e w' ⟨rfl, rfl⟩)
        rw [rounds_succ]
        go_wp2_with (go_at_call 28; refine (Try.strings_HasSuffix _ _ _ (by first | omega | (simp; omega))).mono ?_; rintro e w' ⟨rfl, rfl⟩)
        go_quiet (fail)
        go_wp2_with (go_at_call 29; refine (Try.strings_TrimSuffix _ _ _ (by simp; omega)).mono ?_; rintro e w' ⟨rfl, rfl⟩)
        go_ret
        first
          | exact ⟨end_of (norm_cut' _ n 4 _ (by omega) (by rw [← Lib.size_eq]; omega) (by rw [← Lib.size_eq]; omega)) rfl, below_end hb1 _ _⟩
          | exact ⟨end_of (norm_take _ n 4 (by omega) (by rw [← Lib.size_eq]; omega)) rfl, below_end hb1 _ _⟩
      · have h443f : Lib.hasSuffix (List.take n a1.data.toList) [58, 52, 52, 51] = false := by simpa using h443
        clear h80 h443
        go_wp2_with fail
        refine wp_loop_rounds 3 ?_
        rw [rounds_succ]
        go_wp2_with (go_at_call 28; refine (Try.strings_HasSuffix _ _ _ (by first | omega | (simp; omega))).mono ?_; rintro e w' ⟨rfl, rfl⟩)
        rw [rounds_succ]
        go_wp2_with (go_at_call 28; refine (Try.strings_HasSuffix _ _ _ (by first | omega | (simp; omega))).mono ?_; rintro e w' ⟨rfl, rfl⟩)
        rw [rounds_succ]
        go_wp2_with (go_at_call 29; refine (Try.strings_TrimSuffix _ _ _ (by first | omega | (simp; omega))).mono ?_; rintro e w' ⟨rfl, rfl⟩)
        go_ret
        exact ⟨end_of (norm_plain _) rfl, below_end hb1 _ 0⟩

end Go.Proofs.Qxb6604254a
