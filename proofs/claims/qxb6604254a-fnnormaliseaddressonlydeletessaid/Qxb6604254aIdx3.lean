/-
  strings.IndexRune at every rune, strings.IndexAny at a short string, both at the two bytes slash and question mark.
-/
import Derived.Test.Qxb6604254aIdx2
import Derived.Lib.OthersKept
namespace Go.Proofs.Qxb6604254a
open Go.RowKit

theorem idxRune_any (r : Int) (w : World) (h0 : 0 ≤ r) (h1 : r ≤ 1114111) :
    Calls Try.prog 31 #[.string ⟨#[47, 63]⟩, .int .i32 r] w fun e w' => SomeInt e ∧ Below w.heap.size w w' := by
  by_cases ha : r < 128
  · exact idxRune_ascii r w h0 ha
  by_cases he : r = 65533
  · subst he; exact idxRune_err w
  by_cases hsu : 55296 ≤ r ∧ r ≤ 57343
  · exact idxRune_surr r w hsu.1 hsu.2
  have hv : Utf8.valid r = true := by unfold Utf8.valid; simp; omega
  have hf := encode_facts r hv (by omega)
  by_cases h2 : (Utf8.encode r).size = 2
  · have hr : r < 55296 := by
      by_cases hc : r < 55296
      · exact hc
      · exfalso
        have hc1 : ¬ r.toNat < 128 := by omega
        have hc2 : ¬ r.toNat < 2048 := by omega
        unfold Utf8.encode at h2
        simp only [hv, if_true, hc1, if_false, hc2] at h2
        split at h2
        · exact absurd h2 (by show ¬ (3 = 2); omega)
        · exact absurd h2 (by show ¬ (4 = 2); omega)
    refine idxRune_two r w (by omega) hr h2 fun h => ?_
    have := hf.2.2 (by omega)
    simpa only [h2] using this
  · exact idxRune_three r w (by omega) (by simpa using he) (by omega) h1 (by omega) hf.2.1

/-- An integer from -1 on, below n, is handed back. -/
def IdxIn (n : Nat) (e : Ending) : Prop := ∃ i : Int, e = .returned (.int .i64 i) ∧ -1 ≤ i ∧ i < n

theorem iter_step {w wr w1 : World} {s : ByteArray} {i p : Nat} (hI : wr.heap[w.heap.size]? = some (.stringIter s i)) (hB : Below w.heap.size w wr)
    (hb1 : Below (wr.iterAt w.heap.size s p).heap.size (wr.iterAt w.heap.size s p) w1) :
    w1.heap[w.heap.size]? = some (.stringIter s p) ∧ Below w.heap.size w w1 := by
  have hlt : w.heap.size < wr.heap.size := (Array.getElem?_eq_some_iff.1 hI).1
  refine ⟨?_, (Lib.below_iterAt hB (Nat.le_refl _) s p).trans (hb1.mono (by rw [Lib.iterAt_size]; omega))⟩
  rw [hb1.block _ (by rw [Lib.iterAt_size]; exact hlt)]
  exact Lib.iterAt_heap wr _ s i p hI

set_option maxHeartbeats 1000000 in
set_option maxRecDepth 1000000 in
theorem idxAny_short (s : ByteArray) (w : World) (h8 : s.size ≤ 8) :
    Calls Try.prog 27 #[.string s, .string ⟨#[47, 63]⟩] w fun e w' => IdxIn s.size e ∧ Below w.heap.size w w' := by
  have h8z : decide ((8 : Int) < (s.size : Int)) = false := decide_eq_false (by omega)
  go_enter Try.func27, Try.ntmps27
  go_wp2
  go_loopg [9, 10] s.size (fun g _ _ wx => ∃ i : Nat, s.size ≤ i + g ∧ wx.heap[w.heap.size]? = some (.stringIter s i) ∧ Below w.heap.size w wx)
  case atStart => exact ⟨0, by omega, World.iter_heap _ _ _, (Below.refl _ _).alloc (Nat.le_refl _) _⟩
  case round =>
    obtain ⟨i, hig, hit, hbl⟩ := hrel
    by_cases hi : i < s.size
    · have hnx := fun ty => Lib.run_next_any_at (P := Try.prog) wr w.heap.size s i ty hit hi
      have hd1 : 1 ≤ (Utf8.decode s i).2 := by
        by_cases ha : (s[i]'hi).toNat < 128
        · rw [decode_ascii s i hi ha]; exact Nat.le_refl _
        · exact (decode_high s i hi (by omega)).2
      have hd2 := decode_max s i
      obtain ⟨r, d, hrd⟩ : ∃ r d, Utf8.decode s i = (r, d) := ⟨_, _, rfl⟩
      rw [hrd] at hnx hd1 hd2
      have HB : Hid (Below w.heap.size w wr) := hbl
      have HI : Hid (wr.heap[w.heap.size]? = some (.stringIter s i)) := hit
      clear hbl hit hrd
      go_wp2_with (go_at_call 31; refine (idxRune_any _ _ (by omega) (by omega)).mono ?_; rintro e w1 ⟨⟨k, rfl⟩, hb1⟩)
      · go_ret
        exact ⟨⟨_, rfl, by omega, by omega⟩, (iter_step HI.out HB.out hb1).2⟩
      · go_roundg (gk - 1)
        case measure => omega
        case rel => exact ⟨i + d, by omega, (iter_step HI.out HB.out hb1).1, (iter_step HI.out HB.out hb1).2⟩
    · have hnx := fun ty => Lib.run_next_end_at (P := Try.prog) wr w.heap.size s i ty hit hi
      have HB : Hid (Below w.heap.size w wr) := hbl
      clear hbl hit
      go_wp2
      go_ret
      exact ⟨⟨_, rfl, by omega, by omega⟩, HB.out⟩
end Go.Proofs.Qxb6604254a
