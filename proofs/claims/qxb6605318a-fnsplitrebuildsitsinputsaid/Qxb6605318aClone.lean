/-
  cloneBytes, sameBytes and the bounds' test, over this seat's dump.
-/
import Derived.Test.Qxb6605318aProg
import Derived.Test.Qxb6605318aKit
import Derived.WalkSpells
import Derived.WalkLawsBesides
import Derived.BigQuiet
import Derived.Laws.CopyOwn
import Derived.Deep.OwnRows
import Derived.Lib.SliceRun
import Derived.Deep.LoopGhost
namespace Go.Proofs.Qxb6605318a
open Go.RowKit

theorem Try.info5 : (Try.prog.info? 5).map (fun i => (i.zero, i.size, i.bytes)) = some (some (.int .u8 0), 1, 1) := by kernel_rfl
theorem bt : BT Try.prog 26 5 := by
  refine ⟨Try.underlying26, ?_⟩
  obtain ⟨i, h1, h2, h3, h4⟩ := info_parts Try.info5
  exact ⟨i, _, h1, h2, h3, h4, rfl⟩

/-- A slice of bytes that can be read: nil, or its cells. -/
def Reads (w : World) (v : Value) (l : List UInt8) : Prop :=
  (v = .slice none 0 0 ∧ l = []) ∨ ∃ x cap, v = .slice (some x) l.length cap ∧ ∀ j u, (bys l)[j]? = some u → w.cell? (x.add j) = some u

theorem Own.reads {w : World} {base : Nat} {e : TypeId} {v : Value} {l : List UInt8} (h : Own w base e v l) : Reads w v l := by
  rcases h.2 with ⟨rfl, h0⟩ | ⟨g, cap, cur, rfl, _⟩
  · exact .inl ⟨rfl, List.eq_nil_of_length_eq_zero h0⟩
  · exact .inr ⟨_, cap, rfl, World.ownsRow.cells h rfl⟩

theorem own_copied (w : World) (e : TypeId) (z : Value) (l : List UInt8) (h : l.length ≤ maxLen) :
    Own ((w.alloc (.cells (madeCells #[z] l.length) e)).setRow w.heap.size (bys l ++ (madeCells #[z] l.length).toList.drop (bys l).length).toArray) w.heap.size e (.slice (some ⟨w.heap.size, 0, none⟩) l.length l.length) l := by
  refine ⟨by rw [bys_length, Nat.mul_one], .inr ⟨w.heap.size, l.length, _, rfl, Nat.le_refl _, setRow_heap _ w.heap.size (madeCells #[z] l.length) _ e _ (heap_alloc_new w _), Nat.le_refl _, h, ?_, ?_⟩⟩
  · simp [bys_length, size_madeCells]
  · have : List.drop (bys l).length (madeCells #[z] l.length).toList = [] := List.drop_eq_nil_of_le (by simp [bys_length, size_madeCells])
    simp only [this, List.append_nil, Nat.mul_one]
    rw [← bys_length l, List.take_length]

theorem below_copied (w : World) (e : TypeId) (z : Value) (n : Nat) (c : Array Value) : Below w.heap.size w ((w.alloc (.cells (madeCells #[z] n) e)).setRow w.heap.size c) :=
  below_setRow ((Below.refl _ _).alloc (Nat.le_refl _) _) (Nat.le_refl _) c

set_option maxHeartbeats 1000000 in
theorem clone_any (v : Value) (l : List UInt8) (w : World) (hr : Reads w v l) (hl : l.length ≤ 1048576) :
    Calls Try.prog 18 #[v] w fun e w' => (∃ v', e = .returned v' ∧ Own w' w.heap.size 5 v' l ∧ (v = .slice none 0 0 → v' = .slice none 0 0)) ∧ Below w.heap.size w w' := by
  have q26 : ∀ (w : World) (a : Option Addr) (n c n' c' : Nat), (binOp .eql 26 (.slice a n c) (.slice none n' c')).run Try.prog w = .ok (.bool a.isNone) w := fun w a n c n' c' => Lib.run_eql_slice_nil w 26 5 a n c n' c' Try.underlying26
  rcases hr with ⟨rfl, rfl⟩ | ⟨x, cap, rfl, hc⟩
  · go_enter Try.func18, Try.ntmps18
    go_wp2
    go_ret
    exact ⟨⟨_, rfl, World.ownsRow_nil _ _ _ _, fun _ => rfl⟩, Below.refl _ _⟩
  · obtain ⟨i, hi, hz0, hz1, hz2⟩ := info_parts Try.info5
    have HC : Hid (∀ j u, (bys l)[j]? = some u → w.cell? (x.add j) = some u) := hc
    clear hc
    go_enter Try.func18, Try.ntmps18
    go_wp2_with (first
      | (at_make; refine wpList_make_row _ rfl _ _ 26 rfl 5 i (.int .u8 0) Try.underlying26 hi hz0 hz1 rfl .i64 .i64 l.length rfl rfl (by rw [hz2]; omega) (by omega) ?_)
      | (refine wpList_copy_own rfl (.tmp 9) (.tmp 10) 26 26 rfl 5 Try.underlying26 (by kernel_rfl) w.heap.size 0 l.length l.length x l.length cap rfl rfl (madeCells #[.int .u8 0] l.length) 5 (heap_alloc_new w _) (bys l) (by rw [bys_length]; simp) (fun j u hj => cell_later ((Below.refl _ _).alloc (Nat.le_refl _) _) (HC.out j u hj)) (by simp [bys_length, size_madeCells]) bys_one ?_))
    go_wp2
    go_ret
    exact ⟨⟨_, rfl, own_copied w 5 _ l (by unfold maxLen; omega), fun h => by cases h⟩, below_copied w 5 _ _ _⟩

theorem zzBytes22_any (a : Option Addr) (n c : Nat) (s : ByteArray) (w : World) (h : s.size ≤ maxLen) (hn : n ≤ maxLen) :
    Calls Try.prog 22 #[.slice a n c, .string s] w fun e w' => e = .returned (.bool (decide (n + s.size ≤ 1048576))) ∧ w' = w := by
  unfold maxLen at h hn
  by_cases h1 : n + s.size ≤ 1048576
  · rw [decide_eq_true h1]
    go_enter Try.func22, Try.ntmps22
    go_wp2
    go_ret
    exact ⟨rfl, rfl⟩
  · rw [decide_eq_false h1]
    by_cases h2 : n ≤ 1048576
    · by_cases h3 : s.size ≤ 1048576
      all_goals
        go_enter Try.func22, Try.ntmps22
        go_wp2
        go_ret
        exact ⟨rfl, rfl⟩
    · go_enter Try.func22, Try.ntmps22
      go_wp2
      go_ret
      exact ⟨rfl, rfl⟩
end Go.Proofs.Qxb6605318a
