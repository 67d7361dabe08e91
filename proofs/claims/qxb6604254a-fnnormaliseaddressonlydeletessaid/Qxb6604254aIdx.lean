/-
  strings.IndexByte, IndexRune and IndexAny at the two bytes slash and question mark: what the law needs of them.
-/
import Derived.Test.Qxb6604254aLeaves
import Derived.Laws.Runes
import Derived.Laws.RangeAny
import Derived.Lib.Bytealg
import Derived.Deep.LoopGhost
namespace Go.Proofs.Qxb6604254a
open Go.RowKit

theorem idxByte30 (s : ByteArray) (c : Int) (w : World) :
    Calls Try.prog 30 #[.string s, .int .u8 c] w fun e w' => e = .returned (.int .i64 (Lib.indexByte s.data.toList c.toNat.toUInt8)) ∧ w' = w := by
  go_enter Try.func30, Try.ntmps30
  go_wp2
  rw [run_callFunc_extern Try.func37 (by kernel_rfl) (by kernel_rfl) (by kernel_rfl) (e := Extern.BytealgIndexByte.indexByte) (by kernel_rfl), Lib.run_indexByteString]
  simp only [Result.andThen]
  rw [Oper.upon_value]
  go_wp2
  go_ret
  exact ⟨rfl, rfl⟩
theorem idxByte26 (s : ByteArray) (c : Int) (w : World) :
    Calls Try.prog 26 #[.string s, .int .u8 c] w fun e w' => e = .returned (.int .i64 (Lib.indexByte s.data.toList c.toNat.toUInt8)) ∧ w' = w := by
  go_enter Try.func26, Try.ntmps26
  go_wp2_with (go_at_call 30; refine (idxByte30 _ _ _).mono ?_; rintro e w' ⟨rfl, rfl⟩)
  go_ret
  exact ⟨rfl, rfl⟩

/-- Some integer is handed back. -/
def SomeInt (e : Ending) : Prop := ∃ i : Int, e = .returned (.int .i64 i)

set_option maxHeartbeats 1000000 in
set_option maxRecDepth 1000000 in
theorem idxRune_ascii (r : Int) (w : World) (h0 : 0 ≤ r) (h1 : r < 128) :
    Calls Try.prog 31 #[.string ⟨#[47, 63]⟩, .int .i32 r] w fun e w' => SomeInt e ∧ Below w.heap.size w w' := by
  go_enter Try.func31, Try.ntmps31
  go_wp2_with (go_at_call 26; refine (idxByte26 _ _ _).mono ?_; rintro e w' ⟨rfl, rfl⟩)
  go_ret
  exact ⟨⟨_, rfl⟩, Below.refl _ _⟩

set_option maxHeartbeats 1000000 in
set_option maxRecDepth 1000000 in
theorem idxRune_err (w : World) :
    Calls Try.prog 31 #[.string ⟨#[47, 63]⟩, .int .i32 65533] w fun e w' => SomeInt e ∧ Below w.heap.size w w' := by
  have n0 := fun ty => run_next_ascii (P := Try.prog) w ⟨#[47, 63]⟩ 0 ty (by decide) (by decide)
  have n1 := fun ty => run_next_ascii (P := Try.prog) w ⟨#[47, 63]⟩ 1 ty (by decide) (by decide)
  have n2 := fun ty => run_next_end (P := Try.prog) w ⟨#[47, 63]⟩ 2 ty (by decide)
  go_enter Try.func31, Try.ntmps31
  go_wp2
  refine wp_loop_rounds 3 ?_
  rw [rounds_succ]; go_wp2
  rw [rounds_succ]; go_wp2
  rw [rounds_succ]; go_wp2
  go_ret
  exact ⟨⟨_, rfl⟩, (Below.refl _ _).alloc (Nat.le_refl _) _⟩

set_option maxHeartbeats 1000000 in
set_option maxRecDepth 1000000 in
theorem idxRune_surr (r : Int) (w : World) (h0 : 55296 ≤ r) (h1 : r ≤ 57343) :
    Calls Try.prog 31 #[.string ⟨#[47, 63]⟩, .int .i32 r] w fun e w' => SomeInt e ∧ Below w.heap.size w w' := by
  go_enter Try.func31, Try.ntmps31
  go_wp2
  go_ret
  exact ⟨⟨_, rfl⟩, Below.refl _ _⟩

set_option maxHeartbeats 1000000 in
set_option maxRecDepth 1000000 in
theorem idxRune_three (r : Int) (w : World) (h0 : 128 ≤ r) (hne : (r == 65533) = false) (h1 : r < 55296 ∨ 57343 < r) (h2 : r ≤ 1114111) (hs : 3 ≤ (Utf8.encode r).size) (hs4 : (Utf8.encode r).size ≤ 4) :
    Calls Try.prog 31 #[.string ⟨#[47, 63]⟩, .int .i32 r] w fun e w' => SomeInt e ∧ Below w.heap.size w w' := by
  rcases h1 with h1 | h1
  all_goals
    go_enter Try.func31, Try.ntmps31
    go_wp2
    go_step3
    go_wp2
    refine wp_loop_rounds 1 ?_
    rw [rounds_succ]; go_wp2
    try rw [Exit.noGoto_ret]
    go_ret
    exact ⟨⟨_, rfl⟩, Below.refl _ _⟩
end Go.Proofs.Qxb6604254a
