/-
  strings.IndexRune (a rune of two bytes) and IndexAny at the two bytes slash and question mark.
-/
import Derived.Test.Qxb6604254aIdx
import Derived.Stop.FmtRuneSmall
namespace Go.Proofs.Qxb6604254a
open Go.RowKit

set_option maxHeartbeats 1000000 in
set_option maxRecDepth 1000000 in
theorem idxRune_two (r : Int) (w : World) (h0 : 128 ≤ r) (h1 : r < 55296) (hs : (Utf8.encode r).size = 2) (hb : ∀ h : 1 < (Utf8.encode r).size, 128 ≤ ((Utf8.encode r)[1]'h).toNat) :
    Calls Try.prog 31 #[.string ⟨#[47, 63]⟩, .int .i32 r] w fun e w' => SomeInt e ∧ Below w.heap.size w w' := by
  have hl : 1 < (Utf8.encode r).size := by omega
  have hb1 := hb hl
  have hd : ((((⟨#[47, 63]⟩ : ByteArray)[1]'(by decide)).toNat : Int) != ((Utf8.encode r)[1].toNat : Int)) = true := by
    show ((63 : Int) != ((Utf8.encode r)[1].toNat : Int)) = true
    simp; omega
  clear hb hb1
  have hw2 : IntKind.i64.wrap 2 = 2 := by decide
  have hsl : ∀ w, (Instr.slice 9 (.string ⟨#[47, 63]⟩) (some (.int .i64 2)) none none).run Try.prog w = .ok (.string ⟨#[]⟩) w := fun _ => by kernel_rfl
  have hix : ∀ c : Int, Lib.indexByte (⟨#[]⟩ : ByteArray).data.toList c.toNat.toUInt8 = -1 := fun _ => rfl
  go_enter Try.func31, Try.ntmps31
  go_wp2
  go_step3
  go_wp2
  refine wp_loop_rounds 1 ?_
  rw [rounds_succ]; go_wp2
  go_step3
  go_wp2
  go_quiet (fail)
  go_wp2
  go_quiet ((go_at_call 26; exact (idxByte26 _ _ _).mono (fun _ _ h => ⟨h.1, _, h.2⟩)))
  go_wp2
  repeat (first | rw [Exit.noGoto_ret] | (simp only [Exit.inBlock, Exit.then]; done) | simp only [Exit.inBlock, Exit.then])
  go_ret
  exact ⟨⟨_, rfl⟩, ⟨rfl, rfl, rfl, Nat.le_refl _, fun _ _ => rfl⟩⟩
end Go.Proofs.Qxb6604254a
