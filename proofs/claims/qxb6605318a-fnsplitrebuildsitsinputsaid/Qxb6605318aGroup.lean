/-
  What AppendGroup writes, as a plain function on lists of bytes.
-/
import Derived.Test.Qxb6605318aStrs
namespace Go.Proofs.Qxb6605318a

/-- The first k groups of three, each behind a comma. -/
def grp (l : List UInt8) : Nat → List UInt8
  | 0 => []
  | k + 1 => grp l k ++ (44 :: (l.drop (3 * k)).take 3)

/-- How many commas a whole part of n bytes gets. -/
def commas (n : Nat) : Nat := (n - 1) / 3

/-- The whole part, grouped. -/
def whole3 (l : List UInt8) : List UInt8 := l.take (l.length - 3 * commas l.length) ++ grp (l.drop (l.length - 3 * commas l.length)) (commas l.length)

def sgn (l : List UInt8) : List UInt8 := if Lib.hasPrefix l [45] then [45] else []

/-- AppendGroup's text. -/
def groupL (l : List UInt8) : List UInt8 :=
  sgn l ++ whole3 (dotCut (Lib.trimPrefix l [45])).1 ++ (if (dotCut (Lib.trimPrefix l [45])).2.2 then 46 :: (dotCut (Lib.trimPrefix l [45])).2.1 else [])

theorem grp_length (l : List UInt8) : ∀ k, 3 * k ≤ l.length → (grp l k).length = 4 * k
  | 0, _ => rfl
  | k + 1, h => by
    unfold grp
    rw [List.length_append, grp_length l k (by omega)]
    simp
    omega
theorem grp_le (l : List UInt8) : ∀ k, (grp l k).length ≤ 4 * k
  | 0 => Nat.le_refl _
  | k + 1 => by
    have := grp_le l k
    unfold grp
    rw [List.length_append]
    simp
    omega
end Go.Proofs.Qxb6605318a
