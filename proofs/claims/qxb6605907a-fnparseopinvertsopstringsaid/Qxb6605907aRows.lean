/-
  No cell of these rows narrows 'for every input' (looked for: loops, veiled, ifaces, maps, wideKeys, modest, calm, conditions, laid).
  DERIVED. THE GIVEN ROWS OF THIS SEAT. 2 by the template 'for every input the law returns true; each argument reads behind the call as it read before'; 0 by the template 'total and deterministic' (their statements: Qxb6605907aTotals.lean).
  GIVEN WITH THE SEED: the statements are not yours to turn. If you find one false, say at which input.
  Laid BY PROGRAM, IN A SANDBOX (cutbox-rows.mjs): the forced cells as the released guide's own fill.sh prints them over the translation 1c5b999bbf678aae… (all of the seat's roots in one cut). By AI agents, Wed Nov 11 2026. No macro, syntax, notation, axiom, sorry.
-/
import Derived.Test.Qxb6605907aChecked
import GoSem.Claim
import GoSem.ClaimJoined
import GoSem.ClaimMapViews
import Derived.JoinedTies
import Derived.KernelRfl
namespace Go.Proofs.Qxb6605907a
/- THE CELL 'sum', in the pinned program and in every row, IS THE sha256 OF THE DUMP (.gsa) THAT Qxb6605907aProg.lean LOADS. Nothing in Lean hashes anything: it is a label: what it is worth is what the hold of that sum in a sandbox is worth. -/
noncomputable def Try.pinned : Pinned := { name := "qxb6605907a", sum := "1c5b999bbf678aaefd6f87e3f63e10ebce64711a584839e7552f68411ae8d3b1", checked := Try.checked }
namespace Rows
def none {H : Type} : Left H := { results := [], args := [] }

/-- 'zzlaws_internal_history_b1.FnParseOpMatchesAutomaton': WHATEVER THE INPUT: true; the input reads as it did. -/
def fnParseOpMatchesAutomatonSpec : ChangeSpec := { name := "fnParseOpMatchesAutomaton", fn := fun _ => fun
  | [d] => { results := [.lit (.bool true)], args := [d] }
  | _ => none }
def fnParseOpMatchesAutomatonRow : OpenClaim := { program := "qxb6605907a", sum := "1c5b999bbf678aaefd6f87e3f63e10ebce64711a584839e7552f68411ae8d3b1", func := "example.com/antecede/antecede/zzlaws_internal_history_b1.FnParseOpMatchesAutomaton", spec := "fnParseOpMatchesAutomaton", inPlace := ["internal/bytealg.IndexByteString", "internal/bytealg.IndexString"], unfollowed := true, recurses := true, named := ["internal/bytealg.MaxLen"], apart := false }
def FnParseOpMatchesAutomatonSaid : Prop := fnParseOpMatchesAutomatonRow.holds Try.pinned (OpenSpec.ofChange fnParseOpMatchesAutomatonSpec)

/-- ITS FALSE NEIGHBOUR: 'it returns false'. Refute it at one input. -/
def fnParseOpMatchesAutomatonWrong : ChangeSpec := { name := "fnParseOpMatchesAutomaton", fn := fun _ => fun
  | [d] => { results := [.lit (.bool false)], args := [d] }
  | _ => none }
def FnParseOpMatchesAutomatonWrongFalsely : Prop := fnParseOpMatchesAutomatonRow.holds Try.pinned (OpenSpec.ofChange fnParseOpMatchesAutomatonWrong)

/-- 'zzlaws_internal_history_b1.FnParseOpInvertsOpString': WHATEVER THE INPUT: true; the input reads as it did. -/
def fnParseOpInvertsOpStringSpec : ChangeSpec := { name := "fnParseOpInvertsOpString", fn := fun _ => fun
  | [d1, d2, d3, d4] => { results := [.lit (.bool true)], args := [d1, d2, d3, d4] }
  | _ => none }
def fnParseOpInvertsOpStringRow : OpenClaim := { program := "qxb6605907a", sum := "1c5b999bbf678aaefd6f87e3f63e10ebce64711a584839e7552f68411ae8d3b1", func := "example.com/antecede/antecede/zzlaws_internal_history_b1.FnParseOpInvertsOpString", spec := "fnParseOpInvertsOpString", inPlace := ["internal/bytealg.IndexByteString", "internal/bytealg.IndexString"], unfollowed := true, recurses := true, named := ["internal/bytealg.MaxLen"], apart := false }
def FnParseOpInvertsOpStringSaid : Prop := fnParseOpInvertsOpStringRow.holds Try.pinned (OpenSpec.ofChange fnParseOpInvertsOpStringSpec)

/-- ITS FALSE NEIGHBOUR: 'it returns false'. Refute it at one input. -/
def fnParseOpInvertsOpStringWrong : ChangeSpec := { name := "fnParseOpInvertsOpString", fn := fun _ => fun
  | [d1, d2, d3, d4] => { results := [.lit (.bool false)], args := [d1, d2, d3, d4] }
  | _ => none }
def FnParseOpInvertsOpStringWrongFalsely : Prop := fnParseOpInvertsOpStringRow.holds Try.pinned (OpenSpec.ofChange fnParseOpInvertsOpStringWrong)

end Rows
end Go.Proofs.Qxb6605907a
