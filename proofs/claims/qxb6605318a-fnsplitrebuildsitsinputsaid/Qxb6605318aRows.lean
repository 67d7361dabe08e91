/-
  No cell of these rows narrows 'for every input' (looked for: loops, veiled, ifaces, maps, wideKeys, modest, calm, conditions, laid).
  DERIVED. THE GIVEN ROWS OF THIS SEAT. 5 by the template 'for every input the law returns true; each argument reads behind the call as it read before'; 0 by the template 'total and deterministic' (their statements: Qxb6605318aTotals.lean).
  GIVEN WITH THE SEED: the statements are not yours to turn. If you find one false, say at which input.
  Laid BY PROGRAM, IN A SANDBOX (cutbox-rows.mjs): the forced cells as the released guide's own fill.sh prints them over the translation 72a1f1a385598f90… (all of the seat's roots in one cut). By AI agents, Wed Nov 11 2026. No macro, syntax, notation, axiom, sorry.
-/
import Derived.Test.Qxb6605318aChecked
import GoSem.Claim
import GoSem.ClaimJoined
import GoSem.ClaimMapViews
import Derived.JoinedTies
import Derived.KernelRfl
namespace Go.Proofs.Qxb6605318a
/- THE CELL 'sum', in the pinned program and in every row, IS THE sha256 OF THE DUMP (.gsa) THAT Qxb6605318aProg.lean LOADS. Nothing in Lean hashes anything: it is a label: what it is worth is what the hold of that sum in a sandbox is worth. -/
noncomputable def Try.pinned : Pinned := { name := "qxb6605318a", sum := "72a1f1a385598f9031f32db03446c91417860dd9258cce353a7dc51c7141094e", checked := Try.checked }
namespace Rows
def none {H : Type} : Left H := { results := [], args := [] }

/-- 'zzlaws_internal_decimal_b1.FnSplitMatchesScanner': WHATEVER THE INPUT: true; the input reads as it did. -/
def fnSplitMatchesScannerSpec : ChangeSpec := { name := "fnSplitMatchesScanner", fn := fun _ => fun
  | [d] => { results := [.lit (.bool true)], args := [d] }
  | _ => none }
def fnSplitMatchesScannerRow : OpenClaim := { program := "qxb6605318a", sum := "72a1f1a385598f9031f32db03446c91417860dd9258cce353a7dc51c7141094e", func := "example.com/vestledger/vestledger/zzlaws_internal_decimal_b1.FnSplitMatchesScanner", spec := "fnSplitMatchesScanner", inPlace := ["internal/bytealg.IndexByteString", "internal/bytealg.IndexString"], named := ["internal/bytealg.MaxLen"], apart := false }
def FnSplitMatchesScannerSaid : Prop := fnSplitMatchesScannerRow.holds Try.pinned (OpenSpec.ofChange fnSplitMatchesScannerSpec)

/-- ITS FALSE NEIGHBOUR: 'it returns false'. Refute it at one input. -/
def fnSplitMatchesScannerWrong : ChangeSpec := { name := "fnSplitMatchesScanner", fn := fun _ => fun
  | [d] => { results := [.lit (.bool false)], args := [d] }
  | _ => none }
def FnSplitMatchesScannerWrongFalsely : Prop := fnSplitMatchesScannerRow.holds Try.pinned (OpenSpec.ofChange fnSplitMatchesScannerWrong)

/-- 'zzlaws_internal_decimal_b1.FnSplitRebuildsItsInput': WHATEVER THE INPUT: true; the input reads as it did. -/
def fnSplitRebuildsItsInputSpec : ChangeSpec := { name := "fnSplitRebuildsItsInput", fn := fun _ => fun
  | [d] => { results := [.lit (.bool true)], args := [d] }
  | _ => none }
def fnSplitRebuildsItsInputRow : OpenClaim := { program := "qxb6605318a", sum := "72a1f1a385598f9031f32db03446c91417860dd9258cce353a7dc51c7141094e", func := "example.com/vestledger/vestledger/zzlaws_internal_decimal_b1.FnSplitRebuildsItsInput", spec := "fnSplitRebuildsItsInput", inPlace := ["internal/bytealg.IndexByteString", "internal/bytealg.IndexString"], named := ["internal/bytealg.MaxLen"], apart := false }
def FnSplitRebuildsItsInputSaid : Prop := fnSplitRebuildsItsInputRow.holds Try.pinned (OpenSpec.ofChange fnSplitRebuildsItsInputSpec)

/-- ITS FALSE NEIGHBOUR: 'it returns false'. Refute it at one input. -/
def fnSplitRebuildsItsInputWrong : ChangeSpec := { name := "fnSplitRebuildsItsInput", fn := fun _ => fun
  | [d] => { results := [.lit (.bool false)], args := [d] }
  | _ => none }
def FnSplitRebuildsItsInputWrongFalsely : Prop := fnSplitRebuildsItsInputRow.holds Try.pinned (OpenSpec.ofChange fnSplitRebuildsItsInputWrong)

/-- 'zzlaws_internal_decimal_b1.FnIsDigitsIsAllAsciiDigitBytes': WHATEVER THE INPUT: true; the input reads as it did. -/
def fnIsDigitsIsAllAsciiDigitBytesSpec : ChangeSpec := { name := "fnIsDigitsIsAllAsciiDigitBytes", fn := fun _ => fun
  | [d] => { results := [.lit (.bool true)], args := [d] }
  | _ => none }
def fnIsDigitsIsAllAsciiDigitBytesRow : OpenClaim := { program := "qxb6605318a", sum := "72a1f1a385598f9031f32db03446c91417860dd9258cce353a7dc51c7141094e", func := "example.com/vestledger/vestledger/zzlaws_internal_decimal_b1.FnIsDigitsIsAllAsciiDigitBytes", spec := "fnIsDigitsIsAllAsciiDigitBytes", apart := false }
def FnIsDigitsIsAllAsciiDigitBytesSaid : Prop := fnIsDigitsIsAllAsciiDigitBytesRow.holds Try.pinned (OpenSpec.ofChange fnIsDigitsIsAllAsciiDigitBytesSpec)

/-- ITS FALSE NEIGHBOUR: 'it returns false'. Refute it at one input. -/
def fnIsDigitsIsAllAsciiDigitBytesWrong : ChangeSpec := { name := "fnIsDigitsIsAllAsciiDigitBytes", fn := fun _ => fun
  | [d] => { results := [.lit (.bool false)], args := [d] }
  | _ => none }
def FnIsDigitsIsAllAsciiDigitBytesWrongFalsely : Prop := fnIsDigitsIsAllAsciiDigitBytesRow.holds Try.pinned (OpenSpec.ofChange fnIsDigitsIsAllAsciiDigitBytesWrong)

/-- 'zzlaws_internal_decimal_b1.FnAppendGroupMatchesGroupingFromTheRight': WHATEVER THE INPUT: true; the input reads as it did. -/
def fnAppendGroupMatchesGroupingFromTheRightSpec : ChangeSpec := { name := "fnAppendGroupMatchesGroupingFromTheRight", fn := fun _ => fun
  | [d1, d2] => { results := [.lit (.bool true)], args := [d1, d2] }
  | _ => none }
def fnAppendGroupMatchesGroupingFromTheRightRow : OpenClaim := { program := "qxb6605318a", sum := "72a1f1a385598f9031f32db03446c91417860dd9258cce353a7dc51c7141094e", func := "example.com/vestledger/vestledger/zzlaws_internal_decimal_b1.FnAppendGroupMatchesGroupingFromTheRight", spec := "fnAppendGroupMatchesGroupingFromTheRight", inPlace := ["internal/bytealg.IndexByteString", "internal/bytealg.IndexString"], named := ["internal/bytealg.MaxLen"], apart := false }
def FnAppendGroupMatchesGroupingFromTheRightSaid : Prop := fnAppendGroupMatchesGroupingFromTheRightRow.holds Try.pinned (OpenSpec.ofChange fnAppendGroupMatchesGroupingFromTheRightSpec)

/-- ITS FALSE NEIGHBOUR: 'it returns false'. Refute it at one input. -/
def fnAppendGroupMatchesGroupingFromTheRightWrong : ChangeSpec := { name := "fnAppendGroupMatchesGroupingFromTheRight", fn := fun _ => fun
  | [d1, d2] => { results := [.lit (.bool false)], args := [d1, d2] }
  | _ => none }
def FnAppendGroupMatchesGroupingFromTheRightWrongFalsely : Prop := fnAppendGroupMatchesGroupingFromTheRightRow.holds Try.pinned (OpenSpec.ofChange fnAppendGroupMatchesGroupingFromTheRightWrong)

/-- 'zzlaws_internal_decimal_b1.FnAppendGroupDropCommasGivesTextBack': WHATEVER THE INPUT: true; the input reads as it did. -/
def fnAppendGroupDropCommasGivesTextBackSpec : ChangeSpec := { name := "fnAppendGroupDropCommasGivesTextBack", fn := fun _ => fun
  | [d1, d2] => { results := [.lit (.bool true)], args := [d1, d2] }
  | _ => none }
def fnAppendGroupDropCommasGivesTextBackRow : OpenClaim := { program := "qxb6605318a", sum := "72a1f1a385598f9031f32db03446c91417860dd9258cce353a7dc51c7141094e", func := "example.com/vestledger/vestledger/zzlaws_internal_decimal_b1.FnAppendGroupDropCommasGivesTextBack", spec := "fnAppendGroupDropCommasGivesTextBack", inPlace := ["internal/bytealg.IndexByteString", "internal/bytealg.IndexString"], named := ["internal/bytealg.MaxLen"], apart := false }
def FnAppendGroupDropCommasGivesTextBackSaid : Prop := fnAppendGroupDropCommasGivesTextBackRow.holds Try.pinned (OpenSpec.ofChange fnAppendGroupDropCommasGivesTextBackSpec)

/-- ITS FALSE NEIGHBOUR: 'it returns false'. Refute it at one input. -/
def fnAppendGroupDropCommasGivesTextBackWrong : ChangeSpec := { name := "fnAppendGroupDropCommasGivesTextBack", fn := fun _ => fun
  | [d1, d2] => { results := [.lit (.bool false)], args := [d1, d2] }
  | _ => none }
def FnAppendGroupDropCommasGivesTextBackWrongFalsely : Prop := fnAppendGroupDropCommasGivesTextBackRow.holds Try.pinned (OpenSpec.ofChange fnAppendGroupDropCommasGivesTextBackWrong)

end Rows
end Go.Proofs.Qxb6605318a
