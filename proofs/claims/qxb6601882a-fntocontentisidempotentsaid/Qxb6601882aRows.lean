/-
  No cell of these rows narrows 'for every input' (looked for: loops, veiled, ifaces, maps, wideKeys, modest, calm, conditions, laid).
  DERIVED. THE GIVEN ROWS OF THIS SEAT. 6 by the template 'for every input the law returns true; each argument reads behind the call as it read before'; 0 by the template 'total and deterministic' (their statements: Qxb6601882aTotals.lean).
  GIVEN WITH THE SEED: the statements are not yours to turn. If you find one false, say at which input.
  Laid BY PROGRAM, IN A SANDBOX (cutbox-rows.mjs): the forced cells as the released guide's own fill.sh prints them over the translation b933e6954e4f34b2… (all of the seat's roots in one cut). By AI agents, Wed Nov 11 2026. No macro, syntax, notation, axiom, sorry.
-/
import Derived.Test.Qxb6601882aChecked
import GoSem.Claim
import GoSem.ClaimJoined
import GoSem.ClaimMapViews
import Derived.JoinedTies
import Derived.KernelRfl
namespace Go.Proofs.Qxb6601882a
/- THE CELL 'sum', in the pinned program and in every row, IS THE sha256 OF THE DUMP (.gsa) THAT Qxb6601882aProg.lean LOADS. Nothing in Lean hashes anything: it is a label: what it is worth is what the hold of that sum in a sandbox is worth. -/
noncomputable def Try.pinned : Pinned := { name := "qxb6601882a", sum := "b933e6954e4f34b22ace5cda6cf29719f832d78a20ce2a09d80d2fde9d00afbb", checked := Try.checked }
namespace Rows
def none {H : Type} : Left H := { results := [], args := [] }

/-- 'zzlaws_pkg_yaml12_b1.FnToContentMatchesOnePassScan': WHATEVER THE INPUT: true; the input reads as it did. -/
def fnToContentMatchesOnePassScanSpec : ChangeSpec := { name := "fnToContentMatchesOnePassScan", fn := fun _ => fun
  | [d1, d2, d3, d4] => { results := [.lit (.bool true)], args := [d1, d2, d3, d4] }
  | _ => none }
def fnToContentMatchesOnePassScanRow : OpenClaim := { program := "qxb6601882a", sum := "b933e6954e4f34b22ace5cda6cf29719f832d78a20ce2a09d80d2fde9d00afbb", func := "example.com/vestledger/vestledger/zzlaws_pkg_yaml12_b1.FnToContentMatchesOnePassScan", spec := "fnToContentMatchesOnePassScan", apart := false }
def FnToContentMatchesOnePassScanSaid : Prop := fnToContentMatchesOnePassScanRow.holds Try.pinned (OpenSpec.ofChange fnToContentMatchesOnePassScanSpec)

/-- ITS FALSE NEIGHBOUR: 'it returns false'. Refute it at one input. -/
def fnToContentMatchesOnePassScanWrong : ChangeSpec := { name := "fnToContentMatchesOnePassScan", fn := fun _ => fun
  | [d1, d2, d3, d4] => { results := [.lit (.bool false)], args := [d1, d2, d3, d4] }
  | _ => none }
def FnToContentMatchesOnePassScanWrongFalsely : Prop := fnToContentMatchesOnePassScanRow.holds Try.pinned (OpenSpec.ofChange fnToContentMatchesOnePassScanWrong)

/-- 'zzlaws_pkg_yaml12_b1.FnToContentIsIdempotent': WHATEVER THE INPUT: true; the input reads as it did. -/
def fnToContentIsIdempotentSpec : ChangeSpec := { name := "fnToContentIsIdempotent", fn := fun _ => fun
  | [d1, d2, d3, d4] => { results := [.lit (.bool true)], args := [d1, d2, d3, d4] }
  | _ => none }
def fnToContentIsIdempotentRow : OpenClaim := { program := "qxb6601882a", sum := "b933e6954e4f34b22ace5cda6cf29719f832d78a20ce2a09d80d2fde9d00afbb", func := "example.com/vestledger/vestledger/zzlaws_pkg_yaml12_b1.FnToContentIsIdempotent", spec := "fnToContentIsIdempotent", apart := false }
def FnToContentIsIdempotentSaid : Prop := fnToContentIsIdempotentRow.holds Try.pinned (OpenSpec.ofChange fnToContentIsIdempotentSpec)

/-- ITS FALSE NEIGHBOUR: 'it returns false'. Refute it at one input. -/
def fnToContentIsIdempotentWrong : ChangeSpec := { name := "fnToContentIsIdempotent", fn := fun _ => fun
  | [d1, d2, d3, d4] => { results := [.lit (.bool false)], args := [d1, d2, d3, d4] }
  | _ => none }
def FnToContentIsIdempotentWrongFalsely : Prop := fnToContentIsIdempotentRow.holds Try.pinned (OpenSpec.ofChange fnToContentIsIdempotentWrong)

/-- 'zzlaws_pkg_yaml12_b1.FnTagHandleIsLongestHandlePrefix': WHATEVER THE INPUT: true; the input reads as it did. -/
def fnTagHandleIsLongestHandlePrefixSpec : ChangeSpec := { name := "fnTagHandleIsLongestHandlePrefix", fn := fun _ => fun
  | [d1, d2] => { results := [.lit (.bool true)], args := [d1, d2] }
  | _ => none }
def fnTagHandleIsLongestHandlePrefixRow : OpenClaim := { program := "qxb6601882a", sum := "b933e6954e4f34b22ace5cda6cf29719f832d78a20ce2a09d80d2fde9d00afbb", func := "example.com/vestledger/vestledger/zzlaws_pkg_yaml12_b1.FnTagHandleIsLongestHandlePrefix", spec := "fnTagHandleIsLongestHandlePrefix", apart := false }
def FnTagHandleIsLongestHandlePrefixSaid : Prop := fnTagHandleIsLongestHandlePrefixRow.holds Try.pinned (OpenSpec.ofChange fnTagHandleIsLongestHandlePrefixSpec)

/-- ITS FALSE NEIGHBOUR: 'it returns false'. Refute it at one input. -/
def fnTagHandleIsLongestHandlePrefixWrong : ChangeSpec := { name := "fnTagHandleIsLongestHandlePrefix", fn := fun _ => fun
  | [d1, d2] => { results := [.lit (.bool false)], args := [d1, d2] }
  | _ => none }
def FnTagHandleIsLongestHandlePrefixWrongFalsely : Prop := fnTagHandleIsLongestHandlePrefixRow.holds Try.pinned (OpenSpec.ofChange fnTagHandleIsLongestHandlePrefixWrong)

/-- 'zzlaws_pkg_yaml12_b1.FnTagHandleHangsOnRestAndRereadsWhole': WHATEVER THE INPUT: true; the input reads as it did. -/
def fnTagHandleHangsOnRestAndRereadsWholeSpec : ChangeSpec := { name := "fnTagHandleHangsOnRestAndRereadsWhole", fn := fun _ => fun
  | [d1, d2] => { results := [.lit (.bool true)], args := [d1, d2] }
  | _ => none }
def fnTagHandleHangsOnRestAndRereadsWholeRow : OpenClaim := { program := "qxb6601882a", sum := "b933e6954e4f34b22ace5cda6cf29719f832d78a20ce2a09d80d2fde9d00afbb", func := "example.com/vestledger/vestledger/zzlaws_pkg_yaml12_b1.FnTagHandleHangsOnRestAndRereadsWhole", spec := "fnTagHandleHangsOnRestAndRereadsWhole", apart := false }
def FnTagHandleHangsOnRestAndRereadsWholeSaid : Prop := fnTagHandleHangsOnRestAndRereadsWholeRow.holds Try.pinned (OpenSpec.ofChange fnTagHandleHangsOnRestAndRereadsWholeSpec)

/-- ITS FALSE NEIGHBOUR: 'it returns false'. Refute it at one input. -/
def fnTagHandleHangsOnRestAndRereadsWholeWrong : ChangeSpec := { name := "fnTagHandleHangsOnRestAndRereadsWhole", fn := fun _ => fun
  | [d1, d2] => { results := [.lit (.bool false)], args := [d1, d2] }
  | _ => none }
def FnTagHandleHangsOnRestAndRereadsWholeWrongFalsely : Prop := fnTagHandleHangsOnRestAndRereadsWholeRow.holds Try.pinned (OpenSpec.ofChange fnTagHandleHangsOnRestAndRereadsWholeWrong)

/-- 'zzlaws_pkg_yaml12_b1.FnFoldedLinesIsTheBlankRunFromPos': WHATEVER THE INPUT: true; the input reads as it did. -/
def fnFoldedLinesIsTheBlankRunFromPosSpec : ChangeSpec := { name := "fnFoldedLinesIsTheBlankRunFromPos", fn := fun _ => fun
  | [d1, d2, d3, d4] => { results := [.lit (.bool true)], args := [d1, d2, d3, d4] }
  | _ => none }
def fnFoldedLinesIsTheBlankRunFromPosRow : OpenClaim := { program := "qxb6601882a", sum := "b933e6954e4f34b22ace5cda6cf29719f832d78a20ce2a09d80d2fde9d00afbb", func := "example.com/vestledger/vestledger/zzlaws_pkg_yaml12_b1.FnFoldedLinesIsTheBlankRunFromPos", spec := "fnFoldedLinesIsTheBlankRunFromPos", apart := false }
def FnFoldedLinesIsTheBlankRunFromPosSaid : Prop := fnFoldedLinesIsTheBlankRunFromPosRow.holds Try.pinned (OpenSpec.ofChange fnFoldedLinesIsTheBlankRunFromPosSpec)

/-- ITS FALSE NEIGHBOUR: 'it returns false'. Refute it at one input. -/
def fnFoldedLinesIsTheBlankRunFromPosWrong : ChangeSpec := { name := "fnFoldedLinesIsTheBlankRunFromPos", fn := fun _ => fun
  | [d1, d2, d3, d4] => { results := [.lit (.bool false)], args := [d1, d2, d3, d4] }
  | _ => none }
def FnFoldedLinesIsTheBlankRunFromPosWrongFalsely : Prop := fnFoldedLinesIsTheBlankRunFromPosRow.holds Try.pinned (OpenSpec.ofChange fnFoldedLinesIsTheBlankRunFromPosWrong)

/-- 'zzlaws_pkg_yaml12_b1.FnFoldedLinesIsIdempotent': WHATEVER THE INPUT: true; the input reads as it did. -/
def fnFoldedLinesIsIdempotentSpec : ChangeSpec := { name := "fnFoldedLinesIsIdempotent", fn := fun _ => fun
  | [d1, d2, d3, d4] => { results := [.lit (.bool true)], args := [d1, d2, d3, d4] }
  | _ => none }
def fnFoldedLinesIsIdempotentRow : OpenClaim := { program := "qxb6601882a", sum := "b933e6954e4f34b22ace5cda6cf29719f832d78a20ce2a09d80d2fde9d00afbb", func := "example.com/vestledger/vestledger/zzlaws_pkg_yaml12_b1.FnFoldedLinesIsIdempotent", spec := "fnFoldedLinesIsIdempotent", apart := false }
def FnFoldedLinesIsIdempotentSaid : Prop := fnFoldedLinesIsIdempotentRow.holds Try.pinned (OpenSpec.ofChange fnFoldedLinesIsIdempotentSpec)

/-- ITS FALSE NEIGHBOUR: 'it returns false'. Refute it at one input. -/
def fnFoldedLinesIsIdempotentWrong : ChangeSpec := { name := "fnFoldedLinesIsIdempotent", fn := fun _ => fun
  | [d1, d2, d3, d4] => { results := [.lit (.bool false)], args := [d1, d2, d3, d4] }
  | _ => none }
def FnFoldedLinesIsIdempotentWrongFalsely : Prop := fnFoldedLinesIsIdempotentRow.holds Try.pinned (OpenSpec.ofChange fnFoldedLinesIsIdempotentWrong)

end Rows
end Go.Proofs.Qxb6601882a
