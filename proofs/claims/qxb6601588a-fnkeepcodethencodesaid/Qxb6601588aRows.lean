/-
  No cell of these rows narrows 'for every input' (looked for: loops, veiled, ifaces, maps, wideKeys, modest, calm, conditions, laid).
  DERIVED. THE GIVEN ROWS OF THIS SEAT. 4 by the template 'for every input the law returns true; each argument reads behind the call as it read before'; 0 by the template 'total and deterministic' (their statements: Qxb6601588aTotals.lean).
  GIVEN WITH THE SEED: the statements are not yours to turn. If you find one false, say at which input.
  Laid BY PROGRAM, IN A SANDBOX (cutbox-rows.mjs): the forced cells as the released guide's own fill.sh prints them over the translation fde0f3b3fc08eb35… (all of the seat's roots in one cut). By AI agents, Wed Nov 11 2026. No macro, syntax, notation, axiom, sorry.
-/
import Derived.Test.Qxb6601588aChecked
import GoSem.Claim
import GoSem.ClaimJoined
import GoSem.ClaimMapViews
import Derived.JoinedTies
import Derived.KernelRfl
namespace Go.Proofs.Qxb6601588a
/- THE CELL 'sum', in the pinned program and in every row, IS THE sha256 OF THE DUMP (.gsa) THAT Qxb6601588aProg.lean LOADS. Nothing in Lean hashes anything: it is a label: what it is worth is what the hold of that sum in a sandbox is worth. -/
noncomputable def Try.pinned : Pinned := { name := "qxb6601588a", sum := "fde0f3b3fc08eb35c66669d1d5e04f40aee8752b0f8430f4efec4f6559b059ef", checked := Try.checked }
namespace Rows
def none {H : Type} : Left H := { results := [], args := [] }

/-- 'zzlaws_root_b1.FnColumnCodeDenseSparseAgree': WHATEVER THE INPUT: true; the input reads as it did. -/
def fnColumnCodeDenseSparseAgreeSpec : ChangeSpec := { name := "fnColumnCodeDenseSparseAgree", fn := fun _ => fun
  | [d1, d2] => { results := [.lit (.bool true)], args := [d1, d2] }
  | _ => none }
def fnColumnCodeDenseSparseAgreeRow : OpenClaim := { program := "qxb6601588a", sum := "fde0f3b3fc08eb35c66669d1d5e04f40aee8752b0f8430f4efec4f6559b059ef", func := "example.com/rankd/rankd/zzlaws_root_b1.FnColumnCodeDenseSparseAgree", spec := "fnColumnCodeDenseSparseAgree", apart := false }
def FnColumnCodeDenseSparseAgreeSaid : Prop := fnColumnCodeDenseSparseAgreeRow.holds Try.pinned (OpenSpec.ofChange fnColumnCodeDenseSparseAgreeSpec)

/-- ITS FALSE NEIGHBOUR: 'it returns false'. Refute it at one input. -/
def fnColumnCodeDenseSparseAgreeWrong : ChangeSpec := { name := "fnColumnCodeDenseSparseAgree", fn := fun _ => fun
  | [d1, d2] => { results := [.lit (.bool false)], args := [d1, d2] }
  | _ => none }
def FnColumnCodeDenseSparseAgreeWrongFalsely : Prop := fnColumnCodeDenseSparseAgreeRow.holds Try.pinned (OpenSpec.ofChange fnColumnCodeDenseSparseAgreeWrong)

/-- 'zzlaws_root_b1.FnKeepCodeThenCode': WHATEVER THE INPUT: true; the input reads as it did. -/
def fnKeepCodeThenCodeSpec : ChangeSpec := { name := "fnKeepCodeThenCode", fn := fun _ => fun
  | [d1, d2, d3, d4, d5, d6, d7, d8, d9, d10, d11] => { results := [.lit (.bool true)], args := [d1, d2, d3, d4, d5, d6, d7, d8, d9, d10, d11] }
  | _ => none }
def fnKeepCodeThenCodeRow : OpenClaim := { program := "qxb6601588a", sum := "fde0f3b3fc08eb35c66669d1d5e04f40aee8752b0f8430f4efec4f6559b059ef", func := "example.com/rankd/rankd/zzlaws_root_b1.FnKeepCodeThenCode", spec := "fnKeepCodeThenCode", apart := false }
def FnKeepCodeThenCodeSaid : Prop := fnKeepCodeThenCodeRow.holds Try.pinned (OpenSpec.ofChange fnKeepCodeThenCodeSpec)

/-- ITS FALSE NEIGHBOUR: 'it returns false'. Refute it at one input. -/
def fnKeepCodeThenCodeWrong : ChangeSpec := { name := "fnKeepCodeThenCode", fn := fun _ => fun
  | [d1, d2, d3, d4, d5, d6, d7, d8, d9, d10, d11] => { results := [.lit (.bool false)], args := [d1, d2, d3, d4, d5, d6, d7, d8, d9, d10, d11] }
  | _ => none }
def FnKeepCodeThenCodeWrongFalsely : Prop := fnKeepCodeThenCodeRow.holds Try.pinned (OpenSpec.ofChange fnKeepCodeThenCodeWrong)

/-- 'zzlaws_root_b1.FnBucketEndSpec': WHATEVER THE INPUT: true; the input reads as it did. -/
def fnBucketEndSpecSpec : ChangeSpec := { name := "fnBucketEndSpec", fn := fun _ => fun
  | [d1, d2, d3, d4, d5] => { results := [.lit (.bool true)], args := [d1, d2, d3, d4, d5] }
  | _ => none }
def fnBucketEndSpecRow : OpenClaim := { program := "qxb6601588a", sum := "fde0f3b3fc08eb35c66669d1d5e04f40aee8752b0f8430f4efec4f6559b059ef", func := "example.com/rankd/rankd/zzlaws_root_b1.FnBucketEndSpec", spec := "fnBucketEndSpec", apart := false }
def FnBucketEndSpecSaid : Prop := fnBucketEndSpecRow.holds Try.pinned (OpenSpec.ofChange fnBucketEndSpecSpec)

/-- ITS FALSE NEIGHBOUR: 'it returns false'. Refute it at one input. -/
def fnBucketEndSpecWrong : ChangeSpec := { name := "fnBucketEndSpec", fn := fun _ => fun
  | [d1, d2, d3, d4, d5] => { results := [.lit (.bool false)], args := [d1, d2, d3, d4, d5] }
  | _ => none }
def FnBucketEndSpecWrongFalsely : Prop := fnBucketEndSpecRow.holds Try.pinned (OpenSpec.ofChange fnBucketEndSpecWrong)

/-- 'zzlaws_root_b1.FnBucketEndLayout': WHATEVER THE INPUT: true; the input reads as it did. -/
def fnBucketEndLayoutSpec : ChangeSpec := { name := "fnBucketEndLayout", fn := fun _ => fun
  | [d1, d2] => { results := [.lit (.bool true)], args := [d1, d2] }
  | _ => none }
def fnBucketEndLayoutRow : OpenClaim := { program := "qxb6601588a", sum := "fde0f3b3fc08eb35c66669d1d5e04f40aee8752b0f8430f4efec4f6559b059ef", func := "example.com/rankd/rankd/zzlaws_root_b1.FnBucketEndLayout", spec := "fnBucketEndLayout", apart := false }
def FnBucketEndLayoutSaid : Prop := fnBucketEndLayoutRow.holds Try.pinned (OpenSpec.ofChange fnBucketEndLayoutSpec)

/-- ITS FALSE NEIGHBOUR: 'it returns false'. Refute it at one input. -/
def fnBucketEndLayoutWrong : ChangeSpec := { name := "fnBucketEndLayout", fn := fun _ => fun
  | [d1, d2] => { results := [.lit (.bool false)], args := [d1, d2] }
  | _ => none }
def FnBucketEndLayoutWrongFalsely : Prop := fnBucketEndLayoutRow.holds Try.pinned (OpenSpec.ofChange fnBucketEndLayoutWrong)

end Rows
end Go.Proofs.Qxb6601588a
