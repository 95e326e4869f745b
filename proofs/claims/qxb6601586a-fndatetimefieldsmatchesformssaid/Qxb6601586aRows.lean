/-
  No cell of these rows narrows 'for every input' (looked for: loops, veiled, ifaces, maps, wideKeys, modest, calm, conditions, laid).
  DERIVED. THE GIVEN ROWS OF THIS SEAT. 5 by the template 'for every input the law returns true; each argument reads behind the call as it read before'; 0 by the template 'total and deterministic' (their statements: Qxb6601586aTotals.lean).
  GIVEN WITH THE SEED: the statements are not yours to turn. If you find one false, say at which input.
  Laid BY PROGRAM, IN A SANDBOX (cutbox-rows.mjs): the forced cells as the released guide's own fill.sh prints them over the translation 284e5c85f76d1144… (all of the seat's roots in one cut). By AI agents, Wed Nov 11 2026. No macro, syntax, notation, axiom, sorry.
-/
import Derived.Test.Qxb6601586aChecked
import GoSem.Claim
import GoSem.ClaimJoined
import GoSem.ClaimMapViews
import Derived.JoinedTies
import Derived.KernelRfl
namespace Go.Proofs.Qxb6601586a
/- THE CELL 'sum', in the pinned program and in every row, IS THE sha256 OF THE DUMP (.gsa) THAT Qxb6601586aProg.lean LOADS. Nothing in Lean hashes anything: it is a label: what it is worth is what the hold of that sum in a sandbox is worth. -/
noncomputable def Try.pinned : Pinned := { name := "qxb6601586a", sum := "284e5c85f76d11444cd44cfb3e6f37cf87cad795367cc6bd7414fcc943278bb0", checked := Try.checked }
namespace Rows
def none {H : Type} : Left H := { results := [], args := [] }

/-- 'zzlaws_internal_engine_b1.FnNumberPrefixMatchesAutomaton': WHATEVER THE INPUT: true; the input reads as it did. -/
def fnNumberPrefixMatchesAutomatonSpec : ChangeSpec := { name := "fnNumberPrefixMatchesAutomaton", fn := fun _ => fun
  | [d] => { results := [.lit (.bool true)], args := [d] }
  | _ => none }
def fnNumberPrefixMatchesAutomatonRow : OpenClaim := { program := "qxb6601586a", sum := "284e5c85f76d11444cd44cfb3e6f37cf87cad795367cc6bd7414fcc943278bb0", func := "example.com/palimpsest/palimpsest/zzlaws_internal_engine_b1.FnNumberPrefixMatchesAutomaton", spec := "fnNumberPrefixMatchesAutomaton", apart := false }
def FnNumberPrefixMatchesAutomatonSaid : Prop := fnNumberPrefixMatchesAutomatonRow.holds Try.pinned (OpenSpec.ofChange fnNumberPrefixMatchesAutomatonSpec)

/-- ITS FALSE NEIGHBOUR: 'it returns false'. Refute it at one input. -/
def fnNumberPrefixMatchesAutomatonWrong : ChangeSpec := { name := "fnNumberPrefixMatchesAutomaton", fn := fun _ => fun
  | [d] => { results := [.lit (.bool false)], args := [d] }
  | _ => none }
def FnNumberPrefixMatchesAutomatonWrongFalsely : Prop := fnNumberPrefixMatchesAutomatonRow.holds Try.pinned (OpenSpec.ofChange fnNumberPrefixMatchesAutomatonWrong)

/-- 'zzlaws_internal_engine_b1.FnNumberPrefixBoundedAndIdempotent': WHATEVER THE INPUT: true; the input reads as it did. -/
def fnNumberPrefixBoundedAndIdempotentSpec : ChangeSpec := { name := "fnNumberPrefixBoundedAndIdempotent", fn := fun _ => fun
  | [d] => { results := [.lit (.bool true)], args := [d] }
  | _ => none }
def fnNumberPrefixBoundedAndIdempotentRow : OpenClaim := { program := "qxb6601586a", sum := "284e5c85f76d11444cd44cfb3e6f37cf87cad795367cc6bd7414fcc943278bb0", func := "example.com/palimpsest/palimpsest/zzlaws_internal_engine_b1.FnNumberPrefixBoundedAndIdempotent", spec := "fnNumberPrefixBoundedAndIdempotent", apart := false }
def FnNumberPrefixBoundedAndIdempotentSaid : Prop := fnNumberPrefixBoundedAndIdempotentRow.holds Try.pinned (OpenSpec.ofChange fnNumberPrefixBoundedAndIdempotentSpec)

/-- ITS FALSE NEIGHBOUR: 'it returns false'. Refute it at one input. -/
def fnNumberPrefixBoundedAndIdempotentWrong : ChangeSpec := { name := "fnNumberPrefixBoundedAndIdempotent", fn := fun _ => fun
  | [d] => { results := [.lit (.bool false)], args := [d] }
  | _ => none }
def FnNumberPrefixBoundedAndIdempotentWrongFalsely : Prop := fnNumberPrefixBoundedAndIdempotentRow.holds Try.pinned (OpenSpec.ofChange fnNumberPrefixBoundedAndIdempotentWrong)

/-- 'zzlaws_internal_engine_b1.FnNumberPrefixMonotoneUnderExtension': WHATEVER THE INPUT: true; the input reads as it did. -/
def fnNumberPrefixMonotoneUnderExtensionSpec : ChangeSpec := { name := "fnNumberPrefixMonotoneUnderExtension", fn := fun _ => fun
  | [d1, d2] => { results := [.lit (.bool true)], args := [d1, d2] }
  | _ => none }
def fnNumberPrefixMonotoneUnderExtensionRow : OpenClaim := { program := "qxb6601586a", sum := "284e5c85f76d11444cd44cfb3e6f37cf87cad795367cc6bd7414fcc943278bb0", func := "example.com/palimpsest/palimpsest/zzlaws_internal_engine_b1.FnNumberPrefixMonotoneUnderExtension", spec := "fnNumberPrefixMonotoneUnderExtension", apart := false }
def FnNumberPrefixMonotoneUnderExtensionSaid : Prop := fnNumberPrefixMonotoneUnderExtensionRow.holds Try.pinned (OpenSpec.ofChange fnNumberPrefixMonotoneUnderExtensionSpec)

/-- ITS FALSE NEIGHBOUR: 'it returns false'. Refute it at one input. -/
def fnNumberPrefixMonotoneUnderExtensionWrong : ChangeSpec := { name := "fnNumberPrefixMonotoneUnderExtension", fn := fun _ => fun
  | [d1, d2] => { results := [.lit (.bool false)], args := [d1, d2] }
  | _ => none }
def FnNumberPrefixMonotoneUnderExtensionWrongFalsely : Prop := fnNumberPrefixMonotoneUnderExtensionRow.holds Try.pinned (OpenSpec.ofChange fnNumberPrefixMonotoneUnderExtensionWrong)

/-- 'zzlaws_internal_engine_b1.FnDateTimeFieldsMatchesForms': WHATEVER THE INPUT: true; the input reads as it did. -/
def fnDateTimeFieldsMatchesFormsSpec : ChangeSpec := { name := "fnDateTimeFieldsMatchesForms", fn := fun _ => fun
  | [d] => { results := [.lit (.bool true)], args := [d] }
  | _ => none }
def fnDateTimeFieldsMatchesFormsRow : OpenClaim := { program := "qxb6601586a", sum := "284e5c85f76d11444cd44cfb3e6f37cf87cad795367cc6bd7414fcc943278bb0", func := "example.com/palimpsest/palimpsest/zzlaws_internal_engine_b1.FnDateTimeFieldsMatchesForms", spec := "fnDateTimeFieldsMatchesForms", apart := false }
def FnDateTimeFieldsMatchesFormsSaid : Prop := fnDateTimeFieldsMatchesFormsRow.holds Try.pinned (OpenSpec.ofChange fnDateTimeFieldsMatchesFormsSpec)

/-- ITS FALSE NEIGHBOUR: 'it returns false'. Refute it at one input. -/
def fnDateTimeFieldsMatchesFormsWrong : ChangeSpec := { name := "fnDateTimeFieldsMatchesForms", fn := fun _ => fun
  | [d] => { results := [.lit (.bool false)], args := [d] }
  | _ => none }
def FnDateTimeFieldsMatchesFormsWrongFalsely : Prop := fnDateTimeFieldsMatchesFormsRow.holds Try.pinned (OpenSpec.ofChange fnDateTimeFieldsMatchesFormsWrong)

/-- 'zzlaws_internal_engine_b1.FnDateTimeFieldsRoundTrip': WHATEVER THE INPUT: true; the input reads as it did. -/
def fnDateTimeFieldsRoundTripSpec : ChangeSpec := { name := "fnDateTimeFieldsRoundTrip", fn := fun _ => fun
  | [d1, d2, d3, d4, d5, d6, d7, d8, d9] => { results := [.lit (.bool true)], args := [d1, d2, d3, d4, d5, d6, d7, d8, d9] }
  | _ => none }
def fnDateTimeFieldsRoundTripRow : OpenClaim := { program := "qxb6601586a", sum := "284e5c85f76d11444cd44cfb3e6f37cf87cad795367cc6bd7414fcc943278bb0", func := "example.com/palimpsest/palimpsest/zzlaws_internal_engine_b1.FnDateTimeFieldsRoundTrip", spec := "fnDateTimeFieldsRoundTrip", apart := false }
def FnDateTimeFieldsRoundTripSaid : Prop := fnDateTimeFieldsRoundTripRow.holds Try.pinned (OpenSpec.ofChange fnDateTimeFieldsRoundTripSpec)

/-- ITS FALSE NEIGHBOUR: 'it returns false'. Refute it at one input. -/
def fnDateTimeFieldsRoundTripWrong : ChangeSpec := { name := "fnDateTimeFieldsRoundTrip", fn := fun _ => fun
  | [d1, d2, d3, d4, d5, d6, d7, d8, d9] => { results := [.lit (.bool false)], args := [d1, d2, d3, d4, d5, d6, d7, d8, d9] }
  | _ => none }
def FnDateTimeFieldsRoundTripWrongFalsely : Prop := fnDateTimeFieldsRoundTripRow.holds Try.pinned (OpenSpec.ofChange fnDateTimeFieldsRoundTripWrong)

end Rows
end Go.Proofs.Qxb6601586a
