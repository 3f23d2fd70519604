/-
  No cell of these rows narrows 'for every input' (looked for: loops, veiled, ifaces, maps, wideKeys, modest, calm, conditions, laid).
  DERIVED. THE GIVEN ROWS OF THIS SEAT. 5 by the template 'for every input the law returns true; each argument reads behind the call as it read before'; 0 by the template 'total and deterministic' (their statements: Qxb6601974aTotals.lean).
  GIVEN WITH THE SEED: the statements are not yours to turn. If you find one false, say at which input.
  Laid BY PROGRAM, IN A SANDBOX (cutbox-rows.mjs): the forced cells as the released guide's own fill.sh prints them over the translation 5f22a6444ee166f3… (all of the seat's roots in one cut). By AI agents, Wed Nov 11 2026. No macro, syntax, notation, axiom, sorry.
-/
import Derived.Test.Qxb6601974aChecked
import GoSem.Claim
import GoSem.ClaimJoined
import GoSem.ClaimMapViews
import Derived.JoinedTies
import Derived.KernelRfl
namespace Go.Proofs.Qxb6601974a
/- THE CELL 'sum', in the pinned program and in every row, IS THE sha256 OF THE DUMP (.gsa) THAT Qxb6601974aProg.lean LOADS. Nothing in Lean hashes anything: it is a label: what it is worth is what the hold of that sum in a sandbox is worth. -/
noncomputable def Try.pinned : Pinned := { name := "qxb6601974a", sum := "5f22a6444ee166f3311cf141ddf7cc165c7abee85ad13eb903036518f09cb01c", checked := Try.checked }
namespace Rows
def none {H : Type} : Left H := { results := [], args := [] }

/-- 'zzlaws_internal_redact_b1.FnCoveredMatchesBruteForce': WHATEVER THE INPUT: true; the input reads as it did. -/
def fnCoveredMatchesBruteForceSpec : ChangeSpec := { name := "fnCoveredMatchesBruteForce", fn := fun _ => fun
  | [d1, d2] => { results := [.lit (.bool true)], args := [d1, d2] }
  | _ => none }
def fnCoveredMatchesBruteForceRow : OpenClaim := { program := "qxb6601974a", sum := "5f22a6444ee166f3311cf141ddf7cc165c7abee85ad13eb903036518f09cb01c", func := "example.com/stemhold/stemhold/zzlaws_internal_redact_b1.FnCoveredMatchesBruteForce", spec := "fnCoveredMatchesBruteForce", inPlace := ["internal/bytealg.IndexByteString", "internal/bytealg.IndexString"], named := ["internal/bytealg.MaxLen"], apart := false }
def FnCoveredMatchesBruteForceSaid : Prop := fnCoveredMatchesBruteForceRow.holds Try.pinned (OpenSpec.ofChange fnCoveredMatchesBruteForceSpec)

/-- ITS FALSE NEIGHBOUR: 'it returns false'. Refute it at one input. -/
def fnCoveredMatchesBruteForceWrong : ChangeSpec := { name := "fnCoveredMatchesBruteForce", fn := fun _ => fun
  | [d1, d2] => { results := [.lit (.bool false)], args := [d1, d2] }
  | _ => none }
def FnCoveredMatchesBruteForceWrongFalsely : Prop := fnCoveredMatchesBruteForceRow.holds Try.pinned (OpenSpec.ofChange fnCoveredMatchesBruteForceWrong)

/-- 'zzlaws_internal_redact_b1.FnCoveredMonotoneInValues': WHATEVER THE INPUT: true; the input reads as it did. -/
def fnCoveredMonotoneInValuesSpec : ChangeSpec := { name := "fnCoveredMonotoneInValues", fn := fun _ => fun
  | [d1, d2, d3] => { results := [.lit (.bool true)], args := [d1, d2, d3] }
  | _ => none }
def fnCoveredMonotoneInValuesRow : OpenClaim := { program := "qxb6601974a", sum := "5f22a6444ee166f3311cf141ddf7cc165c7abee85ad13eb903036518f09cb01c", func := "example.com/stemhold/stemhold/zzlaws_internal_redact_b1.FnCoveredMonotoneInValues", spec := "fnCoveredMonotoneInValues", inPlace := ["internal/bytealg.IndexByteString", "internal/bytealg.IndexString"], named := ["internal/bytealg.MaxLen"], apart := false }
def FnCoveredMonotoneInValuesSaid : Prop := fnCoveredMonotoneInValuesRow.holds Try.pinned (OpenSpec.ofChange fnCoveredMonotoneInValuesSpec)

/-- ITS FALSE NEIGHBOUR: 'it returns false'. Refute it at one input. -/
def fnCoveredMonotoneInValuesWrong : ChangeSpec := { name := "fnCoveredMonotoneInValues", fn := fun _ => fun
  | [d1, d2, d3] => { results := [.lit (.bool false)], args := [d1, d2, d3] }
  | _ => none }
def FnCoveredMonotoneInValuesWrongFalsely : Prop := fnCoveredMonotoneInValuesRow.holds Try.pinned (OpenSpec.ofChange fnCoveredMonotoneInValuesWrong)

/-- 'zzlaws_internal_redact_b1.FnHideMatchesModel': WHATEVER THE INPUT: true; the input reads as it did. -/
def fnHideMatchesModelSpec : ChangeSpec := { name := "fnHideMatchesModel", fn := fun _ => fun
  | [d1, d2] => { results := [.lit (.bool true)], args := [d1, d2] }
  | _ => none }
def fnHideMatchesModelRow : OpenClaim := { program := "qxb6601974a", sum := "5f22a6444ee166f3311cf141ddf7cc165c7abee85ad13eb903036518f09cb01c", func := "example.com/stemhold/stemhold/zzlaws_internal_redact_b1.FnHideMatchesModel", spec := "fnHideMatchesModel", inPlace := ["internal/bytealg.IndexByteString", "internal/bytealg.IndexString", "internal/abi.NoEscape"], named := ["internal/bytealg.MaxLen"], apart := false }
def FnHideMatchesModelSaid : Prop := fnHideMatchesModelRow.holds Try.pinned (OpenSpec.ofChange fnHideMatchesModelSpec)

/-- ITS FALSE NEIGHBOUR: 'it returns false'. Refute it at one input. -/
def fnHideMatchesModelWrong : ChangeSpec := { name := "fnHideMatchesModel", fn := fun _ => fun
  | [d1, d2] => { results := [.lit (.bool false)], args := [d1, d2] }
  | _ => none }
def FnHideMatchesModelWrongFalsely : Prop := fnHideMatchesModelRow.holds Try.pinned (OpenSpec.ofChange fnHideMatchesModelWrong)

/-- 'zzlaws_internal_redact_b1.FnHideShowsNoValue': WHATEVER THE INPUT: true; the input reads as it did. -/
def fnHideShowsNoValueSpec : ChangeSpec := { name := "fnHideShowsNoValue", fn := fun _ => fun
  | [d1, d2] => { results := [.lit (.bool true)], args := [d1, d2] }
  | _ => none }
def fnHideShowsNoValueRow : OpenClaim := { program := "qxb6601974a", sum := "5f22a6444ee166f3311cf141ddf7cc165c7abee85ad13eb903036518f09cb01c", func := "example.com/stemhold/stemhold/zzlaws_internal_redact_b1.FnHideShowsNoValue", spec := "fnHideShowsNoValue", inPlace := ["internal/bytealg.IndexByteString", "internal/bytealg.IndexString", "internal/abi.NoEscape"], named := ["internal/bytealg.MaxLen"], apart := false }
def FnHideShowsNoValueSaid : Prop := fnHideShowsNoValueRow.holds Try.pinned (OpenSpec.ofChange fnHideShowsNoValueSpec)

/-- ITS FALSE NEIGHBOUR: 'it returns false'. Refute it at one input. -/
def fnHideShowsNoValueWrong : ChangeSpec := { name := "fnHideShowsNoValue", fn := fun _ => fun
  | [d1, d2] => { results := [.lit (.bool false)], args := [d1, d2] }
  | _ => none }
def FnHideShowsNoValueWrongFalsely : Prop := fnHideShowsNoValueRow.holds Try.pinned (OpenSpec.ofChange fnHideShowsNoValueWrong)

/-- 'zzlaws_internal_redact_b1.FnHideIdempotent': WHATEVER THE INPUT: true; the input reads as it did. -/
def fnHideIdempotentSpec : ChangeSpec := { name := "fnHideIdempotent", fn := fun _ => fun
  | [d1, d2] => { results := [.lit (.bool true)], args := [d1, d2] }
  | _ => none }
def fnHideIdempotentRow : OpenClaim := { program := "qxb6601974a", sum := "5f22a6444ee166f3311cf141ddf7cc165c7abee85ad13eb903036518f09cb01c", func := "example.com/stemhold/stemhold/zzlaws_internal_redact_b1.FnHideIdempotent", spec := "fnHideIdempotent", inPlace := ["internal/bytealg.IndexByteString", "internal/bytealg.IndexString", "internal/abi.NoEscape"], named := ["internal/bytealg.MaxLen"], apart := false }
def FnHideIdempotentSaid : Prop := fnHideIdempotentRow.holds Try.pinned (OpenSpec.ofChange fnHideIdempotentSpec)

/-- ITS FALSE NEIGHBOUR: 'it returns false'. Refute it at one input. -/
def fnHideIdempotentWrong : ChangeSpec := { name := "fnHideIdempotent", fn := fun _ => fun
  | [d1, d2] => { results := [.lit (.bool false)], args := [d1, d2] }
  | _ => none }
def FnHideIdempotentWrongFalsely : Prop := fnHideIdempotentRow.holds Try.pinned (OpenSpec.ofChange fnHideIdempotentWrong)

end Rows
end Go.Proofs.Qxb6601974a
