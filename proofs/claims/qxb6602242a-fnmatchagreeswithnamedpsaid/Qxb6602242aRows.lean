/-
  No cell of these rows narrows 'for every input' (looked for: loops, veiled, ifaces, maps, wideKeys, modest, calm, conditions, laid).
  DERIVED. THE GIVEN ROWS OF THIS SEAT. 5 by the template 'for every input the law returns true; each argument reads behind the call as it read before'; 0 by the template 'total and deterministic' (their statements: Qxb6602242aTotals.lean).
  GIVEN WITH THE SEED: the statements are not yours to turn. If you find one false, say at which input.
  Laid BY PROGRAM, IN A SANDBOX (cutbox-rows.mjs): the forced cells as the released guide's own fill.sh prints them over the translation 8c107935a5c97f61… (all of the seat's roots in one cut). By AI agents, Wed Nov 11 2026. No macro, syntax, notation, axiom, sorry.
-/
import Derived.Test.Qxb6602242aChecked
import GoSem.Claim
import GoSem.ClaimJoined
import GoSem.ClaimMapViews
import Derived.JoinedTies
import Derived.KernelRfl
namespace Go.Proofs.Qxb6602242a
/- THE CELL 'sum', in the pinned program and in every row, IS THE sha256 OF THE DUMP (.gsa) THAT Qxb6602242aProg.lean LOADS. Nothing in Lean hashes anything: it is a label: what it is worth is what the hold of that sum in a sandbox is worth. -/
noncomputable def Try.pinned : Pinned := { name := "qxb6602242a", sum := "8c107935a5c97f617885fdfa780450a1d28c7fd92956f1c3d6062e04cb71dfdc", checked := Try.checked }
namespace Rows
def none {H : Type} : Left H := { results := [], args := [] }

/-- 'zzlaws_internal_pattern_b1.FnMatchAgreesWithNameDP': WHATEVER THE INPUT: true; the input reads as it did. -/
def fnMatchAgreesWithNameDPSpec : ChangeSpec := { name := "fnMatchAgreesWithNameDP", fn := fun _ => fun
  | [d1, d2, d3, d4] => { results := [.lit (.bool true)], args := [d1, d2, d3, d4] }
  | _ => none }
def fnMatchAgreesWithNameDPRow : OpenClaim := { program := "qxb6602242a", sum := "8c107935a5c97f617885fdfa780450a1d28c7fd92956f1c3d6062e04cb71dfdc", func := "example.com/uphold/uphold/zzlaws_internal_pattern_b1.FnMatchAgreesWithNameDP", spec := "fnMatchAgreesWithNameDP", inPlace := ["internal/bytealg.IndexByteString", "internal/bytealg.IndexString"], named := ["internal/bytealg.MaxLen"], apart := false }
def FnMatchAgreesWithNameDPSaid : Prop := fnMatchAgreesWithNameDPRow.holds Try.pinned (OpenSpec.ofChange fnMatchAgreesWithNameDPSpec)

/-- ITS FALSE NEIGHBOUR: 'it returns false'. Refute it at one input. -/
def fnMatchAgreesWithNameDPWrong : ChangeSpec := { name := "fnMatchAgreesWithNameDP", fn := fun _ => fun
  | [d1, d2, d3, d4] => { results := [.lit (.bool false)], args := [d1, d2, d3, d4] }
  | _ => none }
def FnMatchAgreesWithNameDPWrongFalsely : Prop := fnMatchAgreesWithNameDPRow.holds Try.pinned (OpenSpec.ofChange fnMatchAgreesWithNameDPWrong)

/-- 'zzlaws_internal_pattern_b1.FnMatchAdjacentDeepCollapse': WHATEVER THE INPUT: true; the input reads as it did. -/
def fnMatchAdjacentDeepCollapseSpec : ChangeSpec := { name := "fnMatchAdjacentDeepCollapse", fn := fun _ => fun
  | [d1, d2, d3, d4] => { results := [.lit (.bool true)], args := [d1, d2, d3, d4] }
  | _ => none }
def fnMatchAdjacentDeepCollapseRow : OpenClaim := { program := "qxb6602242a", sum := "8c107935a5c97f617885fdfa780450a1d28c7fd92956f1c3d6062e04cb71dfdc", func := "example.com/uphold/uphold/zzlaws_internal_pattern_b1.FnMatchAdjacentDeepCollapse", spec := "fnMatchAdjacentDeepCollapse", inPlace := ["internal/bytealg.IndexByteString", "internal/bytealg.IndexString"], named := ["internal/bytealg.MaxLen"], apart := false }
def FnMatchAdjacentDeepCollapseSaid : Prop := fnMatchAdjacentDeepCollapseRow.holds Try.pinned (OpenSpec.ofChange fnMatchAdjacentDeepCollapseSpec)

/-- ITS FALSE NEIGHBOUR: 'it returns false'. Refute it at one input. -/
def fnMatchAdjacentDeepCollapseWrong : ChangeSpec := { name := "fnMatchAdjacentDeepCollapse", fn := fun _ => fun
  | [d1, d2, d3, d4] => { results := [.lit (.bool false)], args := [d1, d2, d3, d4] }
  | _ => none }
def FnMatchAdjacentDeepCollapseWrongFalsely : Prop := fnMatchAdjacentDeepCollapseRow.holds Try.pinned (OpenSpec.ofChange fnMatchAdjacentDeepCollapseWrong)

/-- 'zzlaws_internal_pattern_b1.FnMatchStarsAgreesWithGlobDP': WHATEVER THE INPUT: true; the input reads as it did. -/
def fnMatchStarsAgreesWithGlobDPSpec : ChangeSpec := { name := "fnMatchStarsAgreesWithGlobDP", fn := fun _ => fun
  | [d1, d2, d3] => { results := [.lit (.bool true)], args := [d1, d2, d3] }
  | _ => none }
def fnMatchStarsAgreesWithGlobDPRow : OpenClaim := { program := "qxb6602242a", sum := "8c107935a5c97f617885fdfa780450a1d28c7fd92956f1c3d6062e04cb71dfdc", func := "example.com/uphold/uphold/zzlaws_internal_pattern_b1.FnMatchStarsAgreesWithGlobDP", spec := "fnMatchStarsAgreesWithGlobDP", inPlace := ["internal/bytealg.IndexByteString", "internal/bytealg.IndexString"], named := ["internal/bytealg.MaxLen"], apart := false }
def FnMatchStarsAgreesWithGlobDPSaid : Prop := fnMatchStarsAgreesWithGlobDPRow.holds Try.pinned (OpenSpec.ofChange fnMatchStarsAgreesWithGlobDPSpec)

/-- ITS FALSE NEIGHBOUR: 'it returns false'. Refute it at one input. -/
def fnMatchStarsAgreesWithGlobDPWrong : ChangeSpec := { name := "fnMatchStarsAgreesWithGlobDP", fn := fun _ => fun
  | [d1, d2, d3] => { results := [.lit (.bool false)], args := [d1, d2, d3] }
  | _ => none }
def FnMatchStarsAgreesWithGlobDPWrongFalsely : Prop := fnMatchStarsAgreesWithGlobDPRow.holds Try.pinned (OpenSpec.ofChange fnMatchStarsAgreesWithGlobDPWrong)

/-- 'zzlaws_internal_pattern_b1.FnMatchStarsWidensWhenAPartSplits': WHATEVER THE INPUT: true; the input reads as it did. -/
def fnMatchStarsWidensWhenAPartSplitsSpec : ChangeSpec := { name := "fnMatchStarsWidensWhenAPartSplits", fn := fun _ => fun
  | [d1, d2, d3, d4, d5] => { results := [.lit (.bool true)], args := [d1, d2, d3, d4, d5] }
  | _ => none }
def fnMatchStarsWidensWhenAPartSplitsRow : OpenClaim := { program := "qxb6602242a", sum := "8c107935a5c97f617885fdfa780450a1d28c7fd92956f1c3d6062e04cb71dfdc", func := "example.com/uphold/uphold/zzlaws_internal_pattern_b1.FnMatchStarsWidensWhenAPartSplits", spec := "fnMatchStarsWidensWhenAPartSplits", inPlace := ["internal/bytealg.IndexByteString", "internal/bytealg.IndexString"], named := ["internal/bytealg.MaxLen"], apart := false }
def FnMatchStarsWidensWhenAPartSplitsSaid : Prop := fnMatchStarsWidensWhenAPartSplitsRow.holds Try.pinned (OpenSpec.ofChange fnMatchStarsWidensWhenAPartSplitsSpec)

/-- ITS FALSE NEIGHBOUR: 'it returns false'. Refute it at one input. -/
def fnMatchStarsWidensWhenAPartSplitsWrong : ChangeSpec := { name := "fnMatchStarsWidensWhenAPartSplits", fn := fun _ => fun
  | [d1, d2, d3, d4, d5] => { results := [.lit (.bool false)], args := [d1, d2, d3, d4, d5] }
  | _ => none }
def FnMatchStarsWidensWhenAPartSplitsWrongFalsely : Prop := fnMatchStarsWidensWhenAPartSplitsRow.holds Try.pinned (OpenSpec.ofChange fnMatchStarsWidensWhenAPartSplitsWrong)

/-- 'zzlaws_internal_pattern_b1.FnMatchAtAgreesWithNameModel': WHATEVER THE INPUT: true; the input reads as it did. -/
def fnMatchAtAgreesWithNameModelSpec : ChangeSpec := { name := "fnMatchAtAgreesWithNameModel", fn := fun _ => fun
  | [d1, d2, d3, d4] => { results := [.lit (.bool true)], args := [d1, d2, d3, d4] }
  | _ => none }
def fnMatchAtAgreesWithNameModelRow : OpenClaim := { program := "qxb6602242a", sum := "8c107935a5c97f617885fdfa780450a1d28c7fd92956f1c3d6062e04cb71dfdc", func := "example.com/uphold/uphold/zzlaws_internal_pattern_b1.FnMatchAtAgreesWithNameModel", spec := "fnMatchAtAgreesWithNameModel", inPlace := ["internal/bytealg.IndexByteString", "internal/bytealg.IndexString"], named := ["internal/bytealg.MaxLen"], apart := false }
def FnMatchAtAgreesWithNameModelSaid : Prop := fnMatchAtAgreesWithNameModelRow.holds Try.pinned (OpenSpec.ofChange fnMatchAtAgreesWithNameModelSpec)

/-- ITS FALSE NEIGHBOUR: 'it returns false'. Refute it at one input. -/
def fnMatchAtAgreesWithNameModelWrong : ChangeSpec := { name := "fnMatchAtAgreesWithNameModel", fn := fun _ => fun
  | [d1, d2, d3, d4] => { results := [.lit (.bool false)], args := [d1, d2, d3, d4] }
  | _ => none }
def FnMatchAtAgreesWithNameModelWrongFalsely : Prop := fnMatchAtAgreesWithNameModelRow.holds Try.pinned (OpenSpec.ofChange fnMatchAtAgreesWithNameModelWrong)

end Rows
end Go.Proofs.Qxb6602242a
