/-
  No cell of these rows narrows 'for every input' (looked for: loops, veiled, ifaces, maps, wideKeys, modest, calm, conditions, laid).
  DERIVED. THE GIVEN ROWS OF THIS SEAT. 7 by the template 'for every input the law returns true; each argument reads behind the call as it read before'; 0 by the template 'total and deterministic' (their statements: Qxb6602222aTotals.lean).
  GIVEN WITH THE SEED: the statements are not yours to turn. If you find one false, say at which input.
  Laid BY PROGRAM, IN A SANDBOX (cutbox-rows.mjs): the forced cells as the released guide's own fill.sh prints them over the translation bd31bd42790bbae9… (all of the seat's roots in one cut). By AI agents, Wed Nov 11 2026. No macro, syntax, notation, axiom, sorry.
-/
import Derived.Test.Qxb6602222aChecked
import GoSem.Claim
import GoSem.ClaimJoined
import GoSem.ClaimMapViews
import Derived.JoinedTies
import Derived.KernelRfl
namespace Go.Proofs.Qxb6602222a
/- THE CELL 'sum', in the pinned program and in every row, IS THE sha256 OF THE DUMP (.gsa) THAT Qxb6602222aProg.lean LOADS. Nothing in Lean hashes anything: it is a label: what it is worth is what the hold of that sum in a sandbox is worth. -/
noncomputable def Try.pinned : Pinned := { name := "qxb6602222a", sum := "bd31bd42790bbae927dfe0042d4a7ff46fe8d180009dca2ac7c90aaeb932306f", checked := Try.checked }
namespace Rows
def none {H : Type} : Left H := { results := [], args := [] }

/-- 'zzlaws_internal_sse_b1.FnSplitMatchesLineEndPairing': WHATEVER THE INPUT: true; the input reads as it did. -/
def fnSplitMatchesLineEndPairingSpec : ChangeSpec := { name := "fnSplitMatchesLineEndPairing", fn := fun _ => fun
  | [d] => { results := [.lit (.bool true)], args := [d] }
  | _ => none }
def fnSplitMatchesLineEndPairingRow : OpenClaim := { program := "qxb6602222a", sum := "bd31bd42790bbae927dfe0042d4a7ff46fe8d180009dca2ac7c90aaeb932306f", func := "example.com/tokenflume/tokenflume/zzlaws_internal_sse_b1.FnSplitMatchesLineEndPairing", spec := "fnSplitMatchesLineEndPairing", inPlace := ["internal/bytealg.IndexByte"], apart := false }
def FnSplitMatchesLineEndPairingSaid : Prop := fnSplitMatchesLineEndPairingRow.holds Try.pinned (OpenSpec.ofChange fnSplitMatchesLineEndPairingSpec)

/-- ITS FALSE NEIGHBOUR: 'it returns false'. Refute it at one input. -/
def fnSplitMatchesLineEndPairingWrong : ChangeSpec := { name := "fnSplitMatchesLineEndPairing", fn := fun _ => fun
  | [d] => { results := [.lit (.bool false)], args := [d] }
  | _ => none }
def FnSplitMatchesLineEndPairingWrongFalsely : Prop := fnSplitMatchesLineEndPairingRow.holds Try.pinned (OpenSpec.ofChange fnSplitMatchesLineEndPairingWrong)

/-- 'zzlaws_internal_sse_b1.FnSplitConcatAtBlockEnd': WHATEVER THE INPUT: true; the input reads as it did. -/
def fnSplitConcatAtBlockEndSpec : ChangeSpec := { name := "fnSplitConcatAtBlockEnd", fn := fun _ => fun
  | [d1, d2] => { results := [.lit (.bool true)], args := [d1, d2] }
  | _ => none }
def fnSplitConcatAtBlockEndRow : OpenClaim := { program := "qxb6602222a", sum := "bd31bd42790bbae927dfe0042d4a7ff46fe8d180009dca2ac7c90aaeb932306f", func := "example.com/tokenflume/tokenflume/zzlaws_internal_sse_b1.FnSplitConcatAtBlockEnd", spec := "fnSplitConcatAtBlockEnd", inPlace := ["internal/bytealg.IndexByte"], apart := false }
def FnSplitConcatAtBlockEndSaid : Prop := fnSplitConcatAtBlockEndRow.holds Try.pinned (OpenSpec.ofChange fnSplitConcatAtBlockEndSpec)

/-- ITS FALSE NEIGHBOUR: 'it returns false'. Refute it at one input. -/
def fnSplitConcatAtBlockEndWrong : ChangeSpec := { name := "fnSplitConcatAtBlockEnd", fn := fun _ => fun
  | [d1, d2] => { results := [.lit (.bool false)], args := [d1, d2] }
  | _ => none }
def FnSplitConcatAtBlockEndWrongFalsely : Prop := fnSplitConcatAtBlockEndRow.holds Try.pinned (OpenSpec.ofChange fnSplitConcatAtBlockEndWrong)

/-- 'zzlaws_internal_sse_b1.FnSplitEndsOrderedOnLineEnds': WHATEVER THE INPUT: true; the input reads as it did. -/
def fnSplitEndsOrderedOnLineEndsSpec : ChangeSpec := { name := "fnSplitEndsOrderedOnLineEnds", fn := fun _ => fun
  | [d] => { results := [.lit (.bool true)], args := [d] }
  | _ => none }
def fnSplitEndsOrderedOnLineEndsRow : OpenClaim := { program := "qxb6602222a", sum := "bd31bd42790bbae927dfe0042d4a7ff46fe8d180009dca2ac7c90aaeb932306f", func := "example.com/tokenflume/tokenflume/zzlaws_internal_sse_b1.FnSplitEndsOrderedOnLineEnds", spec := "fnSplitEndsOrderedOnLineEnds", inPlace := ["internal/bytealg.IndexByte"], apart := false }
def FnSplitEndsOrderedOnLineEndsSaid : Prop := fnSplitEndsOrderedOnLineEndsRow.holds Try.pinned (OpenSpec.ofChange fnSplitEndsOrderedOnLineEndsSpec)

/-- ITS FALSE NEIGHBOUR: 'it returns false'. Refute it at one input. -/
def fnSplitEndsOrderedOnLineEndsWrong : ChangeSpec := { name := "fnSplitEndsOrderedOnLineEnds", fn := fun _ => fun
  | [d] => { results := [.lit (.bool false)], args := [d] }
  | _ => none }
def FnSplitEndsOrderedOnLineEndsWrongFalsely : Prop := fnSplitEndsOrderedOnLineEndsRow.holds Try.pinned (OpenSpec.ofChange fnSplitEndsOrderedOnLineEndsWrong)

/-- 'zzlaws_internal_sse_b1.FnFeedMatchesLookaheadModel': WHATEVER THE INPUT: true; the input reads as it did. -/
def fnFeedMatchesLookaheadModelSpec : ChangeSpec := { name := "fnFeedMatchesLookaheadModel", fn := fun _ => fun
  | [d1, d2, d3, d4, d5, d6] => { results := [.lit (.bool true)], args := [d1, d2, d3, d4, d5, d6] }
  | _ => none }
def fnFeedMatchesLookaheadModelRow : OpenClaim := { program := "qxb6602222a", sum := "bd31bd42790bbae927dfe0042d4a7ff46fe8d180009dca2ac7c90aaeb932306f", func := "example.com/tokenflume/tokenflume/zzlaws_internal_sse_b1.FnFeedMatchesLookaheadModel", spec := "fnFeedMatchesLookaheadModel", inPlace := ["internal/bytealg.IndexByte"], apart := false }
def FnFeedMatchesLookaheadModelSaid : Prop := fnFeedMatchesLookaheadModelRow.holds Try.pinned (OpenSpec.ofChange fnFeedMatchesLookaheadModelSpec)

/-- ITS FALSE NEIGHBOUR: 'it returns false'. Refute it at one input. -/
def fnFeedMatchesLookaheadModelWrong : ChangeSpec := { name := "fnFeedMatchesLookaheadModel", fn := fun _ => fun
  | [d1, d2, d3, d4, d5, d6] => { results := [.lit (.bool false)], args := [d1, d2, d3, d4, d5, d6] }
  | _ => none }
def FnFeedMatchesLookaheadModelWrongFalsely : Prop := fnFeedMatchesLookaheadModelRow.holds Try.pinned (OpenSpec.ofChange fnFeedMatchesLookaheadModelWrong)

/-- 'zzlaws_internal_sse_b1.FnFeedCutAnywhereSameEnds': WHATEVER THE INPUT: true; the input reads as it did. -/
def fnFeedCutAnywhereSameEndsSpec : ChangeSpec := { name := "fnFeedCutAnywhereSameEnds", fn := fun _ => fun
  | [d1, d2, d3, d4, d5, d6] => { results := [.lit (.bool true)], args := [d1, d2, d3, d4, d5, d6] }
  | _ => none }
def fnFeedCutAnywhereSameEndsRow : OpenClaim := { program := "qxb6602222a", sum := "bd31bd42790bbae927dfe0042d4a7ff46fe8d180009dca2ac7c90aaeb932306f", func := "example.com/tokenflume/tokenflume/zzlaws_internal_sse_b1.FnFeedCutAnywhereSameEnds", spec := "fnFeedCutAnywhereSameEnds", inPlace := ["internal/bytealg.IndexByte"], apart := false }
def FnFeedCutAnywhereSameEndsSaid : Prop := fnFeedCutAnywhereSameEndsRow.holds Try.pinned (OpenSpec.ofChange fnFeedCutAnywhereSameEndsSpec)

/-- ITS FALSE NEIGHBOUR: 'it returns false'. Refute it at one input. -/
def fnFeedCutAnywhereSameEndsWrong : ChangeSpec := { name := "fnFeedCutAnywhereSameEnds", fn := fun _ => fun
  | [d1, d2, d3, d4, d5, d6] => { results := [.lit (.bool false)], args := [d1, d2, d3, d4, d5, d6] }
  | _ => none }
def FnFeedCutAnywhereSameEndsWrongFalsely : Prop := fnFeedCutAnywhereSameEndsRow.holds Try.pinned (OpenSpec.ofChange fnFeedCutAnywhereSameEndsWrong)

/-- 'zzlaws_internal_sse_b1.FnLineEndFindsFirstLineEnd': WHATEVER THE INPUT: true; the input reads as it did. -/
def fnLineEndFindsFirstLineEndSpec : ChangeSpec := { name := "fnLineEndFindsFirstLineEnd", fn := fun _ => fun
  | [d1, d2, d3] => { results := [.lit (.bool true)], args := [d1, d2, d3] }
  | _ => none }
def fnLineEndFindsFirstLineEndRow : OpenClaim := { program := "qxb6602222a", sum := "bd31bd42790bbae927dfe0042d4a7ff46fe8d180009dca2ac7c90aaeb932306f", func := "example.com/tokenflume/tokenflume/zzlaws_internal_sse_b1.FnLineEndFindsFirstLineEnd", spec := "fnLineEndFindsFirstLineEnd", inPlace := ["internal/bytealg.IndexByte"], apart := false }
def FnLineEndFindsFirstLineEndSaid : Prop := fnLineEndFindsFirstLineEndRow.holds Try.pinned (OpenSpec.ofChange fnLineEndFindsFirstLineEndSpec)

/-- ITS FALSE NEIGHBOUR: 'it returns false'. Refute it at one input. -/
def fnLineEndFindsFirstLineEndWrong : ChangeSpec := { name := "fnLineEndFindsFirstLineEnd", fn := fun _ => fun
  | [d1, d2, d3] => { results := [.lit (.bool false)], args := [d1, d2, d3] }
  | _ => none }
def FnLineEndFindsFirstLineEndWrongFalsely : Prop := fnLineEndFindsFirstLineEndRow.holds Try.pinned (OpenSpec.ofChange fnLineEndFindsFirstLineEndWrong)

/-- 'zzlaws_internal_sse_b1.FnLineEndScanWithOneCacheVisitsEveryLineEnd': WHATEVER THE INPUT: true; the input reads as it did. -/
def fnLineEndScanWithOneCacheVisitsEveryLineEndSpec : ChangeSpec := { name := "fnLineEndScanWithOneCacheVisitsEveryLineEnd", fn := fun _ => fun
  | [d] => { results := [.lit (.bool true)], args := [d] }
  | _ => none }
def fnLineEndScanWithOneCacheVisitsEveryLineEndRow : OpenClaim := { program := "qxb6602222a", sum := "bd31bd42790bbae927dfe0042d4a7ff46fe8d180009dca2ac7c90aaeb932306f", func := "example.com/tokenflume/tokenflume/zzlaws_internal_sse_b1.FnLineEndScanWithOneCacheVisitsEveryLineEnd", spec := "fnLineEndScanWithOneCacheVisitsEveryLineEnd", inPlace := ["internal/bytealg.IndexByte"], apart := false }
def FnLineEndScanWithOneCacheVisitsEveryLineEndSaid : Prop := fnLineEndScanWithOneCacheVisitsEveryLineEndRow.holds Try.pinned (OpenSpec.ofChange fnLineEndScanWithOneCacheVisitsEveryLineEndSpec)

/-- ITS FALSE NEIGHBOUR: 'it returns false'. Refute it at one input. -/
def fnLineEndScanWithOneCacheVisitsEveryLineEndWrong : ChangeSpec := { name := "fnLineEndScanWithOneCacheVisitsEveryLineEnd", fn := fun _ => fun
  | [d] => { results := [.lit (.bool false)], args := [d] }
  | _ => none }
def FnLineEndScanWithOneCacheVisitsEveryLineEndWrongFalsely : Prop := fnLineEndScanWithOneCacheVisitsEveryLineEndRow.holds Try.pinned (OpenSpec.ofChange fnLineEndScanWithOneCacheVisitsEveryLineEndWrong)

end Rows
end Go.Proofs.Qxb6602222a
