/-
  No cell of these rows narrows 'for every input' (looked for: loops, veiled, ifaces, maps, wideKeys, modest, calm, conditions, laid).
  DERIVED. THE GIVEN ROWS OF THIS SEAT. 6 by the template 'for every input the law returns true; each argument reads behind the call as it read before'; 0 by the template 'total and deterministic' (their statements: Qxb6602428aTotals.lean).
  GIVEN WITH THE SEED: the statements are not yours to turn. If you find one false, say at which input.
  Laid BY PROGRAM, IN A SANDBOX (cutbox-rows.mjs): the forced cells as the released guide's own fill.sh prints them over the translation d69b3e924eb9ea30… (all of the seat's roots in one cut). By AI agents, Wed Nov 11 2026. No macro, syntax, notation, axiom, sorry.
-/
import Derived.Test.Qxb6602428aChecked
import GoSem.Claim
import GoSem.ClaimJoined
import GoSem.ClaimMapViews
import Derived.JoinedTies
import Derived.KernelRfl
namespace Go.Proofs.Qxb6602428a
/- THE CELL 'sum', in the pinned program and in every row, IS THE sha256 OF THE DUMP (.gsa) THAT Qxb6602428aProg.lean LOADS. Nothing in Lean hashes anything: it is a label: what it is worth is what the hold of that sum in a sandbox is worth. -/
noncomputable def Try.pinned : Pinned := { name := "qxb6602428a", sum := "d69b3e924eb9ea30a10d758754ca37820231d9437a475c8c8c1e7f93de67d955", checked := Try.checked }
namespace Rows
def none {H : Type} : Left H := { results := [], args := [] }

/-- 'zzlaws_exact_b1.FnIsPlainDecimalMatchesGrammar': WHATEVER THE INPUT: true; the input reads as it did. -/
def fnIsPlainDecimalMatchesGrammarSpec : ChangeSpec := { name := "fnIsPlainDecimalMatchesGrammar", fn := fun _ => fun
  | [d] => { results := [.lit (.bool true)], args := [d] }
  | _ => none }
def fnIsPlainDecimalMatchesGrammarRow : OpenClaim := { program := "qxb6602428a", sum := "d69b3e924eb9ea30a10d758754ca37820231d9437a475c8c8c1e7f93de67d955", func := "example.com/margintier/margintier/zzlaws_exact_b1.FnIsPlainDecimalMatchesGrammar", spec := "fnIsPlainDecimalMatchesGrammar", apart := false }
def FnIsPlainDecimalMatchesGrammarSaid : Prop := fnIsPlainDecimalMatchesGrammarRow.holds Try.pinned (OpenSpec.ofChange fnIsPlainDecimalMatchesGrammarSpec)

/-- ITS FALSE NEIGHBOUR: 'it returns false'. Refute it at one input. -/
def fnIsPlainDecimalMatchesGrammarWrong : ChangeSpec := { name := "fnIsPlainDecimalMatchesGrammar", fn := fun _ => fun
  | [d] => { results := [.lit (.bool false)], args := [d] }
  | _ => none }
def FnIsPlainDecimalMatchesGrammarWrongFalsely : Prop := fnIsPlainDecimalMatchesGrammarRow.holds Try.pinned (OpenSpec.ofChange fnIsPlainDecimalMatchesGrammarWrong)

/-- 'zzlaws_exact_b1.FnIsPlainDecimalOneMinusSign': WHATEVER THE INPUT: true; the input reads as it did. -/
def fnIsPlainDecimalOneMinusSignSpec : ChangeSpec := { name := "fnIsPlainDecimalOneMinusSign", fn := fun _ => fun
  | [d] => { results := [.lit (.bool true)], args := [d] }
  | _ => none }
def fnIsPlainDecimalOneMinusSignRow : OpenClaim := { program := "qxb6602428a", sum := "d69b3e924eb9ea30a10d758754ca37820231d9437a475c8c8c1e7f93de67d955", func := "example.com/margintier/margintier/zzlaws_exact_b1.FnIsPlainDecimalOneMinusSign", spec := "fnIsPlainDecimalOneMinusSign", apart := false }
def FnIsPlainDecimalOneMinusSignSaid : Prop := fnIsPlainDecimalOneMinusSignRow.holds Try.pinned (OpenSpec.ofChange fnIsPlainDecimalOneMinusSignSpec)

/-- ITS FALSE NEIGHBOUR: 'it returns false'. Refute it at one input. -/
def fnIsPlainDecimalOneMinusSignWrong : ChangeSpec := { name := "fnIsPlainDecimalOneMinusSign", fn := fun _ => fun
  | [d] => { results := [.lit (.bool false)], args := [d] }
  | _ => none }
def FnIsPlainDecimalOneMinusSignWrongFalsely : Prop := fnIsPlainDecimalOneMinusSignRow.holds Try.pinned (OpenSpec.ofChange fnIsPlainDecimalOneMinusSignWrong)

/-- 'zzlaws_exact_b1.FnPlacesMatchesBackwardScan': WHATEVER THE INPUT: true; the input reads as it did. -/
def fnPlacesMatchesBackwardScanSpec : ChangeSpec := { name := "fnPlacesMatchesBackwardScan", fn := fun _ => fun
  | [d] => { results := [.lit (.bool true)], args := [d] }
  | _ => none }
def fnPlacesMatchesBackwardScanRow : OpenClaim := { program := "qxb6602428a", sum := "d69b3e924eb9ea30a10d758754ca37820231d9437a475c8c8c1e7f93de67d955", func := "example.com/margintier/margintier/zzlaws_exact_b1.FnPlacesMatchesBackwardScan", spec := "fnPlacesMatchesBackwardScan", inPlace := ["internal/bytealg.IndexByteString", "internal/bytealg.IndexString"], named := ["internal/bytealg.MaxLen"], apart := false }
def FnPlacesMatchesBackwardScanSaid : Prop := fnPlacesMatchesBackwardScanRow.holds Try.pinned (OpenSpec.ofChange fnPlacesMatchesBackwardScanSpec)

/-- ITS FALSE NEIGHBOUR: 'it returns false'. Refute it at one input. -/
def fnPlacesMatchesBackwardScanWrong : ChangeSpec := { name := "fnPlacesMatchesBackwardScan", fn := fun _ => fun
  | [d] => { results := [.lit (.bool false)], args := [d] }
  | _ => none }
def FnPlacesMatchesBackwardScanWrongFalsely : Prop := fnPlacesMatchesBackwardScanRow.holds Try.pinned (OpenSpec.ofChange fnPlacesMatchesBackwardScanWrong)

/-- 'zzlaws_exact_b1.FnPlacesCountsAfterFirstPoint': WHATEVER THE INPUT: true; the input reads as it did. -/
def fnPlacesCountsAfterFirstPointSpec : ChangeSpec := { name := "fnPlacesCountsAfterFirstPoint", fn := fun _ => fun
  | [d1, d2] => { results := [.lit (.bool true)], args := [d1, d2] }
  | _ => none }
def fnPlacesCountsAfterFirstPointRow : OpenClaim := { program := "qxb6602428a", sum := "d69b3e924eb9ea30a10d758754ca37820231d9437a475c8c8c1e7f93de67d955", func := "example.com/margintier/margintier/zzlaws_exact_b1.FnPlacesCountsAfterFirstPoint", spec := "fnPlacesCountsAfterFirstPoint", inPlace := ["internal/bytealg.IndexByteString", "internal/bytealg.IndexString"], named := ["internal/bytealg.MaxLen"], apart := false }
def FnPlacesCountsAfterFirstPointSaid : Prop := fnPlacesCountsAfterFirstPointRow.holds Try.pinned (OpenSpec.ofChange fnPlacesCountsAfterFirstPointSpec)

/-- ITS FALSE NEIGHBOUR: 'it returns false'. Refute it at one input. -/
def fnPlacesCountsAfterFirstPointWrong : ChangeSpec := { name := "fnPlacesCountsAfterFirstPoint", fn := fun _ => fun
  | [d1, d2] => { results := [.lit (.bool false)], args := [d1, d2] }
  | _ => none }
def FnPlacesCountsAfterFirstPointWrongFalsely : Prop := fnPlacesCountsAfterFirstPointRow.holds Try.pinned (OpenSpec.ofChange fnPlacesCountsAfterFirstPointWrong)

/-- 'zzlaws_exact_b1.FnAppendDecimalMatchesPadAndSplit': WHATEVER THE INPUT: true; the input reads as it did. -/
def fnAppendDecimalMatchesPadAndSplitSpec : ChangeSpec := { name := "fnAppendDecimalMatchesPadAndSplit", fn := fun _ => fun
  | [d1, d2, d3, d4] => { results := [.lit (.bool true)], args := [d1, d2, d3, d4] }
  | _ => none }
def fnAppendDecimalMatchesPadAndSplitRow : OpenClaim := { program := "qxb6602428a", sum := "d69b3e924eb9ea30a10d758754ca37820231d9437a475c8c8c1e7f93de67d955", func := "example.com/margintier/margintier/zzlaws_exact_b1.FnAppendDecimalMatchesPadAndSplit", spec := "fnAppendDecimalMatchesPadAndSplit", apart := false }
def FnAppendDecimalMatchesPadAndSplitSaid : Prop := fnAppendDecimalMatchesPadAndSplitRow.holds Try.pinned (OpenSpec.ofChange fnAppendDecimalMatchesPadAndSplitSpec)

/-- ITS FALSE NEIGHBOUR: 'it returns false'. Refute it at one input. -/
def fnAppendDecimalMatchesPadAndSplitWrong : ChangeSpec := { name := "fnAppendDecimalMatchesPadAndSplit", fn := fun _ => fun
  | [d1, d2, d3, d4] => { results := [.lit (.bool false)], args := [d1, d2, d3, d4] }
  | _ => none }
def FnAppendDecimalMatchesPadAndSplitWrongFalsely : Prop := fnAppendDecimalMatchesPadAndSplitRow.holds Try.pinned (OpenSpec.ofChange fnAppendDecimalMatchesPadAndSplitWrong)

/-- 'zzlaws_exact_b1.FnAppendDecimalReadsBack': WHATEVER THE INPUT: true; the input reads as it did. -/
def fnAppendDecimalReadsBackSpec : ChangeSpec := { name := "fnAppendDecimalReadsBack", fn := fun _ => fun
  | [d1, d2, d3] => { results := [.lit (.bool true)], args := [d1, d2, d3] }
  | _ => none }
def fnAppendDecimalReadsBackRow : OpenClaim := { program := "qxb6602428a", sum := "d69b3e924eb9ea30a10d758754ca37820231d9437a475c8c8c1e7f93de67d955", func := "example.com/margintier/margintier/zzlaws_exact_b1.FnAppendDecimalReadsBack", spec := "fnAppendDecimalReadsBack", inPlace := ["internal/bytealg.IndexByteString", "internal/bytealg.IndexString"], named := ["internal/bytealg.MaxLen"], apart := false }
def FnAppendDecimalReadsBackSaid : Prop := fnAppendDecimalReadsBackRow.holds Try.pinned (OpenSpec.ofChange fnAppendDecimalReadsBackSpec)

/-- ITS FALSE NEIGHBOUR: 'it returns false'. Refute it at one input. -/
def fnAppendDecimalReadsBackWrong : ChangeSpec := { name := "fnAppendDecimalReadsBack", fn := fun _ => fun
  | [d1, d2, d3] => { results := [.lit (.bool false)], args := [d1, d2, d3] }
  | _ => none }
def FnAppendDecimalReadsBackWrongFalsely : Prop := fnAppendDecimalReadsBackRow.holds Try.pinned (OpenSpec.ofChange fnAppendDecimalReadsBackWrong)

end Rows
end Go.Proofs.Qxb6602428a
