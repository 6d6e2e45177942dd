/-
  No cell of these rows narrows 'for every input' (looked for: loops, veiled, ifaces, maps, wideKeys, modest, calm, conditions, laid).
  DERIVED. THE GIVEN ROWS OF THIS SEAT. 6 by the template 'for every input the law returns true; each argument reads behind the call as it read before'; 0 by the template 'total and deterministic' (their statements: Qxb6601468aModsTotals.lean).
  GIVEN WITH THE SEED: the statements are not yours to turn. If you find one false, say at which input.
  Laid BY PROGRAM, IN A SANDBOX (cutbox-rows.mjs): the forced cells as the released guide's own fill.sh prints them over the translation 7d2a79aa1d2a71a0… (all of the seat's roots in one cut). By AI agents, Wed Nov 11 2026. No macro, syntax, notation, axiom, sorry.
-/
import Derived.Test.Qxb6601468aModsChecked
import GoSem.Claim
import GoSem.ClaimJoined
import GoSem.ClaimMapViews
import Derived.JoinedTies
import Derived.KernelRfl
namespace Go.Proofs.Qxb6601468aMods
/- THE CELL 'sum', in the pinned program and in every row, IS THE sha256 OF THE DUMP (.gsa) THAT Qxb6601468aModsProg.lean LOADS. Nothing in Lean hashes anything: it is a label: what it is worth is what the hold of that sum in a sandbox is worth. -/
noncomputable def Trym.pinned : Pinned := { name := "qxb6601468amods", sum := "7d2a79aa1d2a71a0570a3e21e4809fc64f479ffeb6a02389454364fa7c7e0257", checked := Trym.checked }
namespace Rows
def none {H : Type} : Left H := { results := [], args := [] }

/-- 'zzlaws_engine_b1.FnAbsEvenIdempotentNegativeOnlyAtLeast': WHATEVER THE INPUT: true; the input reads as it did. -/
def fnAbsEvenIdempotentNegativeOnlyAtLeastSpec : ChangeSpec := { name := "fnAbsEvenIdempotentNegativeOnlyAtLeast", fn := fun _ => fun
  | [d] => { results := [.lit (.bool true)], args := [d] }
  | _ => none }
def fnAbsEvenIdempotentNegativeOnlyAtLeastRow : OpenClaim := { program := "qxb6601468amods", sum := "7d2a79aa1d2a71a0570a3e21e4809fc64f479ffeb6a02389454364fa7c7e0257", func := "example.com/tidewright/tidewright/zzlaws_engine_b1.FnAbsEvenIdempotentNegativeOnlyAtLeast", spec := "fnAbsEvenIdempotentNegativeOnlyAtLeast", make := .lifted ["publicsums"], apart := false }
def FnAbsEvenIdempotentNegativeOnlyAtLeastSaid : Prop := fnAbsEvenIdempotentNegativeOnlyAtLeastRow.holds Trym.pinned (OpenSpec.ofChange fnAbsEvenIdempotentNegativeOnlyAtLeastSpec)

/-- ITS FALSE NEIGHBOUR: 'it returns false'. Refute it at one input. -/
def fnAbsEvenIdempotentNegativeOnlyAtLeastWrong : ChangeSpec := { name := "fnAbsEvenIdempotentNegativeOnlyAtLeast", fn := fun _ => fun
  | [d] => { results := [.lit (.bool false)], args := [d] }
  | _ => none }
def FnAbsEvenIdempotentNegativeOnlyAtLeastWrongFalsely : Prop := fnAbsEvenIdempotentNegativeOnlyAtLeastRow.holds Trym.pinned (OpenSpec.ofChange fnAbsEvenIdempotentNegativeOnlyAtLeastWrong)

/-- 'zzlaws_engine_b1.FnAbsTriangle': WHATEVER THE INPUT: true; the input reads as it did. -/
def fnAbsTriangleSpec : ChangeSpec := { name := "fnAbsTriangle", fn := fun _ => fun
  | [d1, d2] => { results := [.lit (.bool true)], args := [d1, d2] }
  | _ => none }
def fnAbsTriangleRow : OpenClaim := { program := "qxb6601468amods", sum := "7d2a79aa1d2a71a0570a3e21e4809fc64f479ffeb6a02389454364fa7c7e0257", func := "example.com/tidewright/tidewright/zzlaws_engine_b1.FnAbsTriangle", spec := "fnAbsTriangle", make := .lifted ["publicsums"], apart := false }
def FnAbsTriangleSaid : Prop := fnAbsTriangleRow.holds Trym.pinned (OpenSpec.ofChange fnAbsTriangleSpec)

/-- ITS FALSE NEIGHBOUR: 'it returns false'. Refute it at one input. -/
def fnAbsTriangleWrong : ChangeSpec := { name := "fnAbsTriangle", fn := fun _ => fun
  | [d1, d2] => { results := [.lit (.bool false)], args := [d1, d2] }
  | _ => none }
def FnAbsTriangleWrongFalsely : Prop := fnAbsTriangleRow.holds Trym.pinned (OpenSpec.ofChange fnAbsTriangleWrong)

/-- 'zzlaws_engine_b1.FnApplyAskShape': WHATEVER THE INPUT: true; the input reads as it did. -/
def fnApplyAskShapeSpec : ChangeSpec := { name := "fnApplyAskShape", fn := fun _ => fun
  | [d1, d2, d3, d4, d5] => { results := [.lit (.bool true)], args := [d1, d2, d3, d4, d5] }
  | _ => none }
def fnApplyAskShapeRow : OpenClaim := { program := "qxb6601468amods", sum := "7d2a79aa1d2a71a0570a3e21e4809fc64f479ffeb6a02389454364fa7c7e0257", func := "example.com/tidewright/tidewright/zzlaws_engine_b1.FnApplyAskShape", spec := "fnApplyAskShape", make := .lifted ["publicsums"], apart := false }
def FnApplyAskShapeSaid : Prop := fnApplyAskShapeRow.holds Trym.pinned (OpenSpec.ofChange fnApplyAskShapeSpec)

/-- ITS FALSE NEIGHBOUR: 'it returns false'. Refute it at one input. -/
def fnApplyAskShapeWrong : ChangeSpec := { name := "fnApplyAskShape", fn := fun _ => fun
  | [d1, d2, d3, d4, d5] => { results := [.lit (.bool false)], args := [d1, d2, d3, d4, d5] }
  | _ => none }
def FnApplyAskShapeWrongFalsely : Prop := fnApplyAskShapeRow.holds Trym.pinned (OpenSpec.ofChange fnApplyAskShapeWrong)

/-- 'zzlaws_engine_b1.FnApplyKeepDecisionIgnoresCounts': WHATEVER THE INPUT: true; the input reads as it did. -/
def fnApplyKeepDecisionIgnoresCountsSpec : ChangeSpec := { name := "fnApplyKeepDecisionIgnoresCounts", fn := fun _ => fun
  | [d1, d2, d3, d4, d5, d6] => { results := [.lit (.bool true)], args := [d1, d2, d3, d4, d5, d6] }
  | _ => none }
def fnApplyKeepDecisionIgnoresCountsRow : OpenClaim := { program := "qxb6601468amods", sum := "7d2a79aa1d2a71a0570a3e21e4809fc64f479ffeb6a02389454364fa7c7e0257", func := "example.com/tidewright/tidewright/zzlaws_engine_b1.FnApplyKeepDecisionIgnoresCounts", spec := "fnApplyKeepDecisionIgnoresCounts", make := .lifted ["publicsums"], apart := false }
def FnApplyKeepDecisionIgnoresCountsSaid : Prop := fnApplyKeepDecisionIgnoresCountsRow.holds Trym.pinned (OpenSpec.ofChange fnApplyKeepDecisionIgnoresCountsSpec)

/-- ITS FALSE NEIGHBOUR: 'it returns false'. Refute it at one input. -/
def fnApplyKeepDecisionIgnoresCountsWrong : ChangeSpec := { name := "fnApplyKeepDecisionIgnoresCounts", fn := fun _ => fun
  | [d1, d2, d3, d4, d5, d6] => { results := [.lit (.bool false)], args := [d1, d2, d3, d4, d5, d6] }
  | _ => none }
def FnApplyKeepDecisionIgnoresCountsWrongFalsely : Prop := fnApplyKeepDecisionIgnoresCountsRow.holds Trym.pinned (OpenSpec.ofChange fnApplyKeepDecisionIgnoresCountsWrong)

/-- 'zzlaws_engine_b1.FnApplyWiderTolerancesKeepWhatNarrowerKept': WHATEVER THE INPUT: true; the input reads as it did. -/
def fnApplyWiderTolerancesKeepWhatNarrowerKeptSpec : ChangeSpec := { name := "fnApplyWiderTolerancesKeepWhatNarrowerKept", fn := fun _ => fun
  | [d1, d2, d3, d4, d5, d6, d7] => { results := [.lit (.bool true)], args := [d1, d2, d3, d4, d5, d6, d7] }
  | _ => none }
def fnApplyWiderTolerancesKeepWhatNarrowerKeptRow : OpenClaim := { program := "qxb6601468amods", sum := "7d2a79aa1d2a71a0570a3e21e4809fc64f479ffeb6a02389454364fa7c7e0257", func := "example.com/tidewright/tidewright/zzlaws_engine_b1.FnApplyWiderTolerancesKeepWhatNarrowerKept", spec := "fnApplyWiderTolerancesKeepWhatNarrowerKept", make := .lifted ["publicsums"], apart := false }
def FnApplyWiderTolerancesKeepWhatNarrowerKeptSaid : Prop := fnApplyWiderTolerancesKeepWhatNarrowerKeptRow.holds Trym.pinned (OpenSpec.ofChange fnApplyWiderTolerancesKeepWhatNarrowerKeptSpec)

/-- ITS FALSE NEIGHBOUR: 'it returns false'. Refute it at one input. -/
def fnApplyWiderTolerancesKeepWhatNarrowerKeptWrong : ChangeSpec := { name := "fnApplyWiderTolerancesKeepWhatNarrowerKept", fn := fun _ => fun
  | [d1, d2, d3, d4, d5, d6, d7] => { results := [.lit (.bool false)], args := [d1, d2, d3, d4, d5, d6, d7] }
  | _ => none }
def FnApplyWiderTolerancesKeepWhatNarrowerKeptWrongFalsely : Prop := fnApplyWiderTolerancesKeepWhatNarrowerKeptRow.holds Trym.pinned (OpenSpec.ofChange fnApplyWiderTolerancesKeepWhatNarrowerKeptWrong)

/-- 'zzlaws_engine_b1.FnApplyNeutralPoint': WHATEVER THE INPUT: true; the input reads as it did. -/
def fnApplyNeutralPointSpec : ChangeSpec := { name := "fnApplyNeutralPoint", fn := fun _ => fun
  | [d1, d2, d3, d4, d5] => { results := [.lit (.bool true)], args := [d1, d2, d3, d4, d5] }
  | _ => none }
def fnApplyNeutralPointRow : OpenClaim := { program := "qxb6601468amods", sum := "7d2a79aa1d2a71a0570a3e21e4809fc64f479ffeb6a02389454364fa7c7e0257", func := "example.com/tidewright/tidewright/zzlaws_engine_b1.FnApplyNeutralPoint", spec := "fnApplyNeutralPoint", make := .lifted ["publicsums"], apart := false }
def FnApplyNeutralPointSaid : Prop := fnApplyNeutralPointRow.holds Trym.pinned (OpenSpec.ofChange fnApplyNeutralPointSpec)

/-- ITS FALSE NEIGHBOUR: 'it returns false'. Refute it at one input. -/
def fnApplyNeutralPointWrong : ChangeSpec := { name := "fnApplyNeutralPoint", fn := fun _ => fun
  | [d1, d2, d3, d4, d5] => { results := [.lit (.bool false)], args := [d1, d2, d3, d4, d5] }
  | _ => none }
def FnApplyNeutralPointWrongFalsely : Prop := fnApplyNeutralPointRow.holds Trym.pinned (OpenSpec.ofChange fnApplyNeutralPointWrong)

end Rows
end Go.Proofs.Qxb6601468aMods
