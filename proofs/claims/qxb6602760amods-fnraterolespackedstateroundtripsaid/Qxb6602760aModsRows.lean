/-
  No cell of these rows narrows 'for every input' (looked for: loops, veiled, ifaces, maps, wideKeys, modest, calm, conditions, laid).
  DERIVED. THE GIVEN ROWS OF THIS SEAT. 3 by the template 'for every input the law returns true; each argument reads behind the call as it read before'; 0 by the template 'total and deterministic' (their statements: Qxb6602760aModsTotals.lean).
  GIVEN WITH THE SEED: the statements are not yours to turn. If you find one false, say at which input.
  Laid BY PROGRAM, IN A SANDBOX (cutbox-rows.mjs): the forced cells as the released guide's own fill.sh prints them over the translation 055611fedbe9b446… (all of the seat's roots in one cut). By AI agents, Wed Nov 11 2026. No macro, syntax, notation, axiom, sorry.
-/
import Derived.Test.Qxb6602760aModsChecked
import GoSem.Claim
import GoSem.ClaimJoined
import GoSem.ClaimMapViews
import Derived.JoinedTies
import Derived.KernelRfl
namespace Go.Proofs.Qxb6602760aMods
/- THE CELL 'sum', in the pinned program and in every row, IS THE sha256 OF THE DUMP (.gsa) THAT Qxb6602760aModsProg.lean LOADS. Nothing in Lean hashes anything: it is a label: what it is worth is what the hold of that sum in a sandbox is worth. -/
noncomputable def Trym.pinned : Pinned := { name := "qxb6602760amods", sum := "055611fedbe9b446d5826159a6a5a58c650e6e61f2ac404b0633d7e588ed9491", checked := Trym.checked }
namespace Rows
def none {H : Type} : Left H := { results := [], args := [] }

/-- 'zzlaws_root_b1.FnTurnStateBehindModel': WHATEVER THE INPUT: true; the input reads as it did. -/
def fnTurnStateBehindModelSpec : ChangeSpec := { name := "fnTurnStateBehindModel", fn := fun _ => fun
  | [d1, d2] => { results := [.lit (.bool true)], args := [d1, d2] }
  | _ => none }
def fnTurnStateBehindModelRow : OpenClaim := { program := "qxb6602760amods", sum := "055611fedbe9b446d5826159a6a5a58c650e6e61f2ac404b0633d7e588ed9491", func := "example.com/sketch-limits/sketch-limits/zzlaws_root_b1.FnTurnStateBehindModel", spec := "fnTurnStateBehindModel", make := .lifted ["publicsums"], apart := false }
def FnTurnStateBehindModelSaid : Prop := fnTurnStateBehindModelRow.holds Trym.pinned (OpenSpec.ofChange fnTurnStateBehindModelSpec)

/-- ITS FALSE NEIGHBOUR: 'it returns false'. Refute it at one input. -/
def fnTurnStateBehindModelWrong : ChangeSpec := { name := "fnTurnStateBehindModel", fn := fun _ => fun
  | [d1, d2] => { results := [.lit (.bool false)], args := [d1, d2] }
  | _ => none }
def FnTurnStateBehindModelWrongFalsely : Prop := fnTurnStateBehindModelRow.holds Trym.pinned (OpenSpec.ofChange fnTurnStateBehindModelWrong)

/-- 'zzlaws_root_b1.FnTurnStateBehindOneStep': WHATEVER THE INPUT: true; the input reads as it did. -/
def fnTurnStateBehindOneStepSpec : ChangeSpec := { name := "fnTurnStateBehindOneStep", fn := fun _ => fun
  | [d1, d2] => { results := [.lit (.bool true)], args := [d1, d2] }
  | _ => none }
def fnTurnStateBehindOneStepRow : OpenClaim := { program := "qxb6602760amods", sum := "055611fedbe9b446d5826159a6a5a58c650e6e61f2ac404b0633d7e588ed9491", func := "example.com/sketch-limits/sketch-limits/zzlaws_root_b1.FnTurnStateBehindOneStep", spec := "fnTurnStateBehindOneStep", make := .lifted ["publicsums"], apart := false }
def FnTurnStateBehindOneStepSaid : Prop := fnTurnStateBehindOneStepRow.holds Trym.pinned (OpenSpec.ofChange fnTurnStateBehindOneStepSpec)

/-- ITS FALSE NEIGHBOUR: 'it returns false'. Refute it at one input. -/
def fnTurnStateBehindOneStepWrong : ChangeSpec := { name := "fnTurnStateBehindOneStep", fn := fun _ => fun
  | [d1, d2] => { results := [.lit (.bool false)], args := [d1, d2] }
  | _ => none }
def FnTurnStateBehindOneStepWrongFalsely : Prop := fnTurnStateBehindOneStepRow.holds Trym.pinned (OpenSpec.ofChange fnTurnStateBehindOneStepWrong)

/-- 'zzlaws_root_b1.FnRateRolesPackedStateRoundTrip': WHATEVER THE INPUT: true; the input reads as it did. -/
def fnRateRolesPackedStateRoundTripSpec : ChangeSpec := { name := "fnRateRolesPackedStateRoundTrip", fn := fun _ => fun
  | [d1, d2, d3, d4] => { results := [.lit (.bool true)], args := [d1, d2, d3, d4] }
  | _ => none }
def fnRateRolesPackedStateRoundTripRow : OpenClaim := { program := "qxb6602760amods", sum := "055611fedbe9b446d5826159a6a5a58c650e6e61f2ac404b0633d7e588ed9491", func := "example.com/sketch-limits/sketch-limits/zzlaws_root_b1.FnRateRolesPackedStateRoundTrip", spec := "fnRateRolesPackedStateRoundTrip", make := .lifted ["publicsums"], apart := false }
def FnRateRolesPackedStateRoundTripSaid : Prop := fnRateRolesPackedStateRoundTripRow.holds Trym.pinned (OpenSpec.ofChange fnRateRolesPackedStateRoundTripSpec)

/-- ITS FALSE NEIGHBOUR: 'it returns false'. Refute it at one input. -/
def fnRateRolesPackedStateRoundTripWrong : ChangeSpec := { name := "fnRateRolesPackedStateRoundTrip", fn := fun _ => fun
  | [d1, d2, d3, d4] => { results := [.lit (.bool false)], args := [d1, d2, d3, d4] }
  | _ => none }
def FnRateRolesPackedStateRoundTripWrongFalsely : Prop := fnRateRolesPackedStateRoundTripRow.holds Trym.pinned (OpenSpec.ofChange fnRateRolesPackedStateRoundTripWrong)

end Rows
end Go.Proofs.Qxb6602760aMods
