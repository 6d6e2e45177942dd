/-
  No cell of these rows narrows 'for every input' (looked for: loops, veiled, ifaces, maps, wideKeys, modest, calm, conditions, laid).
  DERIVED. THE GIVEN ROWS OF THIS SEAT. 6 by the template 'for every input the law returns true; each argument reads behind the call as it read before'; 0 by the template 'total and deterministic' (their statements: Qxb6602057aModsTotals.lean).
  GIVEN WITH THE SEED: the statements are not yours to turn. If you find one false, say at which input.
  Laid BY PROGRAM, IN A SANDBOX (cutbox-rows.mjs): the forced cells as the released guide's own fill.sh prints them over the translation 39d08a5efbb28cc5… (all of the seat's roots in one cut). By AI agents, Wed Nov 11 2026. No macro, syntax, notation, axiom, sorry.
-/
import Derived.Test.Qxb6602057aModsChecked
import GoSem.Claim
import GoSem.ClaimJoined
import GoSem.ClaimMapViews
import Derived.JoinedTies
import Derived.KernelRfl
namespace Go.Proofs.Qxb6602057aMods
/- THE CELL 'sum', in the pinned program and in every row, IS THE sha256 OF THE DUMP (.gsa) THAT Qxb6602057aModsProg.lean LOADS. Nothing in Lean hashes anything: it is a label: what it is worth is what the hold of that sum in a sandbox is worth. -/
noncomputable def Trym.pinned : Pinned := { name := "qxb6602057amods", sum := "39d08a5efbb28cc5bbf152d8aebdac5475da46c55fe9dfafa2c99b816a782896", checked := Trym.checked }
namespace Rows
def none {H : Type} : Left H := { results := [], args := [] }

/-- 'zzlaws_root_b1.FnPatternsMeetModel': WHATEVER THE INPUT: true; the input reads as it did. -/
def fnPatternsMeetModelSpec : ChangeSpec := { name := "fnPatternsMeetModel", fn := fun _ => fun
  | [d1, d2] => { results := [.lit (.bool true)], args := [d1, d2] }
  | _ => none }
def fnPatternsMeetModelRow : OpenClaim := { program := "qxb6602057amods", sum := "39d08a5efbb28cc5bbf152d8aebdac5475da46c55fe9dfafa2c99b816a782896", func := "example.com/countersign/countersign/zzlaws_root_b1.FnPatternsMeetModel", spec := "fnPatternsMeetModel", make := .lifted ["publicsums"], apart := false }
def FnPatternsMeetModelSaid : Prop := fnPatternsMeetModelRow.holds Trym.pinned (OpenSpec.ofChange fnPatternsMeetModelSpec)

/-- ITS FALSE NEIGHBOUR: 'it returns false'. Refute it at one input. -/
def fnPatternsMeetModelWrong : ChangeSpec := { name := "fnPatternsMeetModel", fn := fun _ => fun
  | [d1, d2] => { results := [.lit (.bool false)], args := [d1, d2] }
  | _ => none }
def FnPatternsMeetModelWrongFalsely : Prop := fnPatternsMeetModelRow.holds Trym.pinned (OpenSpec.ofChange fnPatternsMeetModelWrong)

/-- 'zzlaws_root_b1.FnPatternsMeetPlainName': WHATEVER THE INPUT: true; the input reads as it did. -/
def fnPatternsMeetPlainNameSpec : ChangeSpec := { name := "fnPatternsMeetPlainName", fn := fun _ => fun
  | [d1, d2] => { results := [.lit (.bool true)], args := [d1, d2] }
  | _ => none }
def fnPatternsMeetPlainNameRow : OpenClaim := { program := "qxb6602057amods", sum := "39d08a5efbb28cc5bbf152d8aebdac5475da46c55fe9dfafa2c99b816a782896", func := "example.com/countersign/countersign/zzlaws_root_b1.FnPatternsMeetPlainName", spec := "fnPatternsMeetPlainName", make := .lifted ["publicsums"], apart := false }
def FnPatternsMeetPlainNameSaid : Prop := fnPatternsMeetPlainNameRow.holds Trym.pinned (OpenSpec.ofChange fnPatternsMeetPlainNameSpec)

/-- ITS FALSE NEIGHBOUR: 'it returns false'. Refute it at one input. -/
def fnPatternsMeetPlainNameWrong : ChangeSpec := { name := "fnPatternsMeetPlainName", fn := fun _ => fun
  | [d1, d2] => { results := [.lit (.bool false)], args := [d1, d2] }
  | _ => none }
def FnPatternsMeetPlainNameWrongFalsely : Prop := fnPatternsMeetPlainNameRow.holds Trym.pinned (OpenSpec.ofChange fnPatternsMeetPlainNameWrong)

/-- 'zzlaws_root_b1.FnPatternsMeetSymmetric': WHATEVER THE INPUT: true; the input reads as it did. -/
def fnPatternsMeetSymmetricSpec : ChangeSpec := { name := "fnPatternsMeetSymmetric", fn := fun _ => fun
  | [d1, d2] => { results := [.lit (.bool true)], args := [d1, d2] }
  | _ => none }
def fnPatternsMeetSymmetricRow : OpenClaim := { program := "qxb6602057amods", sum := "39d08a5efbb28cc5bbf152d8aebdac5475da46c55fe9dfafa2c99b816a782896", func := "example.com/countersign/countersign/zzlaws_root_b1.FnPatternsMeetSymmetric", spec := "fnPatternsMeetSymmetric", make := .lifted ["publicsums"], apart := false }
def FnPatternsMeetSymmetricSaid : Prop := fnPatternsMeetSymmetricRow.holds Trym.pinned (OpenSpec.ofChange fnPatternsMeetSymmetricSpec)

/-- ITS FALSE NEIGHBOUR: 'it returns false'. Refute it at one input. -/
def fnPatternsMeetSymmetricWrong : ChangeSpec := { name := "fnPatternsMeetSymmetric", fn := fun _ => fun
  | [d1, d2] => { results := [.lit (.bool false)], args := [d1, d2] }
  | _ => none }
def FnPatternsMeetSymmetricWrongFalsely : Prop := fnPatternsMeetSymmetricRow.holds Trym.pinned (OpenSpec.ofChange fnPatternsMeetSymmetricWrong)

/-- 'zzlaws_root_b1.FnIsPrefixModel': WHATEVER THE INPUT: true; the input reads as it did. -/
def fnIsPrefixModelSpec : ChangeSpec := { name := "fnIsPrefixModel", fn := fun _ => fun
  | [d1, d2] => { results := [.lit (.bool true)], args := [d1, d2] }
  | _ => none }
def fnIsPrefixModelRow : OpenClaim := { program := "qxb6602057amods", sum := "39d08a5efbb28cc5bbf152d8aebdac5475da46c55fe9dfafa2c99b816a782896", func := "example.com/countersign/countersign/zzlaws_root_b1.FnIsPrefixModel", spec := "fnIsPrefixModel", make := .lifted ["publicsums"], apart := false }
def FnIsPrefixModelSaid : Prop := fnIsPrefixModelRow.holds Trym.pinned (OpenSpec.ofChange fnIsPrefixModelSpec)

/-- ITS FALSE NEIGHBOUR: 'it returns false'. Refute it at one input. -/
def fnIsPrefixModelWrong : ChangeSpec := { name := "fnIsPrefixModel", fn := fun _ => fun
  | [d1, d2] => { results := [.lit (.bool false)], args := [d1, d2] }
  | _ => none }
def FnIsPrefixModelWrongFalsely : Prop := fnIsPrefixModelRow.holds Trym.pinned (OpenSpec.ofChange fnIsPrefixModelWrong)

/-- 'zzlaws_root_b1.FnIsPrefixCutStaysPrefix': WHATEVER THE INPUT: true; the input reads as it did. -/
def fnIsPrefixCutStaysPrefixSpec : ChangeSpec := { name := "fnIsPrefixCutStaysPrefix", fn := fun _ => fun
  | [d1, d2, d3] => { results := [.lit (.bool true)], args := [d1, d2, d3] }
  | _ => none }
def fnIsPrefixCutStaysPrefixRow : OpenClaim := { program := "qxb6602057amods", sum := "39d08a5efbb28cc5bbf152d8aebdac5475da46c55fe9dfafa2c99b816a782896", func := "example.com/countersign/countersign/zzlaws_root_b1.FnIsPrefixCutStaysPrefix", spec := "fnIsPrefixCutStaysPrefix", make := .lifted ["publicsums"], apart := false }
def FnIsPrefixCutStaysPrefixSaid : Prop := fnIsPrefixCutStaysPrefixRow.holds Trym.pinned (OpenSpec.ofChange fnIsPrefixCutStaysPrefixSpec)

/-- ITS FALSE NEIGHBOUR: 'it returns false'. Refute it at one input. -/
def fnIsPrefixCutStaysPrefixWrong : ChangeSpec := { name := "fnIsPrefixCutStaysPrefix", fn := fun _ => fun
  | [d1, d2, d3] => { results := [.lit (.bool false)], args := [d1, d2, d3] }
  | _ => none }
def FnIsPrefixCutStaysPrefixWrongFalsely : Prop := fnIsPrefixCutStaysPrefixRow.holds Trym.pinned (OpenSpec.ofChange fnIsPrefixCutStaysPrefixWrong)

/-- 'zzlaws_root_b1.FnIsPrefixWholeHeaderAndTail': WHATEVER THE INPUT: true; the input reads as it did. -/
def fnIsPrefixWholeHeaderAndTailSpec : ChangeSpec := { name := "fnIsPrefixWholeHeaderAndTail", fn := fun _ => fun
  | [d1, d2] => { results := [.lit (.bool true)], args := [d1, d2] }
  | _ => none }
def fnIsPrefixWholeHeaderAndTailRow : OpenClaim := { program := "qxb6602057amods", sum := "39d08a5efbb28cc5bbf152d8aebdac5475da46c55fe9dfafa2c99b816a782896", func := "example.com/countersign/countersign/zzlaws_root_b1.FnIsPrefixWholeHeaderAndTail", spec := "fnIsPrefixWholeHeaderAndTail", make := .lifted ["publicsums"], apart := false }
def FnIsPrefixWholeHeaderAndTailSaid : Prop := fnIsPrefixWholeHeaderAndTailRow.holds Trym.pinned (OpenSpec.ofChange fnIsPrefixWholeHeaderAndTailSpec)

/-- ITS FALSE NEIGHBOUR: 'it returns false'. Refute it at one input. -/
def fnIsPrefixWholeHeaderAndTailWrong : ChangeSpec := { name := "fnIsPrefixWholeHeaderAndTail", fn := fun _ => fun
  | [d1, d2] => { results := [.lit (.bool false)], args := [d1, d2] }
  | _ => none }
def FnIsPrefixWholeHeaderAndTailWrongFalsely : Prop := fnIsPrefixWholeHeaderAndTailRow.holds Trym.pinned (OpenSpec.ofChange fnIsPrefixWholeHeaderAndTailWrong)

end Rows
end Go.Proofs.Qxb6602057aMods
