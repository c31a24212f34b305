/-
  No cell of these rows narrows 'for every input' (looked for: loops, veiled, ifaces, maps, wideKeys, modest, calm, conditions, laid).
  DERIVED. THE GIVEN ROWS OF THIS SEAT. 3 by the template 'for every input the law returns true; each argument reads behind the call as it read before'; 0 by the template 'total and deterministic' (their statements: Qxb6608700aModsTotals.lean).
  GIVEN WITH THE SEED: the statements are not yours to turn. If you find one false, say at which input.
  Laid BY PROGRAM, IN A SANDBOX (cutbox-rows.mjs): the forced cells as the released guide's own fill.sh prints them over the translation d4f468af8637ca5a… (all of the seat's roots in one cut). By AI agents, Wed Nov 11 2026. No macro, syntax, notation, axiom, sorry.
-/
import Derived.Test.Qxb6608700aModsChecked
import GoSem.Claim
import GoSem.ClaimJoined
import GoSem.ClaimMapViews
import Derived.JoinedTies
import Derived.KernelRfl
namespace Go.Proofs.Qxb6608700aMods
/- THE CELL 'sum', in the pinned program and in every row, IS THE sha256 OF THE DUMP (.gsa) THAT Qxb6608700aModsProg.lean LOADS. Nothing in Lean hashes anything: it is a label: what it is worth is what the hold of that sum in a sandbox is worth. -/
noncomputable def Trym.pinned : Pinned := { name := "qxb6608700amods", sum := "d4f468af8637ca5a5f8441edb6e54cc0e557ee6d0f002d6127601ec51a15c081", checked := Trym.checked }
namespace Rows
def none {H : Type} : Left H := { results := [], args := [] }

/-- 'zzlaws_operation_b1.FnBooleanBeforeAndAfterOneMoreArgument': WHATEVER THE INPUT: true; the input reads as it did. -/
def fnBooleanBeforeAndAfterOneMoreArgumentSpec : ChangeSpec := { name := "fnBooleanBeforeAndAfterOneMoreArgument", fn := fun _ => fun
  | [d1, d2, d3] => { results := [.lit (.bool true)], args := [d1, d2, d3] }
  | _ => none }
def fnBooleanBeforeAndAfterOneMoreArgumentRow : OpenClaim := { program := "qxb6608700amods", sum := "d4f468af8637ca5a5f8441edb6e54cc0e557ee6d0f002d6127601ec51a15c081", func := "example.com/tasklattice/tasklattice/zzlaws_operation_b1.FnBooleanBeforeAndAfterOneMoreArgument", spec := "fnBooleanBeforeAndAfterOneMoreArgument", make := .lifted ["publicsums"], apart := false }
def FnBooleanBeforeAndAfterOneMoreArgumentSaid : Prop := fnBooleanBeforeAndAfterOneMoreArgumentRow.holds Trym.pinned (OpenSpec.ofChange fnBooleanBeforeAndAfterOneMoreArgumentSpec)

/-- ITS FALSE NEIGHBOUR: 'it returns false'. Refute it at one input. -/
def fnBooleanBeforeAndAfterOneMoreArgumentWrong : ChangeSpec := { name := "fnBooleanBeforeAndAfterOneMoreArgument", fn := fun _ => fun
  | [d1, d2, d3] => { results := [.lit (.bool false)], args := [d1, d2, d3] }
  | _ => none }
def FnBooleanBeforeAndAfterOneMoreArgumentWrongFalsely : Prop := fnBooleanBeforeAndAfterOneMoreArgumentRow.holds Trym.pinned (OpenSpec.ofChange fnBooleanBeforeAndAfterOneMoreArgumentWrong)

/-- 'zzlaws_operation_b1.FnBooleanAndItsFlippedTwinNeverBothSayYes': WHATEVER THE INPUT: true; the input reads as it did. -/
def fnBooleanAndItsFlippedTwinNeverBothSayYesSpec : ChangeSpec := { name := "fnBooleanAndItsFlippedTwinNeverBothSayYes", fn := fun _ => fun
  | [d] => { results := [.lit (.bool true)], args := [d] }
  | _ => none }
def fnBooleanAndItsFlippedTwinNeverBothSayYesRow : OpenClaim := { program := "qxb6608700amods", sum := "d4f468af8637ca5a5f8441edb6e54cc0e557ee6d0f002d6127601ec51a15c081", func := "example.com/tasklattice/tasklattice/zzlaws_operation_b1.FnBooleanAndItsFlippedTwinNeverBothSayYes", spec := "fnBooleanAndItsFlippedTwinNeverBothSayYes", make := .lifted ["publicsums"], apart := false }
def FnBooleanAndItsFlippedTwinNeverBothSayYesSaid : Prop := fnBooleanAndItsFlippedTwinNeverBothSayYesRow.holds Trym.pinned (OpenSpec.ofChange fnBooleanAndItsFlippedTwinNeverBothSayYesSpec)

/-- ITS FALSE NEIGHBOUR: 'it returns false'. Refute it at one input. -/
def fnBooleanAndItsFlippedTwinNeverBothSayYesWrong : ChangeSpec := { name := "fnBooleanAndItsFlippedTwinNeverBothSayYes", fn := fun _ => fun
  | [d] => { results := [.lit (.bool false)], args := [d] }
  | _ => none }
def FnBooleanAndItsFlippedTwinNeverBothSayYesWrongFalsely : Prop := fnBooleanAndItsFlippedTwinNeverBothSayYesRow.holds Trym.pinned (OpenSpec.ofChange fnBooleanAndItsFlippedTwinNeverBothSayYesWrong)

/-- 'zzlaws_operation_b1.FnObjectSchemaEachCallAFreshMap': WHATEVER THE INPUT: true; the input reads as it did. -/
def fnObjectSchemaEachCallAFreshMapSpec : ChangeSpec := { name := "fnObjectSchemaEachCallAFreshMap", fn := fun _ => fun
  | [d1, d2, d3, d4] => { results := [.lit (.bool true)], args := [d1, d2, d3, d4] }
  | _ => none }
def fnObjectSchemaEachCallAFreshMapRow : OpenClaim := { program := "qxb6608700amods", sum := "d4f468af8637ca5a5f8441edb6e54cc0e557ee6d0f002d6127601ec51a15c081", func := "example.com/tasklattice/tasklattice/zzlaws_operation_b1.FnObjectSchemaEachCallAFreshMap", spec := "fnObjectSchemaEachCallAFreshMap", make := .lifted ["publicsums"], apart := false }
def FnObjectSchemaEachCallAFreshMapSaid : Prop := fnObjectSchemaEachCallAFreshMapRow.holds Trym.pinned (OpenSpec.ofChange fnObjectSchemaEachCallAFreshMapSpec)

/-- ITS FALSE NEIGHBOUR: 'it returns false'. Refute it at one input. -/
def fnObjectSchemaEachCallAFreshMapWrong : ChangeSpec := { name := "fnObjectSchemaEachCallAFreshMap", fn := fun _ => fun
  | [d1, d2, d3, d4] => { results := [.lit (.bool false)], args := [d1, d2, d3, d4] }
  | _ => none }
def FnObjectSchemaEachCallAFreshMapWrongFalsely : Prop := fnObjectSchemaEachCallAFreshMapRow.holds Trym.pinned (OpenSpec.ofChange fnObjectSchemaEachCallAFreshMapWrong)

end Rows
end Go.Proofs.Qxb6608700aMods
