/-
  No cell of these rows narrows 'for every input' (looked for: loops, veiled, ifaces, maps, wideKeys, modest, calm, conditions, laid).
  DERIVED. THE GIVEN ROWS OF THIS SEAT. 3 by the template 'for every input the law returns true; each argument reads behind the call as it read before'; 0 by the template 'total and deterministic' (their statements: Qxb6614692aModsTotals.lean).
  GIVEN WITH THE SEED: the statements are not yours to turn. If you find one false, say at which input.
  Laid BY PROGRAM, IN A SANDBOX (cutbox-rows.mjs): the forced cells as the released guide's own fill.sh prints them over the translation 24e79ddee5783edc… (all of the seat's roots in one cut). By AI agents, Wed Nov 11 2026. No macro, syntax, notation, axiom, sorry.
-/
import Derived.Test.Qxb6614692aModsChecked
import GoSem.Claim
import GoSem.ClaimJoined
import GoSem.ClaimMapViews
import Derived.JoinedTies
import Derived.KernelRfl
namespace Go.Proofs.Qxb6614692aMods
/- THE CELL 'sum', in the pinned program and in every row, IS THE sha256 OF THE DUMP (.gsa) THAT Qxb6614692aModsProg.lean LOADS. Nothing in Lean hashes anything: it is a label: what it is worth is what the hold of that sum in a sandbox is worth. -/
noncomputable def Trym.pinned : Pinned := { name := "qxb6614692amods", sum := "24e79ddee5783edc9726f897e1b8c30463a924042b0a5eb4826afb370f7af59a", checked := Trym.checked }
namespace Rows
def none {H : Type} : Left H := { results := [], args := [] }

/-- 'zzlaws_pkg_broker_b1.FnDueForgettableBytesShiftSizeAndReleased': WHATEVER THE INPUT: true; the input reads as it did. -/
def fnDueForgettableBytesShiftSizeAndReleasedSpec : ChangeSpec := { name := "fnDueForgettableBytesShiftSizeAndReleased", fn := fun _ => fun
  | [d1, d2, d3, d4, d5, d6, d7] => { results := [.lit (.bool true)], args := [d1, d2, d3, d4, d5, d6, d7] }
  | _ => none }
def fnDueForgettableBytesShiftSizeAndReleasedRow : OpenClaim := { program := "qxb6614692amods", sum := "24e79ddee5783edc9726f897e1b8c30463a924042b0a5eb4826afb370f7af59a", func := "example.com/halfmark/halfmark/zzlaws_pkg_broker_b1.FnDueForgettableBytesShiftSizeAndReleased", spec := "fnDueForgettableBytesShiftSizeAndReleased", unfollowed := true, recurses := true, make := .lifted ["publicsums"], apart := false }
def FnDueForgettableBytesShiftSizeAndReleasedSaid : Prop := fnDueForgettableBytesShiftSizeAndReleasedRow.holds Trym.pinned (OpenSpec.ofChange fnDueForgettableBytesShiftSizeAndReleasedSpec)

/-- ITS FALSE NEIGHBOUR: 'it returns false'. Refute it at one input. -/
def fnDueForgettableBytesShiftSizeAndReleasedWrong : ChangeSpec := { name := "fnDueForgettableBytesShiftSizeAndReleased", fn := fun _ => fun
  | [d1, d2, d3, d4, d5, d6, d7] => { results := [.lit (.bool false)], args := [d1, d2, d3, d4, d5, d6, d7] }
  | _ => none }
def FnDueForgettableBytesShiftSizeAndReleasedWrongFalsely : Prop := fnDueForgettableBytesShiftSizeAndReleasedRow.holds Trym.pinned (OpenSpec.ofChange fnDueForgettableBytesShiftSizeAndReleasedWrong)

/-- 'zzlaws_pkg_broker_b1.FnCompensateFromWalksCompensationsDownToTheEnd': WHATEVER THE INPUT: true; the input reads as it did. -/
def fnCompensateFromWalksCompensationsDownToTheEndSpec : ChangeSpec := { name := "fnCompensateFromWalksCompensationsDownToTheEnd", fn := fun _ => fun
  | [d1, d2, d3, d4, d5, d6, d7, d8] => { results := [.lit (.bool true)], args := [d1, d2, d3, d4, d5, d6, d7, d8] }
  | _ => none }
def fnCompensateFromWalksCompensationsDownToTheEndRow : OpenClaim := { program := "qxb6614692amods", sum := "24e79ddee5783edc9726f897e1b8c30463a924042b0a5eb4826afb370f7af59a", func := "example.com/halfmark/halfmark/zzlaws_pkg_broker_b1.FnCompensateFromWalksCompensationsDownToTheEnd", spec := "fnCompensateFromWalksCompensationsDownToTheEnd", make := .lifted ["publicsums"], apart := false }
def FnCompensateFromWalksCompensationsDownToTheEndSaid : Prop := fnCompensateFromWalksCompensationsDownToTheEndRow.holds Trym.pinned (OpenSpec.ofChange fnCompensateFromWalksCompensationsDownToTheEndSpec)

/-- ITS FALSE NEIGHBOUR: 'it returns false'. Refute it at one input. -/
def fnCompensateFromWalksCompensationsDownToTheEndWrong : ChangeSpec := { name := "fnCompensateFromWalksCompensationsDownToTheEnd", fn := fun _ => fun
  | [d1, d2, d3, d4, d5, d6, d7, d8] => { results := [.lit (.bool false)], args := [d1, d2, d3, d4, d5, d6, d7, d8] }
  | _ => none }
def FnCompensateFromWalksCompensationsDownToTheEndWrongFalsely : Prop := fnCompensateFromWalksCompensationsDownToTheEndRow.holds Trym.pinned (OpenSpec.ofChange fnCompensateFromWalksCompensationsDownToTheEndWrong)

/-- 'zzlaws_pkg_broker_b1.FnCompensateFromAgainChangesNothing': WHATEVER THE INPUT: true; the input reads as it did. -/
def fnCompensateFromAgainChangesNothingSpec : ChangeSpec := { name := "fnCompensateFromAgainChangesNothing", fn := fun _ => fun
  | [d1, d2, d3, d4, d5, d6, d7, d8, d9] => { results := [.lit (.bool true)], args := [d1, d2, d3, d4, d5, d6, d7, d8, d9] }
  | _ => none }
def fnCompensateFromAgainChangesNothingRow : OpenClaim := { program := "qxb6614692amods", sum := "24e79ddee5783edc9726f897e1b8c30463a924042b0a5eb4826afb370f7af59a", func := "example.com/halfmark/halfmark/zzlaws_pkg_broker_b1.FnCompensateFromAgainChangesNothing", spec := "fnCompensateFromAgainChangesNothing", make := .lifted ["publicsums"], apart := false }
def FnCompensateFromAgainChangesNothingSaid : Prop := fnCompensateFromAgainChangesNothingRow.holds Trym.pinned (OpenSpec.ofChange fnCompensateFromAgainChangesNothingSpec)

/-- ITS FALSE NEIGHBOUR: 'it returns false'. Refute it at one input. -/
def fnCompensateFromAgainChangesNothingWrong : ChangeSpec := { name := "fnCompensateFromAgainChangesNothing", fn := fun _ => fun
  | [d1, d2, d3, d4, d5, d6, d7, d8, d9] => { results := [.lit (.bool false)], args := [d1, d2, d3, d4, d5, d6, d7, d8, d9] }
  | _ => none }
def FnCompensateFromAgainChangesNothingWrongFalsely : Prop := fnCompensateFromAgainChangesNothingRow.holds Trym.pinned (OpenSpec.ofChange fnCompensateFromAgainChangesNothingWrong)

end Rows
end Go.Proofs.Qxb6614692aMods
