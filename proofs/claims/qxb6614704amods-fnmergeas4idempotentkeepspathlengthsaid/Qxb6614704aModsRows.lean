/-
  No cell of these rows narrows 'for every input' (looked for: loops, veiled, ifaces, maps, wideKeys, modest, calm, conditions, laid).
  DERIVED. THE GIVEN ROWS OF THIS SEAT. 3 by the template 'for every input the law returns true; each argument reads behind the call as it read before'; 0 by the template 'total and deterministic' (their statements: Qxb6614704aModsTotals.lean).
  GIVEN WITH THE SEED: the statements are not yours to turn. If you find one false, say at which input.
  Laid BY PROGRAM, IN A SANDBOX (cutbox-rows.mjs): the forced cells as the released guide's own fill.sh prints them over the translation 00f95e8cf604bc66… (all of the seat's roots in one cut). By AI agents, Wed Nov 11 2026. No macro, syntax, notation, axiom, sorry.
-/
import Derived.Test.Qxb6614704aModsChecked
import GoSem.Claim
import GoSem.ClaimJoined
import GoSem.ClaimMapViews
import Derived.JoinedTies
import Derived.KernelRfl
namespace Go.Proofs.Qxb6614704aMods
/- THE CELL 'sum', in the pinned program and in every row, IS THE sha256 OF THE DUMP (.gsa) THAT Qxb6614704aModsProg.lean LOADS. Nothing in Lean hashes anything: it is a label: what it is worth is what the hold of that sum in a sandbox is worth. -/
noncomputable def Trym.pinned : Pinned := { name := "qxb6614704amods", sum := "00f95e8cf604bc66d4c9814990c175e299c5430b102a8124474d54b831876ebf", checked := Trym.checked }
namespace Rows
def none {H : Type} : Left H := { results := [], args := [] }

/-- 'zzlaws_pkg_bgp_b1.FnFailedCutAndStrongestApproach': WHATEVER THE INPUT: true; the input reads as it did. -/
def fnFailedCutAndStrongestApproachSpec : ChangeSpec := { name := "fnFailedCutAndStrongestApproach", fn := fun _ => fun
  | [d1, d2, d3, d4] => { results := [.lit (.bool true)], args := [d1, d2, d3, d4] }
  | _ => none }
def fnFailedCutAndStrongestApproachRow : OpenClaim := { program := "qxb6614704amods", sum := "00f95e8cf604bc66d4c9814990c175e299c5430b102a8124474d54b831876ebf", func := "example.com/routewright/routewright/zzlaws_pkg_bgp_b1.FnFailedCutAndStrongestApproach", spec := "fnFailedCutAndStrongestApproach", make := .lifted ["publicsums"], apart := false }
def FnFailedCutAndStrongestApproachSaid : Prop := fnFailedCutAndStrongestApproachRow.holds Trym.pinned (OpenSpec.ofChange fnFailedCutAndStrongestApproachSpec)

/-- ITS FALSE NEIGHBOUR: 'it returns false'. Refute it at one input. -/
def fnFailedCutAndStrongestApproachWrong : ChangeSpec := { name := "fnFailedCutAndStrongestApproach", fn := fun _ => fun
  | [d1, d2, d3, d4] => { results := [.lit (.bool false)], args := [d1, d2, d3, d4] }
  | _ => none }
def FnFailedCutAndStrongestApproachWrongFalsely : Prop := fnFailedCutAndStrongestApproachRow.holds Trym.pinned (OpenSpec.ofChange fnFailedCutAndStrongestApproachWrong)

/-- 'zzlaws_pkg_bgp_b1.FnMergeAS4MatchesRFC6793': WHATEVER THE INPUT: true; the input reads as it did. -/
def fnMergeAS4MatchesRFC6793Spec : ChangeSpec := { name := "fnMergeAS4MatchesRFC6793", fn := fun _ => fun
  | [d1, d2, d3, d4, d5, d6, d7, d8, d9] => { results := [.lit (.bool true)], args := [d1, d2, d3, d4, d5, d6, d7, d8, d9] }
  | _ => none }
def fnMergeAS4MatchesRFC6793Row : OpenClaim := { program := "qxb6614704amods", sum := "00f95e8cf604bc66d4c9814990c175e299c5430b102a8124474d54b831876ebf", func := "example.com/routewright/routewright/zzlaws_pkg_bgp_b1.FnMergeAS4MatchesRFC6793", spec := "fnMergeAS4MatchesRFC6793", make := .lifted ["publicsums"], apart := false }
def FnMergeAS4MatchesRFC6793Said : Prop := fnMergeAS4MatchesRFC6793Row.holds Trym.pinned (OpenSpec.ofChange fnMergeAS4MatchesRFC6793Spec)

/-- ITS FALSE NEIGHBOUR: 'it returns false'. Refute it at one input. -/
def fnMergeAS4MatchesRFC6793Wrong : ChangeSpec := { name := "fnMergeAS4MatchesRFC6793", fn := fun _ => fun
  | [d1, d2, d3, d4, d5, d6, d7, d8, d9] => { results := [.lit (.bool false)], args := [d1, d2, d3, d4, d5, d6, d7, d8, d9] }
  | _ => none }
def FnMergeAS4MatchesRFC6793WrongFalsely : Prop := fnMergeAS4MatchesRFC6793Row.holds Trym.pinned (OpenSpec.ofChange fnMergeAS4MatchesRFC6793Wrong)

/-- 'zzlaws_pkg_bgp_b1.FnMergeAS4IdempotentKeepsPathLength': WHATEVER THE INPUT: true; the input reads as it did. -/
def fnMergeAS4IdempotentKeepsPathLengthSpec : ChangeSpec := { name := "fnMergeAS4IdempotentKeepsPathLength", fn := fun _ => fun
  | [d1, d2, d3, d4, d5, d6, d7, d8, d9] => { results := [.lit (.bool true)], args := [d1, d2, d3, d4, d5, d6, d7, d8, d9] }
  | _ => none }
def fnMergeAS4IdempotentKeepsPathLengthRow : OpenClaim := { program := "qxb6614704amods", sum := "00f95e8cf604bc66d4c9814990c175e299c5430b102a8124474d54b831876ebf", func := "example.com/routewright/routewright/zzlaws_pkg_bgp_b1.FnMergeAS4IdempotentKeepsPathLength", spec := "fnMergeAS4IdempotentKeepsPathLength", make := .lifted ["publicsums"], apart := false }
def FnMergeAS4IdempotentKeepsPathLengthSaid : Prop := fnMergeAS4IdempotentKeepsPathLengthRow.holds Trym.pinned (OpenSpec.ofChange fnMergeAS4IdempotentKeepsPathLengthSpec)

/-- ITS FALSE NEIGHBOUR: 'it returns false'. Refute it at one input. -/
def fnMergeAS4IdempotentKeepsPathLengthWrong : ChangeSpec := { name := "fnMergeAS4IdempotentKeepsPathLength", fn := fun _ => fun
  | [d1, d2, d3, d4, d5, d6, d7, d8, d9] => { results := [.lit (.bool false)], args := [d1, d2, d3, d4, d5, d6, d7, d8, d9] }
  | _ => none }
def FnMergeAS4IdempotentKeepsPathLengthWrongFalsely : Prop := fnMergeAS4IdempotentKeepsPathLengthRow.holds Trym.pinned (OpenSpec.ofChange fnMergeAS4IdempotentKeepsPathLengthWrong)

end Rows
end Go.Proofs.Qxb6614704aMods
