/-
  No cell of these rows narrows 'for every input' (looked for: loops, veiled, ifaces, maps, wideKeys, modest, calm, conditions, laid).
  DERIVED. THE GIVEN ROWS OF THIS SEAT. 1 by the template 'for every input the law returns true; each argument reads behind the call as it read before'; 0 by the template 'total and deterministic' (their statements: Qxb6609111aModsTotals.lean).
  GIVEN WITH THE SEED: the statements are not yours to turn. If you find one false, say at which input.
  Laid BY PROGRAM, IN A SANDBOX (cutbox-rows.mjs): the forced cells as the released guide's own fill.sh prints them over the translation c93c6658db4f9605… (all of the seat's roots in one cut). By AI agents, Wed Nov 11 2026. No macro, syntax, notation, axiom, sorry.
-/
import Derived.Test.Qxb6609111aModsChecked
import GoSem.Claim
import GoSem.ClaimJoined
import GoSem.ClaimMapViews
import Derived.JoinedTies
import Derived.KernelRfl
namespace Go.Proofs.Qxb6609111aMods
/- THE CELL 'sum', in the pinned program and in every row, IS THE sha256 OF THE DUMP (.gsa) THAT Qxb6609111aModsProg.lean LOADS. Nothing in Lean hashes anything: it is a label: what it is worth is what the hold of that sum in a sandbox is worth. -/
noncomputable def Trym.pinned : Pinned := { name := "qxb6609111amods", sum := "c93c6658db4f960566f76a7912709f56f406b85e3561e6890a2a525b4bd626dd", checked := Trym.checked }
namespace Rows
def none {H : Type} : Left H := { results := [], args := [] }

/-- 'zzlaws_pkg_store_b1.FnNameCharsAreBase64URLAlphabet': WHATEVER THE INPUT: true; the input reads as it did. -/
def fnNameCharsAreBase64URLAlphabetSpec : ChangeSpec := { name := "fnNameCharsAreBase64URLAlphabet", fn := fun _ => fun
  | [d] => { results := [.lit (.bool true)], args := [d] }
  | _ => none }
def fnNameCharsAreBase64URLAlphabetRow : OpenClaim := { program := "qxb6609111amods", sum := "c93c6658db4f960566f76a7912709f56f406b85e3561e6890a2a525b4bd626dd", func := "example.com/caddisfly/caddisfly/zzlaws_pkg_store_b1.FnNameCharsAreBase64URLAlphabet", spec := "fnNameCharsAreBase64URLAlphabet", make := .lifted ["publicsums"], apart := false }
def FnNameCharsAreBase64URLAlphabetSaid : Prop := fnNameCharsAreBase64URLAlphabetRow.holds Trym.pinned (OpenSpec.ofChange fnNameCharsAreBase64URLAlphabetSpec)

/-- ITS FALSE NEIGHBOUR: 'it returns false'. Refute it at one input. -/
def fnNameCharsAreBase64URLAlphabetWrong : ChangeSpec := { name := "fnNameCharsAreBase64URLAlphabet", fn := fun _ => fun
  | [d] => { results := [.lit (.bool false)], args := [d] }
  | _ => none }
def FnNameCharsAreBase64URLAlphabetWrongFalsely : Prop := fnNameCharsAreBase64URLAlphabetRow.holds Trym.pinned (OpenSpec.ofChange fnNameCharsAreBase64URLAlphabetWrong)

end Rows
end Go.Proofs.Qxb6609111aMods
