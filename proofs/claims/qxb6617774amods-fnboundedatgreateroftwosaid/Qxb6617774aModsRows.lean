/-
  No cell of these rows narrows 'for every input' (looked for: loops, veiled, ifaces, maps, wideKeys, modest, calm, conditions, laid).
  DERIVED. THE GIVEN ROWS OF THIS SEAT. 2 by the template 'for every input the law returns true; each argument reads behind the call as it read before'; 0 by the template 'total and deterministic' (their statements: Qxb6617774aModsTotals.lean).
  GIVEN WITH THE SEED: the statements are not yours to turn. If you find one false, say at which input.
  Laid BY PROGRAM, IN A SANDBOX (cutbox-rows.mjs): the forced cells as the released guide's own fill.sh prints them over the translation 26aa2a5477ae421d… (all of the seat's roots in one cut). By AI agents, Wed Nov 11 2026. No macro, syntax, notation, axiom, sorry.
-/
import Derived.Test.Qxb6617774aModsChecked
import GoSem.Claim
import GoSem.ClaimJoined
import GoSem.ClaimMapViews
import Derived.JoinedTies
import Derived.KernelRfl
namespace Go.Proofs.Qxb6617774aMods
/- THE CELL 'sum', in the pinned program and in every row, IS THE sha256 OF THE DUMP (.gsa) THAT Qxb6617774aModsProg.lean LOADS. Nothing in Lean hashes anything: it is a label: what it is worth is what the hold of that sum in a sandbox is worth. -/
noncomputable def Trym.pinned : Pinned := { name := "qxb6617774amods", sum := "26aa2a5477ae421d0f1a1183cdcff76268d48253faf3622d73766eedf760c0a7", checked := Trym.checked }
namespace Rows
def none {H : Type} : Left H := { results := [], args := [] }

/-- 'zzlaws_host_b1.FnBoundedClampsToGreatestFitting': WHATEVER THE INPUT: true; the input reads as it did. -/
def fnBoundedClampsToGreatestFittingSpec : ChangeSpec := { name := "fnBoundedClampsToGreatestFitting", fn := fun _ => fun
  | [d1, d2] => { results := [.lit (.bool true)], args := [d1, d2] }
  | _ => none }
def fnBoundedClampsToGreatestFittingRow : OpenClaim := { program := "qxb6617774amods", sum := "26aa2a5477ae421d0f1a1183cdcff76268d48253faf3622d73766eedf760c0a7", func := "example.com/mooring/mooring/zzlaws_host_b1.FnBoundedClampsToGreatestFitting", spec := "fnBoundedClampsToGreatestFitting", make := .lifted ["publicsums"], apart := false }
def FnBoundedClampsToGreatestFittingSaid : Prop := fnBoundedClampsToGreatestFittingRow.holds Trym.pinned (OpenSpec.ofChange fnBoundedClampsToGreatestFittingSpec)

/-- ITS FALSE NEIGHBOUR: 'it returns false'. Refute it at one input. -/
def fnBoundedClampsToGreatestFittingWrong : ChangeSpec := { name := "fnBoundedClampsToGreatestFitting", fn := fun _ => fun
  | [d1, d2] => { results := [.lit (.bool false)], args := [d1, d2] }
  | _ => none }
def FnBoundedClampsToGreatestFittingWrongFalsely : Prop := fnBoundedClampsToGreatestFittingRow.holds Trym.pinned (OpenSpec.ofChange fnBoundedClampsToGreatestFittingWrong)

/-- 'zzlaws_host_b1.FnBoundedAtGreaterOfTwo': WHATEVER THE INPUT: true; the input reads as it did. -/
def fnBoundedAtGreaterOfTwoSpec : ChangeSpec := { name := "fnBoundedAtGreaterOfTwo", fn := fun _ => fun
  | [d1, d2, d3, d4] => { results := [.lit (.bool true)], args := [d1, d2, d3, d4] }
  | _ => none }
def fnBoundedAtGreaterOfTwoRow : OpenClaim := { program := "qxb6617774amods", sum := "26aa2a5477ae421d0f1a1183cdcff76268d48253faf3622d73766eedf760c0a7", func := "example.com/mooring/mooring/zzlaws_host_b1.FnBoundedAtGreaterOfTwo", spec := "fnBoundedAtGreaterOfTwo", make := .lifted ["publicsums"], apart := false }
def FnBoundedAtGreaterOfTwoSaid : Prop := fnBoundedAtGreaterOfTwoRow.holds Trym.pinned (OpenSpec.ofChange fnBoundedAtGreaterOfTwoSpec)

/-- ITS FALSE NEIGHBOUR: 'it returns false'. Refute it at one input. -/
def fnBoundedAtGreaterOfTwoWrong : ChangeSpec := { name := "fnBoundedAtGreaterOfTwo", fn := fun _ => fun
  | [d1, d2, d3, d4] => { results := [.lit (.bool false)], args := [d1, d2, d3, d4] }
  | _ => none }
def FnBoundedAtGreaterOfTwoWrongFalsely : Prop := fnBoundedAtGreaterOfTwoRow.holds Trym.pinned (OpenSpec.ofChange fnBoundedAtGreaterOfTwoWrong)

end Rows
end Go.Proofs.Qxb6617774aMods
