/-
  No cell of these rows narrows 'for every input' (looked for: loops, veiled, ifaces, maps, wideKeys, modest, calm, conditions, laid).
  DERIVED. THE GIVEN ROWS OF THIS SEAT. 3 by the template 'for every input the law returns true; each argument reads behind the call as it read before'; 0 by the template 'total and deterministic' (their statements: Qxb6617246aModsTotals.lean).
  GIVEN WITH THE SEED: the statements are not yours to turn. If you find one false, say at which input.
  Laid BY PROGRAM, IN A SANDBOX (cutbox-rows.mjs): the forced cells as the released guide's own fill.sh prints them over the translation 34e6bff7b4fdbbab… (all of the seat's roots in one cut). By AI agents, Wed Nov 11 2026. No macro, syntax, notation, axiom, sorry.
-/
import Derived.Test.Qxb6617246aModsChecked
import GoSem.Claim
import GoSem.ClaimJoined
import GoSem.ClaimMapViews
import Derived.JoinedTies
import Derived.KernelRfl
namespace Go.Proofs.Qxb6617246aMods
/- THE CELL 'sum', in the pinned program and in every row, IS THE sha256 OF THE DUMP (.gsa) THAT Qxb6617246aModsProg.lean LOADS. Nothing in Lean hashes anything: it is a label: what it is worth is what the hold of that sum in a sandbox is worth. -/
noncomputable def Trym.pinned : Pinned := { name := "qxb6617246amods", sum := "34e6bff7b4fdbbab11705a9f41d153030b39f2b3ab7918539cc44aaf5f8a1504", checked := Trym.checked }
namespace Rows
def none {H : Type} : Left H := { results := [], args := [] }

/-- 'zzlaws_root_b1.FnKeyGroupAlternatesByLevel': WHATEVER THE INPUT: true; the input reads as it did. -/
def fnKeyGroupAlternatesByLevelSpec : ChangeSpec := { name := "fnKeyGroupAlternatesByLevel", fn := fun _ => fun
  | [d] => { results := [.lit (.bool true)], args := [d] }
  | _ => none }
def fnKeyGroupAlternatesByLevelRow : OpenClaim := { program := "qxb6617246amods", sum := "34e6bff7b4fdbbab11705a9f41d153030b39f2b3ab7918539cc44aaf5f8a1504", func := "example.com/veilcred/veilcred/zzlaws_root_b1.FnKeyGroupAlternatesByLevel", spec := "fnKeyGroupAlternatesByLevel", make := .lifted ["publicsums"], apart := false }
def FnKeyGroupAlternatesByLevelSaid : Prop := fnKeyGroupAlternatesByLevelRow.holds Trym.pinned (OpenSpec.ofChange fnKeyGroupAlternatesByLevelSpec)

/-- ITS FALSE NEIGHBOUR: 'it returns false'. Refute it at one input. -/
def fnKeyGroupAlternatesByLevelWrong : ChangeSpec := { name := "fnKeyGroupAlternatesByLevel", fn := fun _ => fun
  | [d] => { results := [.lit (.bool false)], args := [d] }
  | _ => none }
def FnKeyGroupAlternatesByLevelWrongFalsely : Prop := fnKeyGroupAlternatesByLevelRow.holds Trym.pinned (OpenSpec.ofChange fnKeyGroupAlternatesByLevelWrong)

/-- 'zzlaws_root_b1.FnKeyGroupSameExactlyAtEvenDistance': WHATEVER THE INPUT: true; the input reads as it did. -/
def fnKeyGroupSameExactlyAtEvenDistanceSpec : ChangeSpec := { name := "fnKeyGroupSameExactlyAtEvenDistance", fn := fun _ => fun
  | [d1, d2] => { results := [.lit (.bool true)], args := [d1, d2] }
  | _ => none }
def fnKeyGroupSameExactlyAtEvenDistanceRow : OpenClaim := { program := "qxb6617246amods", sum := "34e6bff7b4fdbbab11705a9f41d153030b39f2b3ab7918539cc44aaf5f8a1504", func := "example.com/veilcred/veilcred/zzlaws_root_b1.FnKeyGroupSameExactlyAtEvenDistance", spec := "fnKeyGroupSameExactlyAtEvenDistance", make := .lifted ["publicsums"], apart := false }
def FnKeyGroupSameExactlyAtEvenDistanceSaid : Prop := fnKeyGroupSameExactlyAtEvenDistanceRow.holds Trym.pinned (OpenSpec.ofChange fnKeyGroupSameExactlyAtEvenDistanceSpec)

/-- ITS FALSE NEIGHBOUR: 'it returns false'. Refute it at one input. -/
def fnKeyGroupSameExactlyAtEvenDistanceWrong : ChangeSpec := { name := "fnKeyGroupSameExactlyAtEvenDistance", fn := fun _ => fun
  | [d1, d2] => { results := [.lit (.bool false)], args := [d1, d2] }
  | _ => none }
def FnKeyGroupSameExactlyAtEvenDistanceWrongFalsely : Prop := fnKeyGroupSameExactlyAtEvenDistanceRow.holds Trym.pinned (OpenSpec.ofChange fnKeyGroupSameExactlyAtEvenDistanceWrong)

/-- 'zzlaws_root_b1.FnDomainTagInGivesFreshBytes': WHATEVER THE INPUT: true; the input reads as it did. -/
def fnDomainTagInGivesFreshBytesSpec : ChangeSpec := { name := "fnDomainTagInGivesFreshBytes", fn := fun _ => fun
  | [d1, d2, d3] => { results := [.lit (.bool true)], args := [d1, d2, d3] }
  | _ => none }
def fnDomainTagInGivesFreshBytesRow : OpenClaim := { program := "qxb6617246amods", sum := "34e6bff7b4fdbbab11705a9f41d153030b39f2b3ab7918539cc44aaf5f8a1504", func := "example.com/veilcred/veilcred/zzlaws_root_b1.FnDomainTagInGivesFreshBytes", spec := "fnDomainTagInGivesFreshBytes", make := .lifted ["publicsums"], apart := false }
def FnDomainTagInGivesFreshBytesSaid : Prop := fnDomainTagInGivesFreshBytesRow.holds Trym.pinned (OpenSpec.ofChange fnDomainTagInGivesFreshBytesSpec)

/-- ITS FALSE NEIGHBOUR: 'it returns false'. Refute it at one input. -/
def fnDomainTagInGivesFreshBytesWrong : ChangeSpec := { name := "fnDomainTagInGivesFreshBytes", fn := fun _ => fun
  | [d1, d2, d3] => { results := [.lit (.bool false)], args := [d1, d2, d3] }
  | _ => none }
def FnDomainTagInGivesFreshBytesWrongFalsely : Prop := fnDomainTagInGivesFreshBytesRow.holds Trym.pinned (OpenSpec.ofChange fnDomainTagInGivesFreshBytesWrong)

end Rows
end Go.Proofs.Qxb6617246aMods
