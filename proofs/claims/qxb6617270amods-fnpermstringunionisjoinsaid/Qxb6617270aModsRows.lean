/-
  No cell of these rows narrows 'for every input' (looked for: loops, veiled, ifaces, maps, wideKeys, modest, calm, conditions, laid).
  DERIVED. THE GIVEN ROWS OF THIS SEAT. 2 by the template 'for every input the law returns true; each argument reads behind the call as it read before'; 0 by the template 'total and deterministic' (their statements: Qxb6617270aModsTotals.lean).
  GIVEN WITH THE SEED: the statements are not yours to turn. If you find one false, say at which input.
  Laid BY PROGRAM, IN A SANDBOX (cutbox-rows.mjs): the forced cells as the released guide's own fill.sh prints them over the translation 380e183f992e3167… (all of the seat's roots in one cut). By AI agents, Wed Nov 11 2026. No macro, syntax, notation, axiom, sorry.
-/
import Derived.Test.Qxb6617270aModsChecked
import GoSem.Claim
import GoSem.ClaimJoined
import GoSem.ClaimMapViews
import Derived.JoinedTies
import Derived.KernelRfl
namespace Go.Proofs.Qxb6617270aMods
/- THE CELL 'sum', in the pinned program and in every row, IS THE sha256 OF THE DUMP (.gsa) THAT Qxb6617270aModsProg.lean LOADS. Nothing in Lean hashes anything: it is a label: what it is worth is what the hold of that sum in a sandbox is worth. -/
noncomputable def Trym.pinned : Pinned := { name := "qxb6617270amods", sum := "380e183f992e31670fec8aca07d55f663fcb1f24fc31668e536f80abab04f66e", checked := Trym.checked }
namespace Rows
def none {H : Type} : Left H := { results := [], args := [] }

/-- 'zzlaws_internal_procfs_b1.FnPermStringSameExactlyOnLowBits': WHATEVER THE INPUT: true; the input reads as it did. -/
def fnPermStringSameExactlyOnLowBitsSpec : ChangeSpec := { name := "fnPermStringSameExactlyOnLowBits", fn := fun _ => fun
  | [d1, d2] => { results := [.lit (.bool true)], args := [d1, d2] }
  | _ => none }
def fnPermStringSameExactlyOnLowBitsRow : OpenClaim := { program := "qxb6617270amods", sum := "380e183f992e31670fec8aca07d55f663fcb1f24fc31668e536f80abab04f66e", func := "example.com/tallyhook/tallyhook/zzlaws_internal_procfs_b1.FnPermStringSameExactlyOnLowBits", spec := "fnPermStringSameExactlyOnLowBits", make := .lifted ["publicsums"], apart := false }
def FnPermStringSameExactlyOnLowBitsSaid : Prop := fnPermStringSameExactlyOnLowBitsRow.holds Trym.pinned (OpenSpec.ofChange fnPermStringSameExactlyOnLowBitsSpec)

/-- ITS FALSE NEIGHBOUR: 'it returns false'. Refute it at one input. -/
def fnPermStringSameExactlyOnLowBitsWrong : ChangeSpec := { name := "fnPermStringSameExactlyOnLowBits", fn := fun _ => fun
  | [d1, d2] => { results := [.lit (.bool false)], args := [d1, d2] }
  | _ => none }
def FnPermStringSameExactlyOnLowBitsWrongFalsely : Prop := fnPermStringSameExactlyOnLowBitsRow.holds Trym.pinned (OpenSpec.ofChange fnPermStringSameExactlyOnLowBitsWrong)

/-- 'zzlaws_internal_procfs_b1.FnPermStringUnionIsJoin': WHATEVER THE INPUT: true; the input reads as it did. -/
def fnPermStringUnionIsJoinSpec : ChangeSpec := { name := "fnPermStringUnionIsJoin", fn := fun _ => fun
  | [d1, d2] => { results := [.lit (.bool true)], args := [d1, d2] }
  | _ => none }
def fnPermStringUnionIsJoinRow : OpenClaim := { program := "qxb6617270amods", sum := "380e183f992e31670fec8aca07d55f663fcb1f24fc31668e536f80abab04f66e", func := "example.com/tallyhook/tallyhook/zzlaws_internal_procfs_b1.FnPermStringUnionIsJoin", spec := "fnPermStringUnionIsJoin", make := .lifted ["publicsums"], apart := false }
def FnPermStringUnionIsJoinSaid : Prop := fnPermStringUnionIsJoinRow.holds Trym.pinned (OpenSpec.ofChange fnPermStringUnionIsJoinSpec)

/-- ITS FALSE NEIGHBOUR: 'it returns false'. Refute it at one input. -/
def fnPermStringUnionIsJoinWrong : ChangeSpec := { name := "fnPermStringUnionIsJoin", fn := fun _ => fun
  | [d1, d2] => { results := [.lit (.bool false)], args := [d1, d2] }
  | _ => none }
def FnPermStringUnionIsJoinWrongFalsely : Prop := fnPermStringUnionIsJoinRow.holds Trym.pinned (OpenSpec.ofChange fnPermStringUnionIsJoinWrong)

end Rows
end Go.Proofs.Qxb6617270aMods
