/-
  NARROWER THAN 'FOR EVERY INPUT', by the rows' own cells (each row's printed sentence says how): FnFsOfSwappedSignalsMirrorHalves: maps · FnSameFiguresOfFsOfMatchesReadings: maps.
  DERIVED. THE GIVEN ROWS OF THIS SEAT. 3 by the template 'for every input the law returns true; each argument reads behind the call as it read before'; 0 by the template 'total and deterministic' (their statements: Qxb6619270aModsTotals.lean).
  GIVEN WITH THE SEED: the statements are not yours to turn. If you find one false, say at which input.
  Laid BY PROGRAM, IN A SANDBOX (cutbox-rows.mjs): the forced cells as the released guide's own fill.sh prints them over the translation 709c73d52f819735… (all of the seat's roots in one cut). By AI agents, Wed Nov 11 2026. No macro, syntax, notation, axiom, sorry.
-/
import Derived.Test.Qxb6619270aModsChecked
import GoSem.Claim
import GoSem.ClaimJoined
import GoSem.ClaimMapViews
import Derived.JoinedTies
import Derived.KernelRfl
namespace Go.Proofs.Qxb6619270aMods
/- THE CELL 'sum', in the pinned program and in every row, IS THE sha256 OF THE DUMP (.gsa) THAT Qxb6619270aModsProg.lean LOADS. Nothing in Lean hashes anything: it is a label: what it is worth is what the hold of that sum in a sandbox is worth. -/
noncomputable def Trym.pinned : Pinned := { name := "qxb6619270amods", sum := "709c73d52f8197350d38b42483b6e915f69b9a9c93ec745ac47635fbc5cf8dd1", checked := Trym.checked }
namespace Rows
def none {H : Type} : Left H := { results := [], args := [] }

/-- 'zzlaws_snapshot_b1.FnFsOfSwappedSignalsMirrorHalves': WHATEVER THE INPUT: true; the input reads as it did. -/
def fnFsOfSwappedSignalsMirrorHalvesSpec : ChangeSpec := { name := "fnFsOfSwappedSignalsMirrorHalves", fn := fun _ => fun
  | [d1, d2, d3] => { results := [.lit (.bool true)], args := [d1, d2, d3] }
  | _ => none }
def fnFsOfSwappedSignalsMirrorHalvesRow : OpenClaim := { program := "qxb6619270amods", sum := "709c73d52f8197350d38b42483b6e915f69b9a9c93ec745ac47635fbc5cf8dd1", func := "example.com/ebbtide/ebbtide/zzlaws_snapshot_b1.FnFsOfSwappedSignalsMirrorHalves", spec := "fnFsOfSwappedSignalsMirrorHalves", maps := true, make := .lifted ["publicsums"], apart := false }
def FnFsOfSwappedSignalsMirrorHalvesSaid : Prop := fnFsOfSwappedSignalsMirrorHalvesRow.holds Trym.pinned (OpenSpec.ofChange fnFsOfSwappedSignalsMirrorHalvesSpec)

/-- ITS FALSE NEIGHBOUR: 'it returns false'. Refute it at one input. -/
def fnFsOfSwappedSignalsMirrorHalvesWrong : ChangeSpec := { name := "fnFsOfSwappedSignalsMirrorHalves", fn := fun _ => fun
  | [d1, d2, d3] => { results := [.lit (.bool false)], args := [d1, d2, d3] }
  | _ => none }
def FnFsOfSwappedSignalsMirrorHalvesWrongFalsely : Prop := fnFsOfSwappedSignalsMirrorHalvesRow.holds Trym.pinned (OpenSpec.ofChange fnFsOfSwappedSignalsMirrorHalvesWrong)

/-- 'zzlaws_snapshot_b1.FnSameFiguresOfFsOfMatchesReadings': WHATEVER THE INPUT: true; the input reads as it did. -/
def fnSameFiguresOfFsOfMatchesReadingsSpec : ChangeSpec := { name := "fnSameFiguresOfFsOfMatchesReadings", fn := fun _ => fun
  | [d1, d2, d3, d4, d5] => { results := [.lit (.bool true)], args := [d1, d2, d3, d4, d5] }
  | _ => none }
def fnSameFiguresOfFsOfMatchesReadingsRow : OpenClaim := { program := "qxb6619270amods", sum := "709c73d52f8197350d38b42483b6e915f69b9a9c93ec745ac47635fbc5cf8dd1", func := "example.com/ebbtide/ebbtide/zzlaws_snapshot_b1.FnSameFiguresOfFsOfMatchesReadings", spec := "fnSameFiguresOfFsOfMatchesReadings", unfollowed := true, recurses := true, maps := true, make := .lifted ["publicsums"], apart := false }
def FnSameFiguresOfFsOfMatchesReadingsSaid : Prop := fnSameFiguresOfFsOfMatchesReadingsRow.holds Trym.pinned (OpenSpec.ofChange fnSameFiguresOfFsOfMatchesReadingsSpec)

/-- ITS FALSE NEIGHBOUR: 'it returns false'. Refute it at one input. -/
def fnSameFiguresOfFsOfMatchesReadingsWrong : ChangeSpec := { name := "fnSameFiguresOfFsOfMatchesReadings", fn := fun _ => fun
  | [d1, d2, d3, d4, d5] => { results := [.lit (.bool false)], args := [d1, d2, d3, d4, d5] }
  | _ => none }
def FnSameFiguresOfFsOfMatchesReadingsWrongFalsely : Prop := fnSameFiguresOfFsOfMatchesReadingsRow.holds Trym.pinned (OpenSpec.ofChange fnSameFiguresOfFsOfMatchesReadingsWrong)

/-- 'zzlaws_snapshot_b1.FnSameFiguresReflexiveSymmetricSeesOneChange': WHATEVER THE INPUT: true; the input reads as it did. -/
def fnSameFiguresReflexiveSymmetricSeesOneChangeSpec : ChangeSpec := { name := "fnSameFiguresReflexiveSymmetricSeesOneChange", fn := fun _ => fun
  | [d1, d2, d3] => { results := [.lit (.bool true)], args := [d1, d2, d3] }
  | _ => none }
def fnSameFiguresReflexiveSymmetricSeesOneChangeRow : OpenClaim := { program := "qxb6619270amods", sum := "709c73d52f8197350d38b42483b6e915f69b9a9c93ec745ac47635fbc5cf8dd1", func := "example.com/ebbtide/ebbtide/zzlaws_snapshot_b1.FnSameFiguresReflexiveSymmetricSeesOneChange", spec := "fnSameFiguresReflexiveSymmetricSeesOneChange", unfollowed := true, recurses := true, make := .lifted ["publicsums"], apart := false }
def FnSameFiguresReflexiveSymmetricSeesOneChangeSaid : Prop := fnSameFiguresReflexiveSymmetricSeesOneChangeRow.holds Trym.pinned (OpenSpec.ofChange fnSameFiguresReflexiveSymmetricSeesOneChangeSpec)

/-- ITS FALSE NEIGHBOUR: 'it returns false'. Refute it at one input. -/
def fnSameFiguresReflexiveSymmetricSeesOneChangeWrong : ChangeSpec := { name := "fnSameFiguresReflexiveSymmetricSeesOneChange", fn := fun _ => fun
  | [d1, d2, d3] => { results := [.lit (.bool false)], args := [d1, d2, d3] }
  | _ => none }
def FnSameFiguresReflexiveSymmetricSeesOneChangeWrongFalsely : Prop := fnSameFiguresReflexiveSymmetricSeesOneChangeRow.holds Trym.pinned (OpenSpec.ofChange fnSameFiguresReflexiveSymmetricSeesOneChangeWrong)

end Rows
end Go.Proofs.Qxb6619270aMods
