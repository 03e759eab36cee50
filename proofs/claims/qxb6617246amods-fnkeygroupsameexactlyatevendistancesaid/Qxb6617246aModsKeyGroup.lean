import Derived.Test.Qxb6617246aModsRows
import Derived.WalkKit
import Derived.ProofKit
import Derived.OpenShut
import Derived.ShutString
import Derived.Laws.Bits128
namespace Go.Proofs.Qxb6617246aMods.Kg
open Go.ChangeShapes Go.WideShapes Go.ChangeAt Go.RowKit

theorem i64_and1 (n : Int) : bits .and .i64 n 1 = n % 2 := by
  have h1 : (BitVec.ofInt 64 1).toNat = 2 ^ 1 - 1 := by decide
  have key : (BitVec.ofInt 64 n &&& BitVec.ofInt 64 1).toNat = (n % ((2 ^ 64 : Nat) : Int)).toNat % 2 ^ 1 := by
    rw [BitVec.toNat_and, BitVec.toNat_ofInt, h1, Nat.and_two_pow_sub_one_eq_mod]
  show IntKind.i64.wrap ((BitVec.ofInt 64 n &&& BitVec.ofInt 64 1).toNat : Nat) = n % 2
  rw [key, IntKind.wrap_i64]
  omega

theorem tmod2 (n : Int) : (n.tmod 2 == 0) = (n % 2 == 0) := by
  rw [Bool.eq_iff_iff, beq_iff_eq, beq_iff_eq, ← Int.dvd_iff_tmod_eq_zero, Int.dvd_iff_emod_eq_zero]

/-- KeyGroup at an even level: G2. -/
theorem key_even (n : Int) (h : n % 2 = 0) (w : World) :
    Calls Trym.prog 6 #[.int .i64 n] w fun e w' => e = .returned (.int .u8 2) ∧ w' = w := by
  have ht : (n.tmod 2 == 0) = true := by rw [tmod2, h]; rfl
  clear h
  go_enter Trym.func6, Trym.ntmps6
  go_wp2
  go_ret
  exact ⟨rfl, rfl⟩

/-- KeyGroup at an odd level: G1. -/
theorem key_odd (n : Int) (h : n % 2 = 1) (w : World) :
    Calls Trym.prog 6 #[.int .i64 n] w fun e w' => e = .returned (.int .u8 1) ∧ w' = w := by
  have ht : (n.tmod 2 == 0) = false := by rw [tmod2, h]; rfl
  clear h
  go_enter Trym.func6, Trym.ntmps6
  go_wp2
  go_ret
  exact ⟨rfl, rfl⟩

/-- parityGroup at an even level: G2. -/
theorem par_even (n : Int) (h : n % 2 = 0) (w : World) :
    Calls Trym.prog 7 #[.int .i64 n] w fun e w' => e = .returned (.int .u8 2) ∧ w' = w := by
  have ht : (bits BinOp.and IntKind.i64 n 1 != 0) = false := by rw [i64_and1, h]; rfl
  clear h
  go_enter Trym.func7, Trym.ntmps7
  go_wp2
  go_ret
  exact ⟨rfl, rfl⟩

/-- parityGroup at an odd level: G1. -/
theorem par_odd (n : Int) (h : n % 2 = 1) (w : World) :
    Calls Trym.prog 7 #[.int .i64 n] w fun e w' => e = .returned (.int .u8 1) ∧ w' = w := by
  have ht : (bits BinOp.and IntKind.i64 n 1 != 0) = true := by rw [i64_and1, h]; rfl
  clear h
  go_enter Trym.func7, Trym.ntmps7
  go_wp2
  go_ret
  exact ⟨rfl, rfl⟩
end Go.Proofs.Qxb6617246aMods.Kg
