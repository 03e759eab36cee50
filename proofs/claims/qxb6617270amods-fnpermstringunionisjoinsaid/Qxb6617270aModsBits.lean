/- Plain facts on the bits of a byte: no Go text. -/
import Derived.Laws.BitsLemmas
namespace Go.Proofs.Qxb6617270aMods.Bt
open Go

theorem and_nat (a b : Nat) (ha : a < 256) (hb : b < 256) : bits BinOp.and IntKind.u8 (a : Int) (b : Int) = ((a &&& b : Nat) : Int) :=
  (bits_nat .u8 8 (by decide) wraps_u8 a b ha hb).1
theorem or_nat (a b : Nat) (ha : a < 256) (hb : b < 256) : bits BinOp.or IntKind.u8 (a : Int) (b : Int) = ((a ||| b : Nat) : Int) :=
  (bits_nat .u8 8 (by decide) wraps_u8 a b ha hb).2

theorem ne_cast (n : Nat) : ((n : Int) != 0) = (n != 0) := by
  rw [Bool.eq_iff_iff, bne_iff_ne, bne_iff_ne]; omega
theorem eq_cast (n m : Nat) : ((n : Int) == (m : Int)) = (n == m) := by
  rw [Bool.eq_iff_iff, beq_iff_eq, beq_iff_eq]; omega

theorem m1 : ∀ a, a < 256 → (a &&& 1 != 0) = a.testBit 0 := by decide +kernel
theorem m2 : ∀ a, a < 256 → (a &&& 2 != 0) = a.testBit 1 := by decide +kernel
theorem m4 : ∀ a, a < 256 → (a &&& 4 != 0) = a.testBit 2 := by decide +kernel
theorem m8 : ∀ a, a < 256 → (a &&& 8 != 0) = a.testBit 3 := by decide +kernel
theorem s1 : ∀ a, a < 256 → (a &&& 1 == 1) = a.testBit 0 := by decide +kernel
theorem s2 : ∀ a, a < 256 → (a / 2 &&& 1 == 1) = a.testBit 1 := by decide +kernel
theorem s4 : ∀ a, a < 256 → (a / 4 &&& 1 == 1) = a.testBit 2 := by decide +kernel
theorem s8 : ∀ a, a < 256 → (a / 8 &&& 1 == 1) = a.testBit 3 := by decide +kernel
theorem low : ∀ a, a < 256 → a &&& 15 = (a.testBit 0).toNat + 2 * (a.testBit 1).toNat + 4 * (a.testBit 2).toNat + 8 * (a.testBit 3).toNat := by decide +kernel

/-- The four tests that Perm.String makes, and the four that a shift makes, all at one: the four low bits. -/
def Has (p : Int) (b0 b1 b2 b3 : Bool) : Prop :=
  (bits BinOp.and IntKind.u8 p 1 != 0) = b0 ∧ (bits BinOp.and IntKind.u8 p 2 != 0) = b1 ∧ (bits BinOp.and IntKind.u8 p 4 != 0) = b2 ∧ (bits BinOp.and IntKind.u8 p 8 != 0) = b3
def Shifts (p : Int) (b0 b1 b2 b3 : Bool) : Prop :=
  (bits BinOp.and IntKind.u8 p 1 == 1) = b0 ∧ (bits BinOp.and IntKind.u8 (p / 2) 1 == 1) = b1 ∧ (bits BinOp.and IntKind.u8 (p / 4) 1 == 1) = b2 ∧ (bits BinOp.and IntKind.u8 (p / 8) 1 == 1) = b3

theorem has (a : Nat) (ha : a < 256) : Has (a : Int) (a.testBit 0) (a.testBit 1) (a.testBit 2) (a.testBit 3) := by
  refine ⟨?_, ?_, ?_, ?_⟩
  · rw [show (1 : Int) = ((1 : Nat) : Int) from rfl, and_nat a 1 ha (by decide), ne_cast, m1 a ha]
  · rw [show (2 : Int) = ((2 : Nat) : Int) from rfl, and_nat a 2 ha (by decide), ne_cast, m2 a ha]
  · rw [show (4 : Int) = ((4 : Nat) : Int) from rfl, and_nat a 4 ha (by decide), ne_cast, m4 a ha]
  · rw [show (8 : Int) = ((8 : Nat) : Int) from rfl, and_nat a 8 ha (by decide), ne_cast, m8 a ha]

theorem shifts (a : Nat) (ha : a < 256) : Shifts (a : Int) (a.testBit 0) (a.testBit 1) (a.testBit 2) (a.testBit 3) := by
  refine ⟨?_, ?_, ?_, ?_⟩
  · rw [show (1 : Int) = ((1 : Nat) : Int) from rfl, and_nat a 1 ha (by decide), eq_cast, s1 a ha]
  · rw [show ((a : Int) / 2) = ((a / 2 : Nat) : Int) from by omega, show (1 : Int) = ((1 : Nat) : Int) from rfl, and_nat (a / 2) 1 (by omega) (by decide), eq_cast, s2 a ha]
  · rw [show ((a : Int) / 4) = ((a / 4 : Nat) : Int) from by omega, show (1 : Int) = ((1 : Nat) : Int) from rfl, and_nat (a / 4) 1 (by omega) (by decide), eq_cast, s4 a ha]
  · rw [show ((a : Int) / 8) = ((a / 8 : Nat) : Int) from by omega, show (1 : Int) = ((1 : Nat) : Int) from rfl, and_nat (a / 8) 1 (by omega) (by decide), eq_cast, s8 a ha]

theorem has_or (a b : Nat) (ha : a < 256) (hb : b < 256) :
    Has (bits BinOp.or IntKind.u8 (a : Int) (b : Int)) (a.testBit 0 || b.testBit 0) (a.testBit 1 || b.testBit 1) (a.testBit 2 || b.testBit 2) (a.testBit 3 || b.testBit 3) := by
  rw [or_nat a b ha hb]
  have h := has (a ||| b) (Nat.or_lt_two_pow (n := 8) ha hb)
  simpa only [Nat.testBit_or] using h

theorem has_and (a b : Nat) (ha : a < 256) (hb : b < 256) :
    Has (bits BinOp.and IntKind.u8 (a : Int) (b : Int)) (a.testBit 0 && b.testBit 0) (a.testBit 1 && b.testBit 1) (a.testBit 2 && b.testBit 2) (a.testBit 3 && b.testBit 3) := by
  rw [and_nat a b ha hb]
  have h := has (a &&& b) (Nat.and_lt_two_pow (n := 8) _ hb)
  simpa only [Nat.testBit_and] using h

theorem low_eq (a b : Nat) (ha : a < 256) (hb : b < 256) :
    (bits BinOp.and IntKind.u8 (a : Int) 15 == bits BinOp.and IntKind.u8 (b : Int) 15) = ((a.testBit 0 == b.testBit 0) && (a.testBit 1 == b.testBit 1) && (a.testBit 2 == b.testBit 2) && (a.testBit 3 == b.testBit 3)) := by
  rw [show (15 : Int) = ((15 : Nat) : Int) from rfl, and_nat a 15 ha (by decide), and_nat b 15 hb (by decide), eq_cast, low a ha, low b hb]
  cases a.testBit 0 <;> cases a.testBit 1 <;> cases a.testBit 2 <;> cases a.testBit 3 <;> cases b.testBit 0 <;> cases b.testBit 1 <;> cases b.testBit 2 <;> cases b.testBit 3 <;> rfl
end Go.Proofs.Qxb6617270aMods.Bt
