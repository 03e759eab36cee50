import Derived.Test.Qxb6617270aModsPerm
import Derived.Test.Qxb6617270aModsBits
namespace Go.Proofs.Qxb6617270aMods.Ps
open Go.ChangeShapes Go.WideShapes Go.ChangeAt Go.RowKit

theorem letter_eq (b c : Bool) (x y : UInt8) (h : (x == y) = false) : ((if b then x else y) == (if c then x else y)) = (b == c) := by
  have h1 : x ≠ y := beq_eq_false_iff_ne.1 h
  cases b <;> cases c <;> simp [h1, Ne.symm h1]

theorem ps_eq (b0 b1 b2 b3 c0 c1 c2 c3 : Bool) : ((ps b0 b1 b2 b3).toList == (ps c0 c1 c2 c3).toList) = ((b0 == c0) && (b1 == c1) && (b2 == c2) && (b3 == c3)) := by
  rw [ByteArray.toList_eq, ByteArray.toList_eq]
  show ([_, _, _, _] == [_, _, _, _]) = _
  simp only [List.cons_beq_cons, letter_eq _ _ 114 45 rfl, letter_eq _ _ 119 45 rfl, letter_eq _ _ 120 45 rfl, letter_eq _ _ 115 112 rfl, Bool.and_assoc]
  simp

set_option maxHeartbeats 400000 in
theorem same_walk (p q : Int) (b0 b1 b2 b3 c0 c1 c2 c3 E : Bool) (hp : Bt.Has p b0 b1 b2 b3) (hq : Bt.Has q c0 c1 c2 c3) (sp : Bt.Shifts p b0 b1 b2 b3) (sq : Bt.Shifts q c0 c1 c2 c3)
    (hE : (bits BinOp.and IntKind.u8 p 15 == bits BinOp.and IntKind.u8 q 15) = E) (hF : ((b0 == c0) && (b1 == c1) && (b2 == c2) && (b3 == c3)) = E) (w : World) :
    Calls Trym.prog 3 #[.int .u8 p, .int .u8 q] w fun e w' => e = .returned (.bool true) ∧ Below w.heap.size w w' := by
  obtain ⟨hp0, hp1, hp2, hp3⟩ := hp
  obtain ⟨hq0, hq1, hq2, hq3⟩ := hq
  have hA := fun w => str_any p b0 b1 b2 b3 w hp0 hp1 hp2 hp3
  have hB := fun w => str_any q c0 c1 c2 c3 w hq0 hq1 hq2 hq3
  have HA : Hid (∀ w, Calls Trym.prog 5 #[.int .u8 p] w fun e w' => e = .returned (.string (ps b0 b1 b2 b3)) ∧ Below w.heap.size w w') := hA
  have HB : Hid (∀ w, Calls Trym.prog 5 #[.int .u8 q] w fun e w' => e = .returned (.string (ps c0 c1 c2 c3)) ∧ Below w.heap.size w w') := hB
  clear hA hB hp0 hp1 hp2 hp3 hq0 hq1 hq2 hq3
  have hsA := ps_shows b0 b1 b2 b3
  have hsB := ps_shows c0 c1 c2 c3
  have hS : ((ps b0 b1 b2 b3).toList == (ps c0 c1 c2 c3).toList) = E := by rw [ps_eq]; exact hF
  clear hF
  generalize ps b0 b1 b2 b3 = A at *
  generalize ps c0 c1 c2 c3 = B at *
  have hzA : A.size = 4 := hsA.1
  have hzB : B.size = 4 := hsB.1
  have TA : Hid (∀ w, Calls Trym.prog 6 #[.string A] w fun e w' => e = .returned (.int .i64 (cnt b0 b1 b2 b3 4)) ∧ Drawn w w') := fun w => count_any A b0 b1 b2 b3 hsA w
  have TB : Hid (∀ w, Calls Trym.prog 6 #[.string B] w fun e w' => e = .returned (.int .i64 (cnt c0 c1 c2 c3 4)) ∧ Drawn w w') := fun w => count_any B c0 c1 c2 c3 hsB w
  have PA : Hid (∀ w, Calls Trym.prog 7 #[.int .u8 p] w fun e w' => e = .returned (.int .i64 (cnt b0 b1 b2 b3 4)) ∧ w' = w) := fun w => pop_any p b0 b1 b2 b3 sp.1 sp.2.1 sp.2.2.1 sp.2.2.2 w
  have PB : Hid (∀ w, Calls Trym.prog 7 #[.int .u8 q] w fun e w' => e = .returned (.int .i64 (cnt c0 c1 c2 c3 4)) ∧ w' = w) := fun w => pop_any q c0 c1 c2 c3 sq.1 sq.2.1 sq.2.2.1 sq.2.2.2 w
  generalize cnt b0 b1 b2 b3 4 = x at *
  generalize cnt c0 c1 c2 c3 4 = y at *
  clear hsA hsB sp sq
  cases E
  all_goals
    go_enter Trym.func3, Trym.ntmps3
    go_wp2_with fail
    refine (HA.out _).mono ?_
    rintro e w1 ⟨rfl, k1⟩
    go_wp2_with fail
    refine (HB.out _).mono ?_
    rintro e w2 ⟨rfl, k2⟩
    go_wp2_with fail
    refine (TA.out _).mono ?_
    rintro e w3 ⟨rfl, k3⟩
    go_wp2_with fail
    refine (PA.out _).mono ?_
    rintro e w4 ⟨rfl, rfl⟩
    go_wp2_with fail
    refine (TB.out _).mono ?_
    rintro e w5 ⟨rfl, k5⟩
    go_wp2_with fail
    refine (PB.out _).mono ?_
    rintro e w6 ⟨rfl, rfl⟩
    go_wp2_with fail
    go_ret
    exact ⟨rfl, (k1.trans (k2.mono k1.size)).trans ((k3.below _).trans (k5.below _))⟩
end Go.Proofs.Qxb6617270aMods.Ps
