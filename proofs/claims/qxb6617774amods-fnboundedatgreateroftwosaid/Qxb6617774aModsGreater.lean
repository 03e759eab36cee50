import Derived.Test.Qxb6617774aModsBounded
namespace Go.Proofs.Qxb6617774aMods.Bd
open Go.ChangeShapes Go.WideShapes Go.ChangeAt Go.RowKit
set_option linter.unusedVariables false

/-- The greater of two. -/
def mx (a b : Int) : Int := if b ≤ a then a else b
theorem mx_any (a b : Int) (w : World) :
    Calls Trym.prog 7 #[.int .i64 a, .int .i64 b] w fun e w' => e = .returned (.int .i64 (mx a b)) ∧ w' = w := by
  by_cases h : b ≤ a
  · rw [show mx a b = a from if_pos h]
    go_enter Trym.func7, Trym.ntmps7
    go_wp2
    go_ret
    exact ⟨rfl, rfl⟩
  · rw [show mx a b = b from if_neg h]
    have h' : decide (b ≤ a) = false := by simpa using h
    clear h
    go_enter Trym.func7, Trym.ntmps7
    go_wp2
    go_ret
    exact ⟨rfl, rfl⟩
theorem mx_left (a b : Int) : a ≤ mx a b := by unfold mx; split <;> omega
theorem mx_right (a b : Int) : b ≤ mx a b := by unfold mx; split <;> omega
theorem mx_small (a b : Int) (ha : a < 1) (hb : b < 1) : mx a b < 1 := by unfold mx; split <;> omega
theorem mn_bound (x : Int) : mn x ≤ 1000 := by unfold mn; split <;> omega
theorem mn_mx (a b : Int) : mn (mx a b) = mx (mn a) (mn b) := by
  unfold mx mn
  split <;> split <;> split <;> (try split) <;> omega

/-- Both sizes are accepted. -/
theorem both_walk (c1 r1 c2 r2 : Int) (h1 : 1 ≤ c1) (h2 : 1 ≤ r1) (h3 : 1 ≤ c2) (h4 : 1 ≤ r2) (w : World) :
    Calls Trym.prog 4 #[.int .i64 c1, .int .i64 r1, .int .i64 c2, .int .i64 r2] w fun e w' => e = .returned (.bool true) ∧ Below w.heap.size w w' := by
  have XC : Hid (∀ w, Calls Trym.prog 7 #[.int .i64 c1, .int .i64 c2] w fun e w' => e = .returned (.int .i64 (mx c1 c2)) ∧ w' = w) := mx_any c1 c2
  have XR : Hid (∀ w, Calls Trym.prog 7 #[.int .i64 r1, .int .i64 r2] w fun e w' => e = .returned (.int .i64 (mx r1 r2)) ∧ w' = w) := mx_any r1 r2
  have m1 : 1 ≤ mx c1 c2 := Int.le_trans h1 (mx_left _ _)
  have m2 : 1 ≤ mx r1 r2 := Int.le_trans h2 (mx_left _ _)
  have ZA : Hid (∀ w, Calls Trym.prog 5 #[.int .i64 c1, .int .i64 r1] w fun e w' => e = .returned (.tuple #[.int .i64 (mn c1), .int .i64 (mn r1), .bool true]) ∧ Below w.heap.size w w') := zz_yes c1 r1 h1 h2
  have ZB : Hid (∀ w, Calls Trym.prog 5 #[.int .i64 c2, .int .i64 r2] w fun e w' => e = .returned (.tuple #[.int .i64 (mn c2), .int .i64 (mn r2), .bool true]) ∧ Below w.heap.size w w') := zz_yes c2 r2 h3 h4
  have ZG : Hid (∀ w, Calls Trym.prog 5 #[.int .i64 (mx c1 c2), .int .i64 (mx r1 r2)] w fun e w' => e = .returned (.tuple #[.int .i64 (mx (mn c1) (mn c2)), .int .i64 (mx (mn r1) (mn r2)), .bool true]) ∧ Below w.heap.size w w') := by
    rw [← mn_mx, ← mn_mx]; exact zz_yes _ _ m1 m2
  have YC : Hid (∀ w, Calls Trym.prog 7 #[.int .i64 (mn c1), .int .i64 (mn c2)] w fun e w' => e = .returned (.int .i64 (mx (mn c1) (mn c2))) ∧ w' = w) := mx_any _ _
  have YR : Hid (∀ w, Calls Trym.prog 7 #[.int .i64 (mn r1), .int .i64 (mn r2)] w fun e w' => e = .returned (.int .i64 (mx (mn r1) (mn r2))) ∧ w' = w) := mx_any _ _
  have b1 := mn_bound c1
  have b2 := mn_bound r1
  have b3 := mn_bound c2
  have b4 := mn_bound r2
  generalize mx (mn c1) (mn c2) = gc at *
  generalize mx (mn r1) (mn r2) = gr at *
  generalize mn c1 = ac at *
  generalize mn r1 = ar at *
  generalize mn c2 = bc at *
  generalize mn r2 = br at *
  generalize mx c1 c2 = mc at *
  generalize mx r1 r2 = mr at *
  have d1 : decide ((1000 : Int) < ac) = false := by simp; omega
  have d2 : decide ((1000 : Int) < ar) = false := by simp; omega
  have d3 : decide ((1000 : Int) < bc) = false := by simp; omega
  have d4 : decide ((1000 : Int) < br) = false := by simp; omega
  clear b1 b2 b3 b4
  go_enter Trym.func4, Trym.ntmps4
  go_wp2_with fail
  refine (XC.out _).mono ?_
  rintro e w' ⟨rfl, rfl⟩
  go_wp2_with fail
  refine (XR.out _).mono ?_
  rintro e w' ⟨rfl, rfl⟩
  go_wp2_with fail
  refine (ZA.out _).mono ?_
  rintro e w1 ⟨rfl, k1⟩
  go_wp2_with fail
  refine (ZB.out _).mono ?_
  rintro e w2 ⟨rfl, k2⟩
  go_wp2_with fail
  refine (ZG.out _).mono ?_
  rintro e w3 ⟨rfl, k3⟩
  go_wp2_with fail
  refine (YC.out _).mono ?_
  rintro e w' ⟨rfl, rfl⟩
  go_wp2_with fail
  refine (YR.out _).mono ?_
  rintro e w' ⟨rfl, rfl⟩
  go_wp2_with fail
  go_ret
  exact ⟨rfl, (k1.trans (k2.mono k1.size)).trans (k3.mono (Nat.le_trans k1.size k2.size))⟩

theorem walk_nnnn (c1 r1 c2 r2 : Int) (h1 : c1 < 1) (h2 : r1 < 1) (h3 : c2 < 1) (h4 : r2 < 1) (w : World) :
    Calls Trym.prog 4 #[.int .i64 c1, .int .i64 r1, .int .i64 c2, .int .i64 r2] w fun e w' => e = .returned (.bool true) ∧ Below w.heap.size w w' := by
  have XC : Hid (∀ w, Calls Trym.prog 7 #[.int .i64 c1, .int .i64 c2] w fun e w' => e = .returned (.int .i64 (mx c1 c2)) ∧ w' = w) := mx_any c1 c2
  have XR : Hid (∀ w, Calls Trym.prog 7 #[.int .i64 r1, .int .i64 r2] w fun e w' => e = .returned (.int .i64 (mx r1 r2)) ∧ w' = w) := mx_any r1 r2
  have m1 : mx c1 c2 < 1 := mx_small _ _ h1 h3
  have m2 : mx r1 r2 < 1 := mx_small _ _ h2 h4
  have ZA : Hid (∀ w, Calls Trym.prog 5 #[.int .i64 c1, .int .i64 r1] w fun e w' => e = .returned (.tuple #[.int .i64 0, .int .i64 0, .bool false]) ∧ Below w.heap.size w w') := zz_no c1 r1 (by omega)
  have ZB : Hid (∀ w, Calls Trym.prog 5 #[.int .i64 c2, .int .i64 r2] w fun e w' => e = .returned (.tuple #[.int .i64 0, .int .i64 0, .bool false]) ∧ Below w.heap.size w w') := zz_no c2 r2 (by omega)
  have ZG : Hid (∀ w, Calls Trym.prog 5 #[.int .i64 (mx c1 c2), .int .i64 (mx r1 r2)] w fun e w' => e = .returned (.tuple #[.int .i64 0, .int .i64 0, .bool false]) ∧ Below w.heap.size w w') := zz_no _ _ (by omega)
  generalize mx c1 c2 = mc at *
  generalize mx r1 r2 = mr at *
  have d1 : decide (1 ≤ c1) = false := by simp; omega
  clear h1
  have d2 : decide (1 ≤ r1) = false := by simp; omega
  clear h2
  have d3 : decide (1 ≤ c2) = false := by simp; omega
  clear h3
  have d4 : decide (1 ≤ r2) = false := by simp; omega
  clear h4
  have e1 : decide (1 ≤ mc) = false := by simp; omega
  clear m1
  have e2 : decide (1 ≤ mr) = false := by simp; omega
  clear m2
  go_enter Trym.func4, Trym.ntmps4
  go_wp2_with fail
  refine (XC.out _).mono ?_
  rintro e w' ⟨rfl, rfl⟩
  go_wp2_with fail
  refine (XR.out _).mono ?_
  rintro e w' ⟨rfl, rfl⟩
  go_wp2_with fail
  refine (ZA.out _).mono ?_
  rintro e w1 ⟨rfl, k1⟩
  go_wp2_with fail
  refine (ZB.out _).mono ?_
  rintro e w2 ⟨rfl, k2⟩
  go_wp2_with fail
  refine (ZG.out _).mono ?_
  rintro e w3 ⟨rfl, k3⟩
  go_wp2_with fail
  go_ret
  exact ⟨rfl, (k1.trans (k2.mono k1.size)).trans (k3.mono (Nat.le_trans k1.size k2.size))⟩

theorem walk_nnny (c1 r1 c2 r2 : Int) (h1 : c1 < 1) (h2 : r1 < 1) (h3 : c2 < 1) (h4 : 1 ≤ r2) (w : World) :
    Calls Trym.prog 4 #[.int .i64 c1, .int .i64 r1, .int .i64 c2, .int .i64 r2] w fun e w' => e = .returned (.bool true) ∧ Below w.heap.size w w' := by
  have XC : Hid (∀ w, Calls Trym.prog 7 #[.int .i64 c1, .int .i64 c2] w fun e w' => e = .returned (.int .i64 (mx c1 c2)) ∧ w' = w) := mx_any c1 c2
  have XR : Hid (∀ w, Calls Trym.prog 7 #[.int .i64 r1, .int .i64 r2] w fun e w' => e = .returned (.int .i64 (mx r1 r2)) ∧ w' = w) := mx_any r1 r2
  have m1 : mx c1 c2 < 1 := mx_small _ _ h1 h3
  have m2 : 1 ≤ mx r1 r2 := Int.le_trans h4 (mx_right _ _)
  have ZA : Hid (∀ w, Calls Trym.prog 5 #[.int .i64 c1, .int .i64 r1] w fun e w' => e = .returned (.tuple #[.int .i64 0, .int .i64 0, .bool false]) ∧ Below w.heap.size w w') := zz_no c1 r1 (by omega)
  have ZB : Hid (∀ w, Calls Trym.prog 5 #[.int .i64 c2, .int .i64 r2] w fun e w' => e = .returned (.tuple #[.int .i64 0, .int .i64 0, .bool false]) ∧ Below w.heap.size w w') := zz_no c2 r2 (by omega)
  have ZG : Hid (∀ w, Calls Trym.prog 5 #[.int .i64 (mx c1 c2), .int .i64 (mx r1 r2)] w fun e w' => e = .returned (.tuple #[.int .i64 0, .int .i64 0, .bool false]) ∧ Below w.heap.size w w') := zz_no _ _ (by omega)
  generalize mx c1 c2 = mc at *
  generalize mx r1 r2 = mr at *
  have d1 : decide (1 ≤ c1) = false := by simp; omega
  clear h1
  have d2 : decide (1 ≤ r1) = false := by simp; omega
  clear h2
  have d3 : decide (1 ≤ c2) = false := by simp; omega
  clear h3
  have e1 : decide (1 ≤ mc) = false := by simp; omega
  clear m1
  go_enter Trym.func4, Trym.ntmps4
  go_wp2_with fail
  refine (XC.out _).mono ?_
  rintro e w' ⟨rfl, rfl⟩
  go_wp2_with fail
  refine (XR.out _).mono ?_
  rintro e w' ⟨rfl, rfl⟩
  go_wp2_with fail
  refine (ZA.out _).mono ?_
  rintro e w1 ⟨rfl, k1⟩
  go_wp2_with fail
  refine (ZB.out _).mono ?_
  rintro e w2 ⟨rfl, k2⟩
  go_wp2_with fail
  refine (ZG.out _).mono ?_
  rintro e w3 ⟨rfl, k3⟩
  go_wp2_with fail
  go_ret
  exact ⟨rfl, (k1.trans (k2.mono k1.size)).trans (k3.mono (Nat.le_trans k1.size k2.size))⟩

theorem walk_nnyn (c1 r1 c2 r2 : Int) (h1 : c1 < 1) (h2 : r1 < 1) (h3 : 1 ≤ c2) (h4 : r2 < 1) (w : World) :
    Calls Trym.prog 4 #[.int .i64 c1, .int .i64 r1, .int .i64 c2, .int .i64 r2] w fun e w' => e = .returned (.bool true) ∧ Below w.heap.size w w' := by
  have XC : Hid (∀ w, Calls Trym.prog 7 #[.int .i64 c1, .int .i64 c2] w fun e w' => e = .returned (.int .i64 (mx c1 c2)) ∧ w' = w) := mx_any c1 c2
  have XR : Hid (∀ w, Calls Trym.prog 7 #[.int .i64 r1, .int .i64 r2] w fun e w' => e = .returned (.int .i64 (mx r1 r2)) ∧ w' = w) := mx_any r1 r2
  have m1 : 1 ≤ mx c1 c2 := Int.le_trans h3 (mx_right _ _)
  have m2 : mx r1 r2 < 1 := mx_small _ _ h2 h4
  have ZA : Hid (∀ w, Calls Trym.prog 5 #[.int .i64 c1, .int .i64 r1] w fun e w' => e = .returned (.tuple #[.int .i64 0, .int .i64 0, .bool false]) ∧ Below w.heap.size w w') := zz_no c1 r1 (by omega)
  have ZB : Hid (∀ w, Calls Trym.prog 5 #[.int .i64 c2, .int .i64 r2] w fun e w' => e = .returned (.tuple #[.int .i64 0, .int .i64 0, .bool false]) ∧ Below w.heap.size w w') := zz_no c2 r2 (by omega)
  have ZG : Hid (∀ w, Calls Trym.prog 5 #[.int .i64 (mx c1 c2), .int .i64 (mx r1 r2)] w fun e w' => e = .returned (.tuple #[.int .i64 0, .int .i64 0, .bool false]) ∧ Below w.heap.size w w') := zz_no _ _ (by omega)
  generalize mx c1 c2 = mc at *
  generalize mx r1 r2 = mr at *
  have d1 : decide (1 ≤ c1) = false := by simp; omega
  clear h1
  have d2 : decide (1 ≤ r1) = false := by simp; omega
  clear h2
  have d4 : decide (1 ≤ r2) = false := by simp; omega
  clear h4
  have e2 : decide (1 ≤ mr) = false := by simp; omega
  clear m2
  go_enter Trym.func4, Trym.ntmps4
  go_wp2_with fail
  refine (XC.out _).mono ?_
  rintro e w' ⟨rfl, rfl⟩
  go_wp2_with fail
  refine (XR.out _).mono ?_
  rintro e w' ⟨rfl, rfl⟩
  go_wp2_with fail
  refine (ZA.out _).mono ?_
  rintro e w1 ⟨rfl, k1⟩
  go_wp2_with fail
  refine (ZB.out _).mono ?_
  rintro e w2 ⟨rfl, k2⟩
  go_wp2_with fail
  refine (ZG.out _).mono ?_
  rintro e w3 ⟨rfl, k3⟩
  go_wp2_with fail
  go_ret
  exact ⟨rfl, (k1.trans (k2.mono k1.size)).trans (k3.mono (Nat.le_trans k1.size k2.size))⟩

theorem walk_nnyy (c1 r1 c2 r2 : Int) (h1 : c1 < 1) (h2 : r1 < 1) (h3 : 1 ≤ c2) (h4 : 1 ≤ r2) (w : World) :
    Calls Trym.prog 4 #[.int .i64 c1, .int .i64 r1, .int .i64 c2, .int .i64 r2] w fun e w' => e = .returned (.bool true) ∧ Below w.heap.size w w' := by
  have XC : Hid (∀ w, Calls Trym.prog 7 #[.int .i64 c1, .int .i64 c2] w fun e w' => e = .returned (.int .i64 (mx c1 c2)) ∧ w' = w) := mx_any c1 c2
  have XR : Hid (∀ w, Calls Trym.prog 7 #[.int .i64 r1, .int .i64 r2] w fun e w' => e = .returned (.int .i64 (mx r1 r2)) ∧ w' = w) := mx_any r1 r2
  have m1 : 1 ≤ mx c1 c2 := Int.le_trans h3 (mx_right _ _)
  have m2 : 1 ≤ mx r1 r2 := Int.le_trans h4 (mx_right _ _)
  have ZA : Hid (∀ w, Calls Trym.prog 5 #[.int .i64 c1, .int .i64 r1] w fun e w' => e = .returned (.tuple #[.int .i64 0, .int .i64 0, .bool false]) ∧ Below w.heap.size w w') := zz_no c1 r1 (by omega)
  have ZB : Hid (∀ w, Calls Trym.prog 5 #[.int .i64 c2, .int .i64 r2] w fun e w' => e = .returned (.tuple #[.int .i64 (mn c2), .int .i64 (mn r2), .bool true]) ∧ Below w.heap.size w w') := zz_yes c2 r2 h3 h4
  have ZG : Hid (∀ w, Calls Trym.prog 5 #[.int .i64 (mx c1 c2), .int .i64 (mx r1 r2)] w fun e w' => e = .returned (.tuple #[.int .i64 (mn (mx c1 c2)), .int .i64 (mn (mx r1 r2)), .bool true]) ∧ Below w.heap.size w w') := zz_yes _ _ m1 m2
  generalize mn (mx c1 c2) = gc at *
  generalize mn (mx r1 r2) = gr at *
  generalize mx c1 c2 = mc at *
  generalize mx r1 r2 = mr at *
  have d1 : decide (1 ≤ c1) = false := by simp; omega
  clear h1
  have d2 : decide (1 ≤ r1) = false := by simp; omega
  clear h2
  generalize mn c2 = bc at *
  generalize mn r2 = br at *
  go_enter Trym.func4, Trym.ntmps4
  go_wp2_with fail
  refine (XC.out _).mono ?_
  rintro e w' ⟨rfl, rfl⟩
  go_wp2_with fail
  refine (XR.out _).mono ?_
  rintro e w' ⟨rfl, rfl⟩
  go_wp2_with fail
  refine (ZA.out _).mono ?_
  rintro e w1 ⟨rfl, k1⟩
  go_wp2_with fail
  refine (ZB.out _).mono ?_
  rintro e w2 ⟨rfl, k2⟩
  go_wp2_with fail
  refine (ZG.out _).mono ?_
  rintro e w3 ⟨rfl, k3⟩
  go_wp2_with fail
  go_ret
  exact ⟨rfl, (k1.trans (k2.mono k1.size)).trans (k3.mono (Nat.le_trans k1.size k2.size))⟩

theorem walk_nynn (c1 r1 c2 r2 : Int) (h1 : c1 < 1) (h2 : 1 ≤ r1) (h3 : c2 < 1) (h4 : r2 < 1) (w : World) :
    Calls Trym.prog 4 #[.int .i64 c1, .int .i64 r1, .int .i64 c2, .int .i64 r2] w fun e w' => e = .returned (.bool true) ∧ Below w.heap.size w w' := by
  have XC : Hid (∀ w, Calls Trym.prog 7 #[.int .i64 c1, .int .i64 c2] w fun e w' => e = .returned (.int .i64 (mx c1 c2)) ∧ w' = w) := mx_any c1 c2
  have XR : Hid (∀ w, Calls Trym.prog 7 #[.int .i64 r1, .int .i64 r2] w fun e w' => e = .returned (.int .i64 (mx r1 r2)) ∧ w' = w) := mx_any r1 r2
  have m1 : mx c1 c2 < 1 := mx_small _ _ h1 h3
  have m2 : 1 ≤ mx r1 r2 := Int.le_trans h2 (mx_left _ _)
  have ZA : Hid (∀ w, Calls Trym.prog 5 #[.int .i64 c1, .int .i64 r1] w fun e w' => e = .returned (.tuple #[.int .i64 0, .int .i64 0, .bool false]) ∧ Below w.heap.size w w') := zz_no c1 r1 (by omega)
  have ZB : Hid (∀ w, Calls Trym.prog 5 #[.int .i64 c2, .int .i64 r2] w fun e w' => e = .returned (.tuple #[.int .i64 0, .int .i64 0, .bool false]) ∧ Below w.heap.size w w') := zz_no c2 r2 (by omega)
  have ZG : Hid (∀ w, Calls Trym.prog 5 #[.int .i64 (mx c1 c2), .int .i64 (mx r1 r2)] w fun e w' => e = .returned (.tuple #[.int .i64 0, .int .i64 0, .bool false]) ∧ Below w.heap.size w w') := zz_no _ _ (by omega)
  generalize mx c1 c2 = mc at *
  generalize mx r1 r2 = mr at *
  have d1 : decide (1 ≤ c1) = false := by simp; omega
  clear h1
  have d3 : decide (1 ≤ c2) = false := by simp; omega
  clear h3
  have d4 : decide (1 ≤ r2) = false := by simp; omega
  clear h4
  have e1 : decide (1 ≤ mc) = false := by simp; omega
  clear m1
  go_enter Trym.func4, Trym.ntmps4
  go_wp2_with fail
  refine (XC.out _).mono ?_
  rintro e w' ⟨rfl, rfl⟩
  go_wp2_with fail
  refine (XR.out _).mono ?_
  rintro e w' ⟨rfl, rfl⟩
  go_wp2_with fail
  refine (ZA.out _).mono ?_
  rintro e w1 ⟨rfl, k1⟩
  go_wp2_with fail
  refine (ZB.out _).mono ?_
  rintro e w2 ⟨rfl, k2⟩
  go_wp2_with fail
  refine (ZG.out _).mono ?_
  rintro e w3 ⟨rfl, k3⟩
  go_wp2_with fail
  go_ret
  exact ⟨rfl, (k1.trans (k2.mono k1.size)).trans (k3.mono (Nat.le_trans k1.size k2.size))⟩

theorem walk_nyny (c1 r1 c2 r2 : Int) (h1 : c1 < 1) (h2 : 1 ≤ r1) (h3 : c2 < 1) (h4 : 1 ≤ r2) (w : World) :
    Calls Trym.prog 4 #[.int .i64 c1, .int .i64 r1, .int .i64 c2, .int .i64 r2] w fun e w' => e = .returned (.bool true) ∧ Below w.heap.size w w' := by
  have XC : Hid (∀ w, Calls Trym.prog 7 #[.int .i64 c1, .int .i64 c2] w fun e w' => e = .returned (.int .i64 (mx c1 c2)) ∧ w' = w) := mx_any c1 c2
  have XR : Hid (∀ w, Calls Trym.prog 7 #[.int .i64 r1, .int .i64 r2] w fun e w' => e = .returned (.int .i64 (mx r1 r2)) ∧ w' = w) := mx_any r1 r2
  have m1 : mx c1 c2 < 1 := mx_small _ _ h1 h3
  have m2 : 1 ≤ mx r1 r2 := Int.le_trans h2 (mx_left _ _)
  have ZA : Hid (∀ w, Calls Trym.prog 5 #[.int .i64 c1, .int .i64 r1] w fun e w' => e = .returned (.tuple #[.int .i64 0, .int .i64 0, .bool false]) ∧ Below w.heap.size w w') := zz_no c1 r1 (by omega)
  have ZB : Hid (∀ w, Calls Trym.prog 5 #[.int .i64 c2, .int .i64 r2] w fun e w' => e = .returned (.tuple #[.int .i64 0, .int .i64 0, .bool false]) ∧ Below w.heap.size w w') := zz_no c2 r2 (by omega)
  have ZG : Hid (∀ w, Calls Trym.prog 5 #[.int .i64 (mx c1 c2), .int .i64 (mx r1 r2)] w fun e w' => e = .returned (.tuple #[.int .i64 0, .int .i64 0, .bool false]) ∧ Below w.heap.size w w') := zz_no _ _ (by omega)
  generalize mx c1 c2 = mc at *
  generalize mx r1 r2 = mr at *
  have d1 : decide (1 ≤ c1) = false := by simp; omega
  clear h1
  have d3 : decide (1 ≤ c2) = false := by simp; omega
  clear h3
  have e1 : decide (1 ≤ mc) = false := by simp; omega
  clear m1
  go_enter Trym.func4, Trym.ntmps4
  go_wp2_with fail
  refine (XC.out _).mono ?_
  rintro e w' ⟨rfl, rfl⟩
  go_wp2_with fail
  refine (XR.out _).mono ?_
  rintro e w' ⟨rfl, rfl⟩
  go_wp2_with fail
  refine (ZA.out _).mono ?_
  rintro e w1 ⟨rfl, k1⟩
  go_wp2_with fail
  refine (ZB.out _).mono ?_
  rintro e w2 ⟨rfl, k2⟩
  go_wp2_with fail
  refine (ZG.out _).mono ?_
  rintro e w3 ⟨rfl, k3⟩
  go_wp2_with fail
  go_ret
  exact ⟨rfl, (k1.trans (k2.mono k1.size)).trans (k3.mono (Nat.le_trans k1.size k2.size))⟩

theorem walk_nyyn (c1 r1 c2 r2 : Int) (h1 : c1 < 1) (h2 : 1 ≤ r1) (h3 : 1 ≤ c2) (h4 : r2 < 1) (w : World) :
    Calls Trym.prog 4 #[.int .i64 c1, .int .i64 r1, .int .i64 c2, .int .i64 r2] w fun e w' => e = .returned (.bool true) ∧ Below w.heap.size w w' := by
  have XC : Hid (∀ w, Calls Trym.prog 7 #[.int .i64 c1, .int .i64 c2] w fun e w' => e = .returned (.int .i64 (mx c1 c2)) ∧ w' = w) := mx_any c1 c2
  have XR : Hid (∀ w, Calls Trym.prog 7 #[.int .i64 r1, .int .i64 r2] w fun e w' => e = .returned (.int .i64 (mx r1 r2)) ∧ w' = w) := mx_any r1 r2
  have m1 : 1 ≤ mx c1 c2 := Int.le_trans h3 (mx_right _ _)
  have m2 : 1 ≤ mx r1 r2 := Int.le_trans h2 (mx_left _ _)
  have ZA : Hid (∀ w, Calls Trym.prog 5 #[.int .i64 c1, .int .i64 r1] w fun e w' => e = .returned (.tuple #[.int .i64 0, .int .i64 0, .bool false]) ∧ Below w.heap.size w w') := zz_no c1 r1 (by omega)
  have ZB : Hid (∀ w, Calls Trym.prog 5 #[.int .i64 c2, .int .i64 r2] w fun e w' => e = .returned (.tuple #[.int .i64 0, .int .i64 0, .bool false]) ∧ Below w.heap.size w w') := zz_no c2 r2 (by omega)
  have ZG : Hid (∀ w, Calls Trym.prog 5 #[.int .i64 (mx c1 c2), .int .i64 (mx r1 r2)] w fun e w' => e = .returned (.tuple #[.int .i64 (mn (mx c1 c2)), .int .i64 (mn (mx r1 r2)), .bool true]) ∧ Below w.heap.size w w') := zz_yes _ _ m1 m2
  generalize mn (mx c1 c2) = gc at *
  generalize mn (mx r1 r2) = gr at *
  generalize mx c1 c2 = mc at *
  generalize mx r1 r2 = mr at *
  have d1 : decide (1 ≤ c1) = false := by simp; omega
  clear h1
  have d4 : decide (1 ≤ r2) = false := by simp; omega
  clear h4
  go_enter Trym.func4, Trym.ntmps4
  go_wp2_with fail
  refine (XC.out _).mono ?_
  rintro e w' ⟨rfl, rfl⟩
  go_wp2_with fail
  refine (XR.out _).mono ?_
  rintro e w' ⟨rfl, rfl⟩
  go_wp2_with fail
  refine (ZA.out _).mono ?_
  rintro e w1 ⟨rfl, k1⟩
  go_wp2_with fail
  refine (ZB.out _).mono ?_
  rintro e w2 ⟨rfl, k2⟩
  go_wp2_with fail
  refine (ZG.out _).mono ?_
  rintro e w3 ⟨rfl, k3⟩
  go_wp2_with fail
  go_ret
  exact ⟨rfl, (k1.trans (k2.mono k1.size)).trans (k3.mono (Nat.le_trans k1.size k2.size))⟩

theorem walk_nyyy (c1 r1 c2 r2 : Int) (h1 : c1 < 1) (h2 : 1 ≤ r1) (h3 : 1 ≤ c2) (h4 : 1 ≤ r2) (w : World) :
    Calls Trym.prog 4 #[.int .i64 c1, .int .i64 r1, .int .i64 c2, .int .i64 r2] w fun e w' => e = .returned (.bool true) ∧ Below w.heap.size w w' := by
  have XC : Hid (∀ w, Calls Trym.prog 7 #[.int .i64 c1, .int .i64 c2] w fun e w' => e = .returned (.int .i64 (mx c1 c2)) ∧ w' = w) := mx_any c1 c2
  have XR : Hid (∀ w, Calls Trym.prog 7 #[.int .i64 r1, .int .i64 r2] w fun e w' => e = .returned (.int .i64 (mx r1 r2)) ∧ w' = w) := mx_any r1 r2
  have m1 : 1 ≤ mx c1 c2 := Int.le_trans h3 (mx_right _ _)
  have m2 : 1 ≤ mx r1 r2 := Int.le_trans h2 (mx_left _ _)
  have ZA : Hid (∀ w, Calls Trym.prog 5 #[.int .i64 c1, .int .i64 r1] w fun e w' => e = .returned (.tuple #[.int .i64 0, .int .i64 0, .bool false]) ∧ Below w.heap.size w w') := zz_no c1 r1 (by omega)
  have ZB : Hid (∀ w, Calls Trym.prog 5 #[.int .i64 c2, .int .i64 r2] w fun e w' => e = .returned (.tuple #[.int .i64 (mn c2), .int .i64 (mn r2), .bool true]) ∧ Below w.heap.size w w') := zz_yes c2 r2 h3 h4
  have ZG : Hid (∀ w, Calls Trym.prog 5 #[.int .i64 (mx c1 c2), .int .i64 (mx r1 r2)] w fun e w' => e = .returned (.tuple #[.int .i64 (mn (mx c1 c2)), .int .i64 (mn (mx r1 r2)), .bool true]) ∧ Below w.heap.size w w') := zz_yes _ _ m1 m2
  generalize mn (mx c1 c2) = gc at *
  generalize mn (mx r1 r2) = gr at *
  generalize mx c1 c2 = mc at *
  generalize mx r1 r2 = mr at *
  have d1 : decide (1 ≤ c1) = false := by simp; omega
  clear h1
  generalize mn c2 = bc at *
  generalize mn r2 = br at *
  go_enter Trym.func4, Trym.ntmps4
  go_wp2_with fail
  refine (XC.out _).mono ?_
  rintro e w' ⟨rfl, rfl⟩
  go_wp2_with fail
  refine (XR.out _).mono ?_
  rintro e w' ⟨rfl, rfl⟩
  go_wp2_with fail
  refine (ZA.out _).mono ?_
  rintro e w1 ⟨rfl, k1⟩
  go_wp2_with fail
  refine (ZB.out _).mono ?_
  rintro e w2 ⟨rfl, k2⟩
  go_wp2_with fail
  refine (ZG.out _).mono ?_
  rintro e w3 ⟨rfl, k3⟩
  go_wp2_with fail
  go_ret
  exact ⟨rfl, (k1.trans (k2.mono k1.size)).trans (k3.mono (Nat.le_trans k1.size k2.size))⟩

theorem walk_ynnn (c1 r1 c2 r2 : Int) (h1 : 1 ≤ c1) (h2 : r1 < 1) (h3 : c2 < 1) (h4 : r2 < 1) (w : World) :
    Calls Trym.prog 4 #[.int .i64 c1, .int .i64 r1, .int .i64 c2, .int .i64 r2] w fun e w' => e = .returned (.bool true) ∧ Below w.heap.size w w' := by
  have XC : Hid (∀ w, Calls Trym.prog 7 #[.int .i64 c1, .int .i64 c2] w fun e w' => e = .returned (.int .i64 (mx c1 c2)) ∧ w' = w) := mx_any c1 c2
  have XR : Hid (∀ w, Calls Trym.prog 7 #[.int .i64 r1, .int .i64 r2] w fun e w' => e = .returned (.int .i64 (mx r1 r2)) ∧ w' = w) := mx_any r1 r2
  have m1 : 1 ≤ mx c1 c2 := Int.le_trans h1 (mx_left _ _)
  have m2 : mx r1 r2 < 1 := mx_small _ _ h2 h4
  have ZA : Hid (∀ w, Calls Trym.prog 5 #[.int .i64 c1, .int .i64 r1] w fun e w' => e = .returned (.tuple #[.int .i64 0, .int .i64 0, .bool false]) ∧ Below w.heap.size w w') := zz_no c1 r1 (by omega)
  have ZB : Hid (∀ w, Calls Trym.prog 5 #[.int .i64 c2, .int .i64 r2] w fun e w' => e = .returned (.tuple #[.int .i64 0, .int .i64 0, .bool false]) ∧ Below w.heap.size w w') := zz_no c2 r2 (by omega)
  have ZG : Hid (∀ w, Calls Trym.prog 5 #[.int .i64 (mx c1 c2), .int .i64 (mx r1 r2)] w fun e w' => e = .returned (.tuple #[.int .i64 0, .int .i64 0, .bool false]) ∧ Below w.heap.size w w') := zz_no _ _ (by omega)
  generalize mx c1 c2 = mc at *
  generalize mx r1 r2 = mr at *
  have d2 : decide (1 ≤ r1) = false := by simp; omega
  clear h2
  have d3 : decide (1 ≤ c2) = false := by simp; omega
  clear h3
  have d4 : decide (1 ≤ r2) = false := by simp; omega
  clear h4
  have e2 : decide (1 ≤ mr) = false := by simp; omega
  clear m2
  go_enter Trym.func4, Trym.ntmps4
  go_wp2_with fail
  refine (XC.out _).mono ?_
  rintro e w' ⟨rfl, rfl⟩
  go_wp2_with fail
  refine (XR.out _).mono ?_
  rintro e w' ⟨rfl, rfl⟩
  go_wp2_with fail
  refine (ZA.out _).mono ?_
  rintro e w1 ⟨rfl, k1⟩
  go_wp2_with fail
  refine (ZB.out _).mono ?_
  rintro e w2 ⟨rfl, k2⟩
  go_wp2_with fail
  refine (ZG.out _).mono ?_
  rintro e w3 ⟨rfl, k3⟩
  go_wp2_with fail
  go_ret
  exact ⟨rfl, (k1.trans (k2.mono k1.size)).trans (k3.mono (Nat.le_trans k1.size k2.size))⟩

theorem walk_ynny (c1 r1 c2 r2 : Int) (h1 : 1 ≤ c1) (h2 : r1 < 1) (h3 : c2 < 1) (h4 : 1 ≤ r2) (w : World) :
    Calls Trym.prog 4 #[.int .i64 c1, .int .i64 r1, .int .i64 c2, .int .i64 r2] w fun e w' => e = .returned (.bool true) ∧ Below w.heap.size w w' := by
  have XC : Hid (∀ w, Calls Trym.prog 7 #[.int .i64 c1, .int .i64 c2] w fun e w' => e = .returned (.int .i64 (mx c1 c2)) ∧ w' = w) := mx_any c1 c2
  have XR : Hid (∀ w, Calls Trym.prog 7 #[.int .i64 r1, .int .i64 r2] w fun e w' => e = .returned (.int .i64 (mx r1 r2)) ∧ w' = w) := mx_any r1 r2
  have m1 : 1 ≤ mx c1 c2 := Int.le_trans h1 (mx_left _ _)
  have m2 : 1 ≤ mx r1 r2 := Int.le_trans h4 (mx_right _ _)
  have ZA : Hid (∀ w, Calls Trym.prog 5 #[.int .i64 c1, .int .i64 r1] w fun e w' => e = .returned (.tuple #[.int .i64 0, .int .i64 0, .bool false]) ∧ Below w.heap.size w w') := zz_no c1 r1 (by omega)
  have ZB : Hid (∀ w, Calls Trym.prog 5 #[.int .i64 c2, .int .i64 r2] w fun e w' => e = .returned (.tuple #[.int .i64 0, .int .i64 0, .bool false]) ∧ Below w.heap.size w w') := zz_no c2 r2 (by omega)
  have ZG : Hid (∀ w, Calls Trym.prog 5 #[.int .i64 (mx c1 c2), .int .i64 (mx r1 r2)] w fun e w' => e = .returned (.tuple #[.int .i64 (mn (mx c1 c2)), .int .i64 (mn (mx r1 r2)), .bool true]) ∧ Below w.heap.size w w') := zz_yes _ _ m1 m2
  generalize mn (mx c1 c2) = gc at *
  generalize mn (mx r1 r2) = gr at *
  generalize mx c1 c2 = mc at *
  generalize mx r1 r2 = mr at *
  have d2 : decide (1 ≤ r1) = false := by simp; omega
  clear h2
  have d3 : decide (1 ≤ c2) = false := by simp; omega
  clear h3
  go_enter Trym.func4, Trym.ntmps4
  go_wp2_with fail
  refine (XC.out _).mono ?_
  rintro e w' ⟨rfl, rfl⟩
  go_wp2_with fail
  refine (XR.out _).mono ?_
  rintro e w' ⟨rfl, rfl⟩
  go_wp2_with fail
  refine (ZA.out _).mono ?_
  rintro e w1 ⟨rfl, k1⟩
  go_wp2_with fail
  refine (ZB.out _).mono ?_
  rintro e w2 ⟨rfl, k2⟩
  go_wp2_with fail
  refine (ZG.out _).mono ?_
  rintro e w3 ⟨rfl, k3⟩
  go_wp2_with fail
  go_ret
  exact ⟨rfl, (k1.trans (k2.mono k1.size)).trans (k3.mono (Nat.le_trans k1.size k2.size))⟩

theorem walk_ynyn (c1 r1 c2 r2 : Int) (h1 : 1 ≤ c1) (h2 : r1 < 1) (h3 : 1 ≤ c2) (h4 : r2 < 1) (w : World) :
    Calls Trym.prog 4 #[.int .i64 c1, .int .i64 r1, .int .i64 c2, .int .i64 r2] w fun e w' => e = .returned (.bool true) ∧ Below w.heap.size w w' := by
  have XC : Hid (∀ w, Calls Trym.prog 7 #[.int .i64 c1, .int .i64 c2] w fun e w' => e = .returned (.int .i64 (mx c1 c2)) ∧ w' = w) := mx_any c1 c2
  have XR : Hid (∀ w, Calls Trym.prog 7 #[.int .i64 r1, .int .i64 r2] w fun e w' => e = .returned (.int .i64 (mx r1 r2)) ∧ w' = w) := mx_any r1 r2
  have m1 : 1 ≤ mx c1 c2 := Int.le_trans h1 (mx_left _ _)
  have m2 : mx r1 r2 < 1 := mx_small _ _ h2 h4
  have ZA : Hid (∀ w, Calls Trym.prog 5 #[.int .i64 c1, .int .i64 r1] w fun e w' => e = .returned (.tuple #[.int .i64 0, .int .i64 0, .bool false]) ∧ Below w.heap.size w w') := zz_no c1 r1 (by omega)
  have ZB : Hid (∀ w, Calls Trym.prog 5 #[.int .i64 c2, .int .i64 r2] w fun e w' => e = .returned (.tuple #[.int .i64 0, .int .i64 0, .bool false]) ∧ Below w.heap.size w w') := zz_no c2 r2 (by omega)
  have ZG : Hid (∀ w, Calls Trym.prog 5 #[.int .i64 (mx c1 c2), .int .i64 (mx r1 r2)] w fun e w' => e = .returned (.tuple #[.int .i64 0, .int .i64 0, .bool false]) ∧ Below w.heap.size w w') := zz_no _ _ (by omega)
  generalize mx c1 c2 = mc at *
  generalize mx r1 r2 = mr at *
  have d2 : decide (1 ≤ r1) = false := by simp; omega
  clear h2
  have d4 : decide (1 ≤ r2) = false := by simp; omega
  clear h4
  have e2 : decide (1 ≤ mr) = false := by simp; omega
  clear m2
  go_enter Trym.func4, Trym.ntmps4
  go_wp2_with fail
  refine (XC.out _).mono ?_
  rintro e w' ⟨rfl, rfl⟩
  go_wp2_with fail
  refine (XR.out _).mono ?_
  rintro e w' ⟨rfl, rfl⟩
  go_wp2_with fail
  refine (ZA.out _).mono ?_
  rintro e w1 ⟨rfl, k1⟩
  go_wp2_with fail
  refine (ZB.out _).mono ?_
  rintro e w2 ⟨rfl, k2⟩
  go_wp2_with fail
  refine (ZG.out _).mono ?_
  rintro e w3 ⟨rfl, k3⟩
  go_wp2_with fail
  go_ret
  exact ⟨rfl, (k1.trans (k2.mono k1.size)).trans (k3.mono (Nat.le_trans k1.size k2.size))⟩

theorem walk_ynyy (c1 r1 c2 r2 : Int) (h1 : 1 ≤ c1) (h2 : r1 < 1) (h3 : 1 ≤ c2) (h4 : 1 ≤ r2) (w : World) :
    Calls Trym.prog 4 #[.int .i64 c1, .int .i64 r1, .int .i64 c2, .int .i64 r2] w fun e w' => e = .returned (.bool true) ∧ Below w.heap.size w w' := by
  have XC : Hid (∀ w, Calls Trym.prog 7 #[.int .i64 c1, .int .i64 c2] w fun e w' => e = .returned (.int .i64 (mx c1 c2)) ∧ w' = w) := mx_any c1 c2
  have XR : Hid (∀ w, Calls Trym.prog 7 #[.int .i64 r1, .int .i64 r2] w fun e w' => e = .returned (.int .i64 (mx r1 r2)) ∧ w' = w) := mx_any r1 r2
  have m1 : 1 ≤ mx c1 c2 := Int.le_trans h1 (mx_left _ _)
  have m2 : 1 ≤ mx r1 r2 := Int.le_trans h4 (mx_right _ _)
  have ZA : Hid (∀ w, Calls Trym.prog 5 #[.int .i64 c1, .int .i64 r1] w fun e w' => e = .returned (.tuple #[.int .i64 0, .int .i64 0, .bool false]) ∧ Below w.heap.size w w') := zz_no c1 r1 (by omega)
  have ZB : Hid (∀ w, Calls Trym.prog 5 #[.int .i64 c2, .int .i64 r2] w fun e w' => e = .returned (.tuple #[.int .i64 (mn c2), .int .i64 (mn r2), .bool true]) ∧ Below w.heap.size w w') := zz_yes c2 r2 h3 h4
  have ZG : Hid (∀ w, Calls Trym.prog 5 #[.int .i64 (mx c1 c2), .int .i64 (mx r1 r2)] w fun e w' => e = .returned (.tuple #[.int .i64 (mn (mx c1 c2)), .int .i64 (mn (mx r1 r2)), .bool true]) ∧ Below w.heap.size w w') := zz_yes _ _ m1 m2
  generalize mn (mx c1 c2) = gc at *
  generalize mn (mx r1 r2) = gr at *
  generalize mx c1 c2 = mc at *
  generalize mx r1 r2 = mr at *
  have d2 : decide (1 ≤ r1) = false := by simp; omega
  clear h2
  generalize mn c2 = bc at *
  generalize mn r2 = br at *
  go_enter Trym.func4, Trym.ntmps4
  go_wp2_with fail
  refine (XC.out _).mono ?_
  rintro e w' ⟨rfl, rfl⟩
  go_wp2_with fail
  refine (XR.out _).mono ?_
  rintro e w' ⟨rfl, rfl⟩
  go_wp2_with fail
  refine (ZA.out _).mono ?_
  rintro e w1 ⟨rfl, k1⟩
  go_wp2_with fail
  refine (ZB.out _).mono ?_
  rintro e w2 ⟨rfl, k2⟩
  go_wp2_with fail
  refine (ZG.out _).mono ?_
  rintro e w3 ⟨rfl, k3⟩
  go_wp2_with fail
  go_ret
  exact ⟨rfl, (k1.trans (k2.mono k1.size)).trans (k3.mono (Nat.le_trans k1.size k2.size))⟩

theorem walk_yynn (c1 r1 c2 r2 : Int) (h1 : 1 ≤ c1) (h2 : 1 ≤ r1) (h3 : c2 < 1) (h4 : r2 < 1) (w : World) :
    Calls Trym.prog 4 #[.int .i64 c1, .int .i64 r1, .int .i64 c2, .int .i64 r2] w fun e w' => e = .returned (.bool true) ∧ Below w.heap.size w w' := by
  have XC : Hid (∀ w, Calls Trym.prog 7 #[.int .i64 c1, .int .i64 c2] w fun e w' => e = .returned (.int .i64 (mx c1 c2)) ∧ w' = w) := mx_any c1 c2
  have XR : Hid (∀ w, Calls Trym.prog 7 #[.int .i64 r1, .int .i64 r2] w fun e w' => e = .returned (.int .i64 (mx r1 r2)) ∧ w' = w) := mx_any r1 r2
  have m1 : 1 ≤ mx c1 c2 := Int.le_trans h1 (mx_left _ _)
  have m2 : 1 ≤ mx r1 r2 := Int.le_trans h2 (mx_left _ _)
  have ZA : Hid (∀ w, Calls Trym.prog 5 #[.int .i64 c1, .int .i64 r1] w fun e w' => e = .returned (.tuple #[.int .i64 (mn c1), .int .i64 (mn r1), .bool true]) ∧ Below w.heap.size w w') := zz_yes c1 r1 h1 h2
  have ZB : Hid (∀ w, Calls Trym.prog 5 #[.int .i64 c2, .int .i64 r2] w fun e w' => e = .returned (.tuple #[.int .i64 0, .int .i64 0, .bool false]) ∧ Below w.heap.size w w') := zz_no c2 r2 (by omega)
  have ZG : Hid (∀ w, Calls Trym.prog 5 #[.int .i64 (mx c1 c2), .int .i64 (mx r1 r2)] w fun e w' => e = .returned (.tuple #[.int .i64 (mn (mx c1 c2)), .int .i64 (mn (mx r1 r2)), .bool true]) ∧ Below w.heap.size w w') := zz_yes _ _ m1 m2
  generalize mn (mx c1 c2) = gc at *
  generalize mn (mx r1 r2) = gr at *
  generalize mx c1 c2 = mc at *
  generalize mx r1 r2 = mr at *
  have d3 : decide (1 ≤ c2) = false := by simp; omega
  clear h3
  have d4 : decide (1 ≤ r2) = false := by simp; omega
  clear h4
  generalize mn c1 = ac at *
  generalize mn r1 = ar at *
  go_enter Trym.func4, Trym.ntmps4
  go_wp2_with fail
  refine (XC.out _).mono ?_
  rintro e w' ⟨rfl, rfl⟩
  go_wp2_with fail
  refine (XR.out _).mono ?_
  rintro e w' ⟨rfl, rfl⟩
  go_wp2_with fail
  refine (ZA.out _).mono ?_
  rintro e w1 ⟨rfl, k1⟩
  go_wp2_with fail
  refine (ZB.out _).mono ?_
  rintro e w2 ⟨rfl, k2⟩
  go_wp2_with fail
  refine (ZG.out _).mono ?_
  rintro e w3 ⟨rfl, k3⟩
  go_wp2_with fail
  go_ret
  exact ⟨rfl, (k1.trans (k2.mono k1.size)).trans (k3.mono (Nat.le_trans k1.size k2.size))⟩

theorem walk_yyny (c1 r1 c2 r2 : Int) (h1 : 1 ≤ c1) (h2 : 1 ≤ r1) (h3 : c2 < 1) (h4 : 1 ≤ r2) (w : World) :
    Calls Trym.prog 4 #[.int .i64 c1, .int .i64 r1, .int .i64 c2, .int .i64 r2] w fun e w' => e = .returned (.bool true) ∧ Below w.heap.size w w' := by
  have XC : Hid (∀ w, Calls Trym.prog 7 #[.int .i64 c1, .int .i64 c2] w fun e w' => e = .returned (.int .i64 (mx c1 c2)) ∧ w' = w) := mx_any c1 c2
  have XR : Hid (∀ w, Calls Trym.prog 7 #[.int .i64 r1, .int .i64 r2] w fun e w' => e = .returned (.int .i64 (mx r1 r2)) ∧ w' = w) := mx_any r1 r2
  have m1 : 1 ≤ mx c1 c2 := Int.le_trans h1 (mx_left _ _)
  have m2 : 1 ≤ mx r1 r2 := Int.le_trans h2 (mx_left _ _)
  have ZA : Hid (∀ w, Calls Trym.prog 5 #[.int .i64 c1, .int .i64 r1] w fun e w' => e = .returned (.tuple #[.int .i64 (mn c1), .int .i64 (mn r1), .bool true]) ∧ Below w.heap.size w w') := zz_yes c1 r1 h1 h2
  have ZB : Hid (∀ w, Calls Trym.prog 5 #[.int .i64 c2, .int .i64 r2] w fun e w' => e = .returned (.tuple #[.int .i64 0, .int .i64 0, .bool false]) ∧ Below w.heap.size w w') := zz_no c2 r2 (by omega)
  have ZG : Hid (∀ w, Calls Trym.prog 5 #[.int .i64 (mx c1 c2), .int .i64 (mx r1 r2)] w fun e w' => e = .returned (.tuple #[.int .i64 (mn (mx c1 c2)), .int .i64 (mn (mx r1 r2)), .bool true]) ∧ Below w.heap.size w w') := zz_yes _ _ m1 m2
  generalize mn (mx c1 c2) = gc at *
  generalize mn (mx r1 r2) = gr at *
  generalize mx c1 c2 = mc at *
  generalize mx r1 r2 = mr at *
  have d3 : decide (1 ≤ c2) = false := by simp; omega
  clear h3
  generalize mn c1 = ac at *
  generalize mn r1 = ar at *
  go_enter Trym.func4, Trym.ntmps4
  go_wp2_with fail
  refine (XC.out _).mono ?_
  rintro e w' ⟨rfl, rfl⟩
  go_wp2_with fail
  refine (XR.out _).mono ?_
  rintro e w' ⟨rfl, rfl⟩
  go_wp2_with fail
  refine (ZA.out _).mono ?_
  rintro e w1 ⟨rfl, k1⟩
  go_wp2_with fail
  refine (ZB.out _).mono ?_
  rintro e w2 ⟨rfl, k2⟩
  go_wp2_with fail
  refine (ZG.out _).mono ?_
  rintro e w3 ⟨rfl, k3⟩
  go_wp2_with fail
  go_ret
  exact ⟨rfl, (k1.trans (k2.mono k1.size)).trans (k3.mono (Nat.le_trans k1.size k2.size))⟩

theorem walk_yyyn (c1 r1 c2 r2 : Int) (h1 : 1 ≤ c1) (h2 : 1 ≤ r1) (h3 : 1 ≤ c2) (h4 : r2 < 1) (w : World) :
    Calls Trym.prog 4 #[.int .i64 c1, .int .i64 r1, .int .i64 c2, .int .i64 r2] w fun e w' => e = .returned (.bool true) ∧ Below w.heap.size w w' := by
  have XC : Hid (∀ w, Calls Trym.prog 7 #[.int .i64 c1, .int .i64 c2] w fun e w' => e = .returned (.int .i64 (mx c1 c2)) ∧ w' = w) := mx_any c1 c2
  have XR : Hid (∀ w, Calls Trym.prog 7 #[.int .i64 r1, .int .i64 r2] w fun e w' => e = .returned (.int .i64 (mx r1 r2)) ∧ w' = w) := mx_any r1 r2
  have m1 : 1 ≤ mx c1 c2 := Int.le_trans h1 (mx_left _ _)
  have m2 : 1 ≤ mx r1 r2 := Int.le_trans h2 (mx_left _ _)
  have ZA : Hid (∀ w, Calls Trym.prog 5 #[.int .i64 c1, .int .i64 r1] w fun e w' => e = .returned (.tuple #[.int .i64 (mn c1), .int .i64 (mn r1), .bool true]) ∧ Below w.heap.size w w') := zz_yes c1 r1 h1 h2
  have ZB : Hid (∀ w, Calls Trym.prog 5 #[.int .i64 c2, .int .i64 r2] w fun e w' => e = .returned (.tuple #[.int .i64 0, .int .i64 0, .bool false]) ∧ Below w.heap.size w w') := zz_no c2 r2 (by omega)
  have ZG : Hid (∀ w, Calls Trym.prog 5 #[.int .i64 (mx c1 c2), .int .i64 (mx r1 r2)] w fun e w' => e = .returned (.tuple #[.int .i64 (mn (mx c1 c2)), .int .i64 (mn (mx r1 r2)), .bool true]) ∧ Below w.heap.size w w') := zz_yes _ _ m1 m2
  generalize mn (mx c1 c2) = gc at *
  generalize mn (mx r1 r2) = gr at *
  generalize mx c1 c2 = mc at *
  generalize mx r1 r2 = mr at *
  have d4 : decide (1 ≤ r2) = false := by simp; omega
  clear h4
  generalize mn c1 = ac at *
  generalize mn r1 = ar at *
  go_enter Trym.func4, Trym.ntmps4
  go_wp2_with fail
  refine (XC.out _).mono ?_
  rintro e w' ⟨rfl, rfl⟩
  go_wp2_with fail
  refine (XR.out _).mono ?_
  rintro e w' ⟨rfl, rfl⟩
  go_wp2_with fail
  refine (ZA.out _).mono ?_
  rintro e w1 ⟨rfl, k1⟩
  go_wp2_with fail
  refine (ZB.out _).mono ?_
  rintro e w2 ⟨rfl, k2⟩
  go_wp2_with fail
  refine (ZG.out _).mono ?_
  rintro e w3 ⟨rfl, k3⟩
  go_wp2_with fail
  go_ret
  exact ⟨rfl, (k1.trans (k2.mono k1.size)).trans (k3.mono (Nat.le_trans k1.size k2.size))⟩

theorem walk_all (c1 r1 c2 r2 : Int) (w : World) :
    Calls Trym.prog 4 #[.int .i64 c1, .int .i64 r1, .int .i64 c2, .int .i64 r2] w fun e w' => e = .returned (.bool true) ∧ Below w.heap.size w w' := by
  rcases Int.lt_or_le c1 1 with h1 | h1 <;> rcases Int.lt_or_le r1 1 with h2 | h2 <;> rcases Int.lt_or_le c2 1 with h3 | h3 <;> rcases Int.lt_or_le r2 1 with h4 | h4
  · exact walk_nnnn c1 r1 c2 r2 h1 h2 h3 h4 w
  · exact walk_nnny c1 r1 c2 r2 h1 h2 h3 h4 w
  · exact walk_nnyn c1 r1 c2 r2 h1 h2 h3 h4 w
  · exact walk_nnyy c1 r1 c2 r2 h1 h2 h3 h4 w
  · exact walk_nynn c1 r1 c2 r2 h1 h2 h3 h4 w
  · exact walk_nyny c1 r1 c2 r2 h1 h2 h3 h4 w
  · exact walk_nyyn c1 r1 c2 r2 h1 h2 h3 h4 w
  · exact walk_nyyy c1 r1 c2 r2 h1 h2 h3 h4 w
  · exact walk_ynnn c1 r1 c2 r2 h1 h2 h3 h4 w
  · exact walk_ynny c1 r1 c2 r2 h1 h2 h3 h4 w
  · exact walk_ynyn c1 r1 c2 r2 h1 h2 h3 h4 w
  · exact walk_ynyy c1 r1 c2 r2 h1 h2 h3 h4 w
  · exact walk_yynn c1 r1 c2 r2 h1 h2 h3 h4 w
  · exact walk_yyny c1 r1 c2 r2 h1 h2 h3 h4 w
  · exact walk_yyyn c1 r1 c2 r2 h1 h2 h3 h4 w
  · exact both_walk c1 r1 c2 r2 h1 h2 h3 h4 w
end Go.Proofs.Qxb6617774aMods.Bd
