import Derived.Test.Qxb6617774aModsRows
import Derived.WalkKit
import Derived.ProofKit
import Derived.OpenShut
import Derived.ShutString
import Derived.WalkSpells
import Derived.WalkSmall
import Derived.Deep.QuietTactic
import Derived.BigQuiet
namespace Go.Proofs.Qxb6617774aMods.Bd
open Go.ChangeShapes Go.WideShapes Go.ChangeAt Go.RowKit

/-- A side, cut at its bound. -/
def mn (x : Int) : Int := if x ≤ 1000 then x else 1000
theorem mn_le {x : Int} (h : x ≤ 1000) : mn x = x := if_pos h
theorem mn_gt {x : Int} (h : ¬ x ≤ 1000) : mn x = 1000 := if_neg h

theorem two_below (w : World) (o1 o2 : Obj) : Below w.heap.size w ((w.alloc o1).alloc o2) :=
  ((Below.refl _ _).alloc (Nat.le_refl _) _).alloc (by simp) _

theorem bounded_no (c r : Int) (h : c < 1 ∨ r < 1) (w : World) :
    Calls Trym.prog 8 #[.agg #[.int .i64 c, .int .i64 r]] w fun e w' => e = .returned (.tuple #[.agg #[.int .i64 0, .int .i64 0], .bool false]) ∧ Below w.heap.size w w' := by
  by_cases hc : c < 1
  · clear h
    go_enter Trym.func8, Trym.ntmps8
    go_wp2
    exact bodyPost_ret (v := .tuple #[.agg #[.int .i64 0, .int .i64 0], .bool false]) (by simp [results, Trym.results8, go_sem]) rfl ⟨rfl, two_below _ _ _⟩
  · have hr : r < 1 := by omega
    have hc' : decide (c < 1) = false := by simpa using hc
    clear h hc
    go_enter Trym.func8, Trym.ntmps8
    go_wp2
    exact bodyPost_ret (v := .tuple #[.agg #[.int .i64 0, .int .i64 0], .bool false]) (by simp [results, Trym.results8, go_sem]) rfl ⟨rfl, two_below _ _ _⟩

theorem bounded_yes (c r : Int) (hc : 1 ≤ c) (hr : 1 ≤ r) (w : World) :
    Calls Trym.prog 8 #[.agg #[.int .i64 c, .int .i64 r]] w fun e w' => e = .returned (.tuple #[.agg #[.int .i64 (mn c), .int .i64 (mn r)], .bool true]) ∧ Below w.heap.size w w' := by
  have hc' : decide (c < 1) = false := by simp; omega
  have hr' : decide (r < 1) = false := by simp; omega
  by_cases h1 : c ≤ 1000 <;> by_cases h2 : r ≤ 1000
  · rw [mn_le h1, mn_le h2]
    go_enter Trym.func8, Trym.ntmps8
    go_wp2
    exact bodyPost_ret (v := .tuple #[.agg #[.int .i64 c, .int .i64 r], .bool true]) (by simp [results, Trym.results8, go_sem]) rfl ⟨rfl, two_below _ _ _⟩
  · rw [mn_le h1, mn_gt h2]
    go_enter Trym.func8, Trym.ntmps8
    go_wp2
    exact bodyPost_ret (v := .tuple #[.agg #[.int .i64 c, .int .i64 1000], .bool true]) (by simp [results, Trym.results8, go_sem]) rfl ⟨rfl, two_below _ _ _⟩
  · rw [mn_gt h1, mn_le h2]
    go_enter Trym.func8, Trym.ntmps8
    go_wp2
    exact bodyPost_ret (v := .tuple #[.agg #[.int .i64 1000, .int .i64 r], .bool true]) (by simp [results, Trym.results8, go_sem]) rfl ⟨rfl, two_below _ _ _⟩
  · rw [mn_gt h1, mn_gt h2]
    go_enter Trym.func8, Trym.ntmps8
    go_wp2
    exact bodyPost_ret (v := .tuple #[.agg #[.int .i64 1000, .int .i64 1000], .bool true]) (by simp [results, Trym.results8, go_sem]) rfl ⟨rfl, two_below _ _ _⟩

theorem zz_no (c r : Int) (h : c < 1 ∨ r < 1) (w : World) :
    Calls Trym.prog 5 #[.int .i64 c, .int .i64 r] w fun e w' => e = .returned (.tuple #[.int .i64 0, .int .i64 0, .bool false]) ∧ Below w.heap.size w w' := by
  go_enter Trym.func5, Trym.ntmps5
  go_wp2_with fail
  refine (bounded_no c r h _).mono ?_
  rintro e w1 ⟨rfl, k1⟩
  go_wp2_with fail
  go_quiet (fail)
  go_wp2
  go_ret3
  exact ⟨rfl, below_drewN (k1.alloc k1.size _) _⟩

theorem zz_yes (c r : Int) (hc : 1 ≤ c) (hr : 1 ≤ r) (w : World) :
    Calls Trym.prog 5 #[.int .i64 c, .int .i64 r] w fun e w' => e = .returned (.tuple #[.int .i64 (mn c), .int .i64 (mn r), .bool true]) ∧ Below w.heap.size w w' := by
  go_enter Trym.func5, Trym.ntmps5
  go_wp2_with fail
  refine (bounded_yes c r hc hr _).mono ?_
  rintro e w1 ⟨rfl, k1⟩
  go_wp2_with fail
  go_quiet (fail)
  go_wp2
  go_ret3
  exact ⟨rfl, below_drewN (k1.alloc k1.size _) _⟩

/-- fitsSide at the greatest value that is at most both. -/
theorem fits_yes (x : Int) (hx : 1 ≤ x) (w : World) :
    Calls Trym.prog 6 #[.int .i64 (mn x), .int .i64 x, .int .i64 1000] w fun e w' => e = .returned (.bool true) ∧ w' = w := by
  by_cases h : x ≤ 1000
  · rw [mn_le h]
    have h1 : decide (x < 1) = false := by simp; omega
    have h2 : decide ((1000 : Int) < x) = false := by simp; omega
    go_enter Trym.func6, Trym.ntmps6
    go_wp2
    go_ret
    exact ⟨rfl, rfl⟩
  · rw [mn_gt h]
    have h3 : decide (x < (1000 : Int)) = false := by simp; omega
    have h4 : ((1000 : Int) == x) = false := by simp; omega
    go_enter Trym.func6, Trym.ntmps6
    go_wp2
    go_ret
    exact ⟨rfl, rfl⟩
end Go.Proofs.Qxb6617774aMods.Bd
