/- The proof of Rows.FnBoundedClampsToGreatestFittingSaid: the frame is the program-written shell; the walk is ours. -/
import Derived.Test.Qxb6617774aModsBounded
import Derived.WalkKit
import Derived.ProofKit
import Derived.OpenShut
import Derived.ShutString
namespace Go.Proofs.Qxb6617774aMods.fnBoundedClampsToGreatestFitting
open Go.ChangeShapes Go.WideShapes Go.ChangeAt Go.RowKit
open Go.ChangeMaps (open_string shut_string)
set_option linter.unusedVariables false      -- a walk need not use every 'w<i>' (that an integer argument fits its kind)

theorem own : ownKnob Trym.prog.godebug = none := by kernel_rfl

/-! ### STEP 1: THE WALK: the Go text returns true. The end is told by 'Below' (nothing that was there has turned). -/
theorem walk_no (a0 a1 : Int) (h : a0 < 1 ∨ a1 < 1) (w : World) :
    Calls Trym.prog 3 #[.int .i64 a0, .int .i64 a1] w fun e w' => e = .returned (.bool true) ∧ Below w.heap.size w w' := by
  have H : Hid (a0 < 1 ∨ a1 < 1) := h
  by_cases hc : 1 ≤ a0
  · have hr : decide (1 ≤ a1) = false := by simp; omega
    clear h
    go_enter Trym.func3, Trym.ntmps3
    go_wp2_with fail
    refine (Bd.zz_no a0 a1 H.out _).mono ?_
    rintro e w1 ⟨rfl, k1⟩
    go_wp2_with fail
    go_ret
    exact ⟨rfl, k1⟩
  · have hc' : decide (1 ≤ a0) = false := by simpa using hc
    clear h hc
    go_enter Trym.func3, Trym.ntmps3
    go_wp2_with fail
    refine (Bd.zz_no a0 a1 H.out _).mono ?_
    rintro e w1 ⟨rfl, k1⟩
    go_wp2_with fail
    go_ret
    exact ⟨rfl, k1⟩

theorem mn_pos {x : Int} (h : 1 ≤ x) : 1 ≤ Bd.mn x := by unfold Bd.mn; split <;> omega
theorem mn_mn (x : Int) : Bd.mn (Bd.mn x) = Bd.mn x := by unfold Bd.mn; split <;> simp_all

theorem walk_yes (a0 a1 : Int) (h0 : 1 ≤ a0) (h1 : 1 ≤ a1) (w : World) :
    Calls Trym.prog 3 #[.int .i64 a0, .int .i64 a1] w fun e w' => e = .returned (.bool true) ∧ Below w.heap.size w w' := by
  have F0 := Bd.fits_yes a0 h0
  have F1 := Bd.fits_yes a1 h1
  have Z0 := Bd.zz_yes a0 a1 h0 h1
  have Z1 := Bd.zz_yes (Bd.mn a0) (Bd.mn a1) (mn_pos h0) (mn_pos h1)
  rw [mn_mn, mn_mn] at Z1
  generalize Bd.mn a0 = x at *
  generalize Bd.mn a1 = y at *
  have G0 : Hid (∀ w, Calls Trym.prog 6 #[.int .i64 x, .int .i64 a0, .int .i64 1000] w fun e w' => e = .returned (.bool true) ∧ w' = w) := F0
  have G1 : Hid (∀ w, Calls Trym.prog 6 #[.int .i64 y, .int .i64 a1, .int .i64 1000] w fun e w' => e = .returned (.bool true) ∧ w' = w) := F1
  have Y0 : Hid (∀ w, Calls Trym.prog 5 #[.int .i64 a0, .int .i64 a1] w fun e w' => e = .returned (.tuple #[.int .i64 x, .int .i64 y, .bool true]) ∧ Below w.heap.size w w') := Z0
  have Y1 : Hid (∀ w, Calls Trym.prog 5 #[.int .i64 x, .int .i64 y] w fun e w' => e = .returned (.tuple #[.int .i64 x, .int .i64 y, .bool true]) ∧ Below w.heap.size w w') := Z1
  clear F0 F1 Z0 Z1
  go_enter Trym.func3, Trym.ntmps3
  go_wp2_with fail
  refine (Y0.out _).mono ?_
  rintro e w1 ⟨rfl, k1⟩
  go_wp2_with fail
  refine (G0.out _).mono ?_
  rintro e w2 ⟨rfl, rfl⟩
  go_wp2_with fail
  refine (G1.out _).mono ?_
  rintro e w2 ⟨rfl, rfl⟩
  go_wp2_with fail
  refine (Y1.out _).mono ?_
  rintro e w3 ⟨rfl, k3⟩
  go_wp2_with fail
  go_ret
  exact ⟨rfl, k1.trans (k3.mono k1.size)⟩

theorem walk (a0 : Int) (a1 : Int) (w0 : (Lit.int .i64 a0).wf = true) (w1 : (Lit.int .i64 a1).wf = true) (w : World) :
    Calls Trym.prog 3 #[.int .i64 a0, .int .i64 a1] w fun e w' => e = .returned (.bool true) ∧ Below w.heap.size w w' := by
  by_cases h : a0 < 1 ∨ a1 < 1
  · exact walk_no a0 a1 h w
  · exact walk_yes a0 a1 (by omega) (by omega) w

/-! ### THE ROW's STEP: WRITTEN OUT: LEAVE IT -/
set_option maxRecDepth 100000 in
theorem lifted (os : Os) (started : os.Started) (H : Type) (enc : TypeId × Value → H) :
    ReturnsInHanded {} Trym.checked os 3 .any (Rows.fnBoundedClampsToGreatestFittingSpec.pre6 enc Trym.prog Trym.f3 Rows.fnBoundedClampsToGreatestFittingRow.domain false) (Rows.fnBoundedClampsToGreatestFittingSpec.post enc Trym.prog Trym.f3 false true false false) := by
  refine returnsInHanded_of_change (C := Trym.checked) own started (by kernel_rfl) Trym.func3
    (ChangeSpec.witness6 (enc := enc) (C := Trym.checked) false ⟨#[], #[.int .i64 0, .int .i64 0], []⟩ 8 (by kernel_rfl) (by kernel_rfl) (by kernel_rfl) (by kernel_rfl)) ?_
  intro W base args ds gs before hval0 hW hcnd _
  have hval : ∀ (j : Nat) t v, Trym.f3.params[j]? = some t → args[j]? = some v → Value.okWide Trym.prog W .any base t v := hval0
  have hW' := hW
  obtain ⟨p, q, hA0, hV, rfl, hfz, hnd⟩ := hW
  have hA : DataW.TrodAll enc Trym.prog W 0 (fun _ => true) true Trym.f3.params.toList args.toList ds p := hA0
  rw [Trym.params3] at hA hval
  obtain ⟨v0, vs0, d0, ds0, p0, q0, hargs, rfl, rfl, h0, r0⟩ := trodAll_cons hA
  obtain ⟨v1, vs1, d1, ds1, p1, q1, rfl, rfl, rfl, h1, r1⟩ := trodAll_cons r0
  obtain ⟨rfl, rfl, rfl⟩ := trodAll_nil r1
  obtain rfl : args = #[v0, v1] := by cases args; simp_all
  obtain ⟨rfl, rfl⟩ := trodVars_none hV
  obtain ⟨a0, rfl, rfl, rfl, w0⟩ := open_int Trym.underlying3 (hval 0 3 v0 rfl rfl) h0
  obtain ⟨a1, rfl, rfl, rfl, w1⟩ := open_int Trym.underlying3 (hval 1 3 v1 rfl rfl) h1
  clear hA0 hval0
  simp only [List.append_nil] at hW'
  refine (walk a0 a1 w0 w1 W).mono fun e W' ⟨he, hg⟩ => ?_
  subst he
  exact ⟨_, rfl, _, _, _, [], [], [], hW', trodAll_mk1 (shut_bool Trym.underlying4 _), (trodAll_cons_mk (shut_int Trym.underlying3 w0) (trodAll_cons_mk (shut_int Trym.underlying3 w1) trodAll_mk0)), rfl, hg.frame _, fun h => by cases h⟩

theorem over : Rows.fnBoundedClampsToGreatestFittingRow.holds Trym.pinned (OpenSpec.ofChange Rows.fnBoundedClampsToGreatestFittingSpec) :=
  OpenClaim.holds_of_wide 3 Trym.f3 rfl rfl rfl rfl rfl rfl rfl ⟨rfl, rfl, rfl, rfl, rfl⟩ rfl rfl rfl rfl rfl (by kernel_rfl) Trym.func3 (by kernel_rfl)
    (of_decide_eq_true (by kernel_rfl)) (by unfold Func.isWrapper; first | (rw [if_pos (by decide +kernel)]; kernel_rfl) | (rw [if_neg (by decide +kernel)]; exact ⟨rfl, rfl⟩))
    (fun os started H enc _ => lifted os started H enc)

/-- ████ THE STATEMENT ████ -/
theorem proved : Rows.FnBoundedClampsToGreatestFittingSaid :=
  over
end Go.Proofs.Qxb6617774aMods.fnBoundedClampsToGreatestFitting
