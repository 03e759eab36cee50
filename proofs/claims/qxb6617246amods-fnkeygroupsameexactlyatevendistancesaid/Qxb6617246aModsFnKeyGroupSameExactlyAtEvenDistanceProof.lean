/- The proof of Rows.FnKeyGroupSameExactlyAtEvenDistanceSaid: the frame is the program-written shell; the walk is ours. -/
import Derived.Test.Qxb6617246aModsKeyGroup
import Derived.WalkKit
import Derived.ProofKit
import Derived.OpenShut
import Derived.ShutString
namespace Go.Proofs.Qxb6617246aMods.fnKeyGroupSameExactlyAtEvenDistance
open Go.ChangeShapes Go.WideShapes Go.ChangeAt Go.RowKit
open Go.ChangeMaps (open_string shut_string)
set_option linter.unusedVariables false      -- a walk need not use every 'w<i>' (that an integer argument fits its kind)

theorem own : ownKnob Trym.prog.godebug = none := by kernel_rfl

/-! ### STEP 1: THE WALK: the Go text returns true; one walk for each pair of parities. -/
theorem w64_mod2 (n : Int) : wrap64 n % 2 = n % 2 := by unfold wrap64; omega

theorem walk_even_even (a0 a1 : Int) (h0 : a0 % 2 = 0) (h1 : a1 % 2 = 0) (w : World) :
    Calls Trym.prog 4 #[.int .i64 a0, .int .i64 a1] w fun e w' => e = .returned (.bool true) ∧ Grown w w' := by
  have hd : (bits BinOp.and IntKind.i64 (wrap64 (a0 - a1)) 1 == 0) = true := by
    rw [Kg.i64_and1, w64_mod2, show (a0 - a1) % 2 = 0 from by omega]; rfl
  have H0 : Hid (a0 % 2 = 0) := h0
  have H1 : Hid (a1 % 2 = 0) := h1
  clear h0 h1
  go_enter Trym.func4, Trym.ntmps4
  go_wp2_with fail
  refine (Kg.key_even a0 H0.out _).mono ?_
  rintro e w' ⟨rfl, rfl⟩
  go_wp2_with fail
  refine (Kg.key_even a1 H1.out _).mono ?_
  rintro e w' ⟨rfl, rfl⟩
  go_wp2_with fail
  refine (Kg.par_even a0 H0.out _).mono ?_
  rintro e w' ⟨rfl, rfl⟩
  go_wp2_with fail
  go_ret
  exact ⟨rfl, Grown.refl _⟩

theorem walk_even_odd (a0 a1 : Int) (h0 : a0 % 2 = 0) (h1 : a1 % 2 = 1) (w : World) :
    Calls Trym.prog 4 #[.int .i64 a0, .int .i64 a1] w fun e w' => e = .returned (.bool true) ∧ Grown w w' := by
  have hd : (bits BinOp.and IntKind.i64 (wrap64 (a0 - a1)) 1 == 0) = false := by
    rw [Kg.i64_and1, w64_mod2, show (a0 - a1) % 2 = 1 from by omega]; rfl
  have H0 : Hid (a0 % 2 = 0) := h0
  have H1 : Hid (a1 % 2 = 1) := h1
  clear h0 h1
  go_enter Trym.func4, Trym.ntmps4
  go_wp2_with fail
  refine (Kg.key_even a0 H0.out _).mono ?_
  rintro e w' ⟨rfl, rfl⟩
  go_wp2_with fail
  refine (Kg.key_odd a1 H1.out _).mono ?_
  rintro e w' ⟨rfl, rfl⟩
  go_wp2_with fail
  refine (Kg.par_even a0 H0.out _).mono ?_
  rintro e w' ⟨rfl, rfl⟩
  go_wp2_with fail
  go_ret
  exact ⟨rfl, Grown.refl _⟩

theorem walk_odd_even (a0 a1 : Int) (h0 : a0 % 2 = 1) (h1 : a1 % 2 = 0) (w : World) :
    Calls Trym.prog 4 #[.int .i64 a0, .int .i64 a1] w fun e w' => e = .returned (.bool true) ∧ Grown w w' := by
  have hd : (bits BinOp.and IntKind.i64 (wrap64 (a0 - a1)) 1 == 0) = false := by
    rw [Kg.i64_and1, w64_mod2, show (a0 - a1) % 2 = 1 from by omega]; rfl
  have H0 : Hid (a0 % 2 = 1) := h0
  have H1 : Hid (a1 % 2 = 0) := h1
  clear h0 h1
  go_enter Trym.func4, Trym.ntmps4
  go_wp2_with fail
  refine (Kg.key_odd a0 H0.out _).mono ?_
  rintro e w' ⟨rfl, rfl⟩
  go_wp2_with fail
  refine (Kg.key_even a1 H1.out _).mono ?_
  rintro e w' ⟨rfl, rfl⟩
  go_wp2_with fail
  refine (Kg.par_odd a0 H0.out _).mono ?_
  rintro e w' ⟨rfl, rfl⟩
  go_wp2_with fail
  go_ret
  exact ⟨rfl, Grown.refl _⟩

theorem walk_odd_odd (a0 a1 : Int) (h0 : a0 % 2 = 1) (h1 : a1 % 2 = 1) (w : World) :
    Calls Trym.prog 4 #[.int .i64 a0, .int .i64 a1] w fun e w' => e = .returned (.bool true) ∧ Grown w w' := by
  have hd : (bits BinOp.and IntKind.i64 (wrap64 (a0 - a1)) 1 == 0) = true := by
    rw [Kg.i64_and1, w64_mod2, show (a0 - a1) % 2 = 0 from by omega]; rfl
  have H0 : Hid (a0 % 2 = 1) := h0
  have H1 : Hid (a1 % 2 = 1) := h1
  clear h0 h1
  go_enter Trym.func4, Trym.ntmps4
  go_wp2_with fail
  refine (Kg.key_odd a0 H0.out _).mono ?_
  rintro e w' ⟨rfl, rfl⟩
  go_wp2_with fail
  refine (Kg.key_odd a1 H1.out _).mono ?_
  rintro e w' ⟨rfl, rfl⟩
  go_wp2_with fail
  refine (Kg.par_odd a0 H0.out _).mono ?_
  rintro e w' ⟨rfl, rfl⟩
  go_wp2_with fail
  go_ret
  exact ⟨rfl, Grown.refl _⟩

theorem walk (a0 : Int) (a1 : Int) (w0 : (Lit.int .i64 a0).wf = true) (w1 : (Lit.int .i64 a1).wf = true) (w : World) :
    Calls Trym.prog 4 #[.int .i64 a0, .int .i64 a1] w fun e w' => e = .returned (.bool true) ∧ Grown w w' := by
  by_cases h : a0 % 2 = 0
  · by_cases h' : a1 % 2 = 0
    · exact walk_even_even a0 a1 h h' w
    · exact walk_even_odd a0 a1 h (by omega) w
  · by_cases h' : a1 % 2 = 0
    · exact walk_odd_even a0 a1 (by omega) h' w
    · exact walk_odd_odd a0 a1 (by omega) (by omega) w

/-! ### THE ROW's STEP: WRITTEN OUT: LEAVE IT -/
set_option maxRecDepth 100000 in
theorem lifted (os : Os) (started : os.Started) (H : Type) (enc : TypeId × Value → H) :
    ReturnsInHanded {} Trym.checked os 4 .any (Rows.fnKeyGroupSameExactlyAtEvenDistanceSpec.pre6 enc Trym.prog Trym.f4 Rows.fnKeyGroupSameExactlyAtEvenDistanceRow.domain false) (Rows.fnKeyGroupSameExactlyAtEvenDistanceSpec.post enc Trym.prog Trym.f4 false true false false) := by
  refine returnsInHanded_of_change (C := Trym.checked) own started (by kernel_rfl) Trym.func4
    (ChangeSpec.witness6 (enc := enc) (C := Trym.checked) false ⟨#[], #[.int .i64 0, .int .i64 0], []⟩ 8 (by kernel_rfl) (by kernel_rfl) (by kernel_rfl) (by kernel_rfl)) ?_
  intro W base args ds gs before hval0 hW hcnd _
  have hval : ∀ (j : Nat) t v, Trym.f4.params[j]? = some t → args[j]? = some v → Value.okWide Trym.prog W .any base t v := hval0
  have hW' := hW
  obtain ⟨p, q, hA0, hV, rfl, hfz, hnd⟩ := hW
  have hA : DataW.TrodAll enc Trym.prog W 0 (fun _ => true) true Trym.f4.params.toList args.toList ds p := hA0
  rw [Trym.params4] at hA hval
  obtain ⟨v0, vs0, d0, ds0, p0, q0, hargs, rfl, rfl, h0, r0⟩ := trodAll_cons hA
  obtain ⟨v1, vs1, d1, ds1, p1, q1, rfl, rfl, rfl, h1, r1⟩ := trodAll_cons r0
  obtain ⟨rfl, rfl, rfl⟩ := trodAll_nil r1
  obtain rfl : args = #[v0, v1] := by cases args; simp_all
  obtain ⟨rfl, rfl⟩ := trodVars_none hV
  obtain ⟨a0, rfl, rfl, rfl, w0⟩ := open_int Trym.underlying3 (hval 0 3 v0 rfl rfl) h0
  obtain ⟨a1, rfl, rfl, rfl, w1⟩ := open_int Trym.underlying3 (hval 1 3 v1 rfl rfl) h1
  clear hA0 hval0
  simp only [List.append_nil] at hW'
  refine (walk a0 a1 w0 w1 W).mono fun e W' ⟨he, hg⟩ => ?_
  subst he
  exact ⟨_, rfl, post_of_same (pa := []) (pv := []) hW' (fun _ _ _ => (trodAll_cons_mk (shut_bool Trym.underlying4 _) trodAll_mk0)) (fun sp _ => (trodAll_cons_mk (shut_int Trym.underlying3 w0) (trodAll_cons_mk (shut_int Trym.underlying3 w1) trodAll_mk0))) (fun _ _ => rfl) rfl
    (hg.frame _) hg.2.1 (ok_one (by kernel_rfl) rfl (okWide_bool_mk Trym.underlying4 _))⟩

theorem over : Rows.fnKeyGroupSameExactlyAtEvenDistanceRow.holds Trym.pinned (OpenSpec.ofChange Rows.fnKeyGroupSameExactlyAtEvenDistanceSpec) :=
  OpenClaim.holds_of_wide 4 Trym.f4 rfl rfl rfl rfl rfl rfl rfl ⟨rfl, rfl, rfl, rfl, rfl⟩ rfl rfl rfl rfl rfl (by kernel_rfl) Trym.func4 (by kernel_rfl)
    (of_decide_eq_true (by kernel_rfl)) (by unfold Func.isWrapper; first | (rw [if_pos (by decide +kernel)]; kernel_rfl) | (rw [if_neg (by decide +kernel)]; exact ⟨rfl, rfl⟩))
    (fun os started H enc _ => lifted os started H enc)

/-- ████ THE STATEMENT ████ -/
theorem proved : Rows.FnKeyGroupSameExactlyAtEvenDistanceSaid :=
  over
end Go.Proofs.Qxb6617246aMods.fnKeyGroupSameExactlyAtEvenDistance
