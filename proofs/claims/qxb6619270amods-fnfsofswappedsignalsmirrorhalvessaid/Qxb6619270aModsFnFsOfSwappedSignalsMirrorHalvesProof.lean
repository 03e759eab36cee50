/- The proof of Rows.FnFsOfSwappedSignalsMirrorHalvesSaid: the frame after the guide's template for a law over what memory leads to (the map is only read: it reads behind the call as before by Below); the walk: Qxb6619270aModsMirror, Qxb6619270aModsLooks. -/
import Derived.Test.Qxb6619270aModsLooks
import Derived.Carry
namespace Go.Proofs.Qxb6619270aMods.fnFsOfSwappedSignalsMirrorHalves
open Go.ChangeShapes Go.WideShapes Go.ChangeAt Go.RowKit Go.WideElems
open Go.ChangeMaps (open_string shut_string)

theorem own : ownKnob Trym.prog.godebug = none := by kernel_rfl
theorem laidOut : laidOutB Trym.prog = true := by kernel_rfl

set_option maxRecDepth 100000 in
theorem lifted (os : Os) (started : os.Started) (H : Type) (enc : TypeId × Value → H) :
    ReturnsInHanded {} Trym.checked os 3 .any (Rows.fnFsOfSwappedSignalsMirrorHalvesSpec.pre6 enc Trym.prog Trym.f3 Rows.fnFsOfSwappedSignalsMirrorHalvesRow.domain false) (Rows.fnFsOfSwappedSignalsMirrorHalvesSpec.post enc Trym.prog Trym.f3 false true false false) := by
  refine returnsInHanded_of_change (C := Trym.checked) own started (by kernel_rfl) Trym.func3
    (ChangeSpec.witness6 (enc := enc) (C := Trym.checked) false ⟨#[], #[.map none, .string ByteArray.empty, .string ByteArray.empty], []⟩ 8 (by kernel_rfl) (by kernel_rfl) (by kernel_rfl) (by kernel_rfl)) ?_
  intro W base args ds gs before hval0 hW hcnd _
  have hval : ∀ (j : Nat) t v, Trym.f3.params[j]? = some t → args[j]? = some v → Value.okWide Trym.prog W .any base t v := hval0
  have hW' := hW
  obtain ⟨p, q, hA0, hV, rfl, hfz, hnd⟩ := hW
  have hA : DataW.TrodAll enc Trym.prog W 0 (fun _ => true) true Trym.f3.params.toList args.toList ds p := hA0
  rw [Trym.params3] at hA hval
  obtain ⟨v0, vs0, d0, ds0, p0, q0, hargs, rfl, rfl, h0, r0⟩ := trodAll_cons hA
  obtain ⟨v1, vs1, d1, ds1, p1, q1, rfl, rfl, rfl, h1, r1⟩ := trodAll_cons r0
  obtain ⟨v2, vs2, d2, ds2, p2, q2, rfl, rfl, rfl, h2, r2⟩ := trodAll_cons r1
  obtain ⟨rfl, rfl, rfl⟩ := trodAll_nil r2
  obtain rfl : args = #[v0, v1, v2] := by cases args; simp_all
  obtain ⟨rfl, rfl⟩ := trodVars_none hV
  have k0 := h0
  have lt0 : ∀ x ∈ p0, x.block < W.heap.size := by obtain ⟨m, hm⟩ := k0; exact DataW.trod_lt m _ _ _ hm
  obtain ⟨r, rfl⟩ := okWide_map Trym.underlying22 (hval 0 22 v0 rfl rfl)
  obtain ⟨a1, rfl, rfl, rfl, w1⟩ := open_string Trym.underlying23 (hval 1 23 v1 rfl rfl) h1
  obtain ⟨a2, rfl, rfl, rfl, w2⟩ := open_string Trym.underlying23 (hval 2 23 v2 rfl rfl) h2
  clear hA0 hval0
  have hwalk : Calls Trym.prog 3 #[.map r, .string a1, .string a2] W fun e w' => e = .returned (.bool true) ∧ Below W.heap.size W w' := by
    obtain ⟨fuel, hf⟩ := h0
    rcases open_map Trym.underlying22 hf with ⟨hcs, _⟩ | ⟨bm, es, clock, m, rfl, hcs, hb, _, F, _⟩
    · simp [Value.cells] at hcs
      subst hcs
      exact Fo.law_walk _ a1 a2 0 0 0 0 0 false false W (fun ty => Maps.len_nil (w := W) Trym.underlying22 ty) w1 w2 (Fo.look_nil' W a1 w1) (Fo.look_nil' W a2 w2)
    · simp [Value.cells] at hcs
      subst hcs
      obtain ⟨a, c, ok, l1⟩ := Fo.look_some hb F a1 w1
      obtain ⟨x, y, ok', l2⟩ := Fo.look_some hb F a2 w2
      exact Fo.law_walk _ a1 a2 es.size a c x y ok ok' W (fun ty => Fo.len_some hb ty) w1 w2 l1 l2
  refine hwalk.mono fun e W' ⟨he, bel⟩ => ?_
  subst he
  exact ⟨_, rfl, _, _, _, [], _, [], hW', trodAll_mk1 (shut_bool Trym.underlying4 _), (trodAll_cons_mk (Below.trod laidOut (by kernel_rfl) (of_decide_eq_true (by kernel_rfl)) k0 bel lt0) (trodAll_cons_mk (shut_string Trym.underlying23 w1) (trodAll_cons_mk (shut_string Trym.underlying23 w2) trodAll_mk0))), rfl, bel.frame _, fun h => by cases h⟩

theorem over : Rows.fnFsOfSwappedSignalsMirrorHalvesRow.holds Trym.pinned (OpenSpec.ofChange Rows.fnFsOfSwappedSignalsMirrorHalvesSpec) :=
  OpenClaim.holds_of_wide 3 Trym.f3 rfl rfl rfl rfl rfl rfl rfl ⟨rfl, rfl, rfl, rfl, rfl⟩ rfl rfl rfl rfl rfl (by kernel_rfl) Trym.func3 (by kernel_rfl)
    (of_decide_eq_true (by kernel_rfl)) (by unfold Func.isWrapper; first | (rw [if_pos (by decide +kernel)]; kernel_rfl) | (rw [if_neg (by decide +kernel)]; exact ⟨rfl, rfl⟩))
    (fun os started H enc _ => lifted os started H enc)

/-- THE STATEMENT -/
theorem proved : Rows.FnFsOfSwappedSignalsMirrorHalvesSaid :=
  over
end Go.Proofs.Qxb6619270aMods.fnFsOfSwappedSignalsMirrorHalves
