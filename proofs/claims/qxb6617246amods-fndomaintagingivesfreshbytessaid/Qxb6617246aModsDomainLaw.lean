/- The walk of the law FnDomainTagInGivesFreshBytes, out of its callees' contracts. -/
import Derived.Test.Qxb6617246aModsDomain
namespace Go.Proofs.Qxb6617246aMods.Dt
open Go.ChangeShapes Go.WideShapes Go.ChangeAt Go.RowKit

theorem Lies.below {s : ByteArray} {w w' : World} {B N : Nat} (h : Lies s w B) (hb : Below N w w') (hB : B < N) : Lies s w' B :=
  fun k hk => (hb.cell (p := ⟨B, k, none⟩) hB).trans (h k hk)

theorem Lies.drewN {s : ByteArray} {w : World} {B : Nat} (h : Lies s w B) (n : Nat) : Lies s (w.drewN n) B := h

/-- What the loop that overwrites the first answer keeps: the first answer's cells are bytes that may be written, the second answer's bytes lie as they lay, nothing older than the call has turned. -/
def Inv (s : ByteArray) (B1 B2 : Nat) (w wr : World) : Prop :=
  (∀ k, k < s.size → ∃ x : Int, wr.cell? ⟨B1, k, none⟩ = some (.int .u8 x)) ∧ (∀ k, k < s.size → wr.frozen? ⟨B1, k, none⟩ = false) ∧ Lies s wr B2 ∧ B2 < wr.heap.size ∧ Below w.heap.size w wr

theorem Inv.start {s : ByteArray} {B1 B2 : Nat} {w w1 w2 : World} (m1 : Made s w w1 B1) (m2 : Made s w1 w2 B2) (n : Nat) : Inv s B1 B2 w (w2.drewN n) := by
  obtain ⟨a1, b1, c1, d1, e1⟩ := m1
  obtain ⟨a2, b2, c2, d2, e2⟩ := m2
  refine ⟨fun k hk => ⟨_, (c1.below e2 b1) k hk⟩, fun k hk => (e2.frozen (p := ⟨B1, k, none⟩) b1).trans (d1 k hk), c2, b2, ?_⟩
  exact below_drewN (e1.trans (e2.mono e1.size)) n

theorem Inv.step {s : ByteArray} {B1 B2 : Nat} {w wr : World} (h : Inv s B1 B2 w wr) (hB : w.heap.size ≤ B1) (hne : B2 ≠ B1) (k : Nat) (y : Int) : Inv s B1 B2 w (wr.setCell ⟨B1, k, none⟩ (.int .u8 y)) := by
  obtain ⟨a, b, c, d, e⟩ := h
  refine ⟨fun j hj => ?_, fun j hj => ?_, fun j hj => ?_, ?_, e.setCell hB _⟩
  · obtain ⟨x, hx⟩ := a j hj
    by_cases hjk : (⟨B1, k, none⟩ : Addr) = ⟨B1, j, none⟩
    · rw [← hjk] at hx ⊢
      exact ⟨y, World.cell?_setCell_same wr _ _ hx⟩
    · exact ⟨x, (World.cell?_setCell_other wr _ _ _ hjk).trans hx⟩
  · rw [World.frozen?_setCell]; exact b j hj
  · rw [World.cell?_setCell_other wr _ _ _ (by intro he; injection he with h1; exact hne h1.symm)]
    exact c j hj
  · simpa [World.setCell] using d

theorem early_bound (a0 a1 : ByteArray) (a2 : Int) (h0 : a0.size ≤ maxLen) (h1 : a1.size ≤ maxLen) (hbig : 524288 < a0.size ∨ 524288 < a1.size) (w : World) :
    Calls Trym.prog 5 #[.string a0, .string a1, .int .u8 a2] w fun e w' => e = .returned (.bool true) ∧ Below w.heap.size w w' := by
  have g0 := h0
  have g1 := h1
  unfold maxLen at g0 g1
  by_cases hb : 524288 < a0.size
  · have hb' : (524288 : Int) < (a0.size : Int) := by omega
    go_enter Trym.func5, Trym.ntmps5
    go_wp2_with fail
    refine (bound_any a0 a1 a2 h0 h1 _).mono ?_
    rintro e w' ⟨⟨b, rfl⟩, rfl⟩
    cases b
    all_goals
      go_wp2_with fail
      go_ret
      exact ⟨rfl, Below.refl _ _⟩
  · have hb' : ¬ (524288 : Int) < (a0.size : Int) := by omega
    have hb'' : (524288 : Int) < (a1.size : Int) := by omega
    go_enter Trym.func5, Trym.ntmps5
    go_wp2_with fail
    refine (bound_any a0 a1 a2 h0 h1 _).mono ?_
    rintro e w' ⟨⟨b, rfl⟩, rfl⟩
    cases b
    all_goals
      go_wp2_with fail
      go_ret
      exact ⟨rfl, Below.refl _ _⟩

set_option maxHeartbeats 400000 in
theorem main_one (a0 a1 : ByteArray) (h0 : a0.size ≤ maxLen) (h1 : a1.size ≤ maxLen) (b0 : a0.size ≤ 524288) (b1 : a1.size ≤ 524288) (w : World) :
    Calls Trym.prog 5 #[.string a0, .string a1, .int .u8 1] w fun e w' => e = .returned (.bool true) ∧ Below w.heap.size w w' := by
  have hb' : decide ((524288 : Int) < (a0.size : Int)) = false := by simp; omega
  have hb'' : decide ((524288 : Int) < (a1.size : Int)) = false := by simp; omega
  go_enter Trym.func5, Trym.ntmps5
  go_wp2_with fail
  refine (bound_any a0 a1 1 h0 h1 _).mono ?_
  rintro e w' ⟨⟨b, rfl⟩, rfl⟩
  cases b
  · go_wp2_with fail
    go_ret
    exact ⟨rfl, Below.refl _ _⟩
  go_wp2_with fail
  refine (zz_one a0 a1 _).mono ?_
  rintro e w1 ⟨B1, cap1, rfl, m1⟩
  go_wp2_with fail
  refine (zz_one a0 a1 _).mono ?_
  rintro e w2 ⟨B2, cap2, rfl, m2⟩
  go_wp2_with fail
  refine (eq_any a0 B1 cap1 _ h0 (m1.2.2.1.below m2.2.2.2.2 m1.2.1)).mono ?_
  rintro e w3 ⟨rfl, n3, rfl⟩
  go_wp2_with fail
  refine (eq_any a0 B2 cap2 _ h0 (m2.2.2.1.drewN n3)).mono ?_
  rintro e w4 ⟨rfl, n4, rfl⟩
  go_wp2_with fail
  have hB1 : w.heap.size ≤ B1 := m1.1
  have hne : B2 ≠ B1 := by have := m1.2.1; have := m2.1; omega
  have hst : Inv a0 B1 B2 w (w2.drewN (n3 + n4)) := Inv.start m1 m2 _
  clear m1 m2
  go_loopw [10] (fun i wr => ∃ k : Nat, k ≤ a0.size ∧ i = .int .i64 k ∧ Inv a0 B1 B2 w wr) (fun i _ => a0.size - (intOf i).toNat)
  case atStart => exact ⟨0, Nat.zero_le _, rfl, hst⟩
  case round =>
    clear hst
    obtain ⟨k, hk, rfl, hi⟩ := hrel
    by_cases hlt : k < a0.size
    · obtain ⟨x, hx⟩ := hi.1 k hlt
      have hf := hi.2.1 k hlt
      have hlt' : (k : Int) < (a0.size : Int) := by omega
      have HN : Hid (∀ y : Int, Inv a0 B1 B2 w (wr.setCell ⟨B1, k, none⟩ (.int .u8 y))) := fun y => hi.step hB1 hne k y
      go_wp2_with fail
      go_roundw
      case rel => exact ⟨k + 1, by omega, by go_num, HN.out _⟩
      case measure => simp [intOf]; omega
    · go_wp2_with fail
      refine (zz_one a0 a1 _).mono ?_
      rintro e w5 ⟨B3, cap3, rfl, m3⟩
      go_wp2_with fail
      refine (eq_any a0 B2 cap2 _ h0 (hi.2.2.1.below m3.2.2.2.2 hi.2.2.2.1)).mono ?_
      rintro e w6 ⟨rfl, n6, rfl⟩
      go_wp2_with fail
      refine (eq_any a0 B3 cap3 _ h0 (m3.2.2.1.drewN n6)).mono ?_
      rintro e w7 ⟨rfl, n7, rfl⟩
      go_wp2_with fail
      go_ret
      exact ⟨rfl, below_drewN (hi.2.2.2.2.trans (m3.2.2.2.2.mono hi.2.2.2.2.size)) _⟩

set_option maxHeartbeats 400000 in
theorem main_two (a0 a1 : ByteArray) (a2 : Int) (hg : (a2 == 1) = false) (h0 : a0.size ≤ maxLen) (h1 : a1.size ≤ maxLen) (b0 : a0.size ≤ 524288) (b1 : a1.size ≤ 524288) (w : World) :
    Calls Trym.prog 5 #[.string a0, .string a1, .int .u8 a2] w fun e w' => e = .returned (.bool true) ∧ Below w.heap.size w w' := by
  have hb' : decide ((524288 : Int) < (a0.size : Int)) = false := by simp; omega
  have hb'' : decide ((524288 : Int) < (a1.size : Int)) = false := by simp; omega
  go_enter Trym.func5, Trym.ntmps5
  go_wp2_with fail
  refine (bound_any a0 a1 a2 h0 h1 _).mono ?_
  rintro e w' ⟨⟨b, rfl⟩, rfl⟩
  cases b
  · go_wp2_with fail
    go_ret
    exact ⟨rfl, Below.refl _ _⟩
  go_wp2_with fail
  refine (zz_two a0 a1 a2 hg _).mono ?_
  rintro e w1 ⟨B1, cap1, rfl, m1⟩
  go_wp2_with fail
  refine (zz_two a0 a1 a2 hg _).mono ?_
  rintro e w2 ⟨B2, cap2, rfl, m2⟩
  go_wp2_with fail
  refine (eq_any a1 B1 cap1 _ h1 (m1.2.2.1.below m2.2.2.2.2 m1.2.1)).mono ?_
  rintro e w3 ⟨rfl, n3, rfl⟩
  go_wp2_with fail
  refine (eq_any a1 B2 cap2 _ h1 (m2.2.2.1.drewN n3)).mono ?_
  rintro e w4 ⟨rfl, n4, rfl⟩
  go_wp2_with fail
  have hB1 : w.heap.size ≤ B1 := m1.1
  have hne : B2 ≠ B1 := by have := m1.2.1; have := m2.1; omega
  have hst : Inv a1 B1 B2 w (w2.drewN (n3 + n4)) := Inv.start m1 m2 _
  clear m1 m2
  go_loopw [10] (fun i wr => ∃ k : Nat, k ≤ a1.size ∧ i = .int .i64 k ∧ Inv a1 B1 B2 w wr) (fun i _ => a1.size - (intOf i).toNat)
  case atStart => exact ⟨0, Nat.zero_le _, rfl, hst⟩
  case round =>
    clear hst
    obtain ⟨k, hk, rfl, hi⟩ := hrel
    by_cases hlt : k < a1.size
    · obtain ⟨x, hx⟩ := hi.1 k hlt
      have hf := hi.2.1 k hlt
      have hlt' : (k : Int) < (a1.size : Int) := by omega
      have HN : Hid (∀ y : Int, Inv a1 B1 B2 w (wr.setCell ⟨B1, k, none⟩ (.int .u8 y))) := fun y => hi.step hB1 hne k y
      go_wp2_with fail
      go_roundw
      case rel => exact ⟨k + 1, by omega, by go_num, HN.out _⟩
      case measure => simp [intOf]; omega
    · go_wp2_with fail
      refine (zz_two a0 a1 a2 hg _).mono ?_
      rintro e w5 ⟨B3, cap3, rfl, m3⟩
      go_wp2_with fail
      refine (eq_any a1 B2 cap2 _ h1 (hi.2.2.1.below m3.2.2.2.2 hi.2.2.2.1)).mono ?_
      rintro e w6 ⟨rfl, n6, rfl⟩
      go_wp2_with fail
      refine (eq_any a1 B3 cap3 _ h1 (m3.2.2.1.drewN n6)).mono ?_
      rintro e w7 ⟨rfl, n7, rfl⟩
      go_wp2_with fail
      go_ret
      exact ⟨rfl, below_drewN (hi.2.2.2.2.trans (m3.2.2.2.2.mono hi.2.2.2.2.size)) _⟩

end Go.Proofs.Qxb6617246aMods.Dt
