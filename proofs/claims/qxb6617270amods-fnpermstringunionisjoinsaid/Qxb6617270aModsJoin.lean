import Derived.Test.Qxb6617270aModsPerm
import Derived.Test.Qxb6617270aModsBits
namespace Go.Proofs.Qxb6617270aMods.Ps
open Go.ChangeShapes Go.WideShapes Go.ChangeAt Go.RowKit

/-- The string's letter at a position is the one of the two that the bit asks for. -/
theorem Shows.at0 {s : ByteArray} {b0 b1 b2 b3 : Bool} (h : Shows s b0 b1 b2 b3) : ∃ hk : 0 < s.size, ((s[0]'hk).toNat : Int) = cond b0 114 45 := by
  obtain ⟨hz, h0, h1, h2, h3⟩ := h
  exact ⟨by omega, h0⟩
theorem Shows.at1 {s : ByteArray} {b0 b1 b2 b3 : Bool} (h : Shows s b0 b1 b2 b3) : ∃ hk : 1 < s.size, ((s[1]'hk).toNat : Int) = cond b1 119 45 := by
  obtain ⟨hz, h0, h1, h2, h3⟩ := h
  exact ⟨by omega, h1⟩
theorem Shows.at2 {s : ByteArray} {b0 b1 b2 b3 : Bool} (h : Shows s b0 b1 b2 b3) : ∃ hk : 2 < s.size, ((s[2]'hk).toNat : Int) = cond b2 120 45 := by
  obtain ⟨hz, h0, h1, h2, h3⟩ := h
  exact ⟨by omega, h2⟩
theorem Shows.at3 {s : ByteArray} {b0 b1 b2 b3 : Bool} (h : Shows s b0 b1 b2 b3) : ∃ hk : 3 < s.size, ((s[3]'hk).toNat : Int) = cond b3 115 112 := by
  obtain ⟨hz, h0, h1, h2, h3⟩ := h
  exact ⟨by omega, h3⟩

set_option maxRecDepth 100000 in
set_option maxHeartbeats 4000000 in
theorem join_walk (p q : Int) (b0 b1 b2 b3 c0 c1 c2 c3 : Bool) (hp : Bt.Has p b0 b1 b2 b3) (hq : Bt.Has q c0 c1 c2 c3) (sp : Bt.Shifts p b0 b1 b2 b3) (sq : Bt.Shifts q c0 c1 c2 c3)
    (ho : Bt.Has (bits BinOp.or IntKind.u8 p q) (b0 || c0) (b1 || c1) (b2 || c2) (b3 || c3)) (hn : Bt.Has (bits BinOp.and IntKind.u8 p q) (b0 && c0) (b1 && c1) (b2 && c2) (b3 && c3)) (w : World) :
    Calls Trym.prog 4 #[.int .u8 p, .int .u8 q] w fun e w' => e = .returned (.bool true) ∧ Below w.heap.size w w' := by
  obtain ⟨A, hsA, HA⟩ : ∃ S, Shows S b0 b1 b2 b3 ∧ Hid (∀ w, Calls Trym.prog 5 #[.int .u8 p] w fun e w' => e = .returned (.string S) ∧ Below w.heap.size w w') :=
    ⟨_, ps_shows b0 b1 b2 b3, fun w => str_any p b0 b1 b2 b3 w hp.1 hp.2.1 hp.2.2.1 hp.2.2.2⟩
  obtain ⟨B, hsB, HB⟩ : ∃ S, Shows S c0 c1 c2 c3 ∧ Hid (∀ w, Calls Trym.prog 5 #[.int .u8 q] w fun e w' => e = .returned (.string S) ∧ Below w.heap.size w w') :=
    ⟨_, ps_shows c0 c1 c2 c3, fun w => str_any q c0 c1 c2 c3 w hq.1 hq.2.1 hq.2.2.1 hq.2.2.2⟩
  obtain ⟨U, hsU, HU⟩ : ∃ S, Shows S (b0 || c0) (b1 || c1) (b2 || c2) (b3 || c3) ∧ Hid (∀ w, Calls Trym.prog 5 #[.int .u8 (bits BinOp.or IntKind.u8 p q)] w fun e w' => e = .returned (.string S) ∧ Below w.heap.size w w') :=
    ⟨_, ps_shows (b0 || c0) (b1 || c1) (b2 || c2) (b3 || c3), fun w => str_any (bits BinOp.or IntKind.u8 p q) (b0 || c0) (b1 || c1) (b2 || c2) (b3 || c3) w ho.1 ho.2.1 ho.2.2.1 ho.2.2.2⟩
  obtain ⟨M, hsM, HM⟩ : ∃ S, Shows S (b0 && c0) (b1 && c1) (b2 && c2) (b3 && c3) ∧ Hid (∀ w, Calls Trym.prog 5 #[.int .u8 (bits BinOp.and IntKind.u8 p q)] w fun e w' => e = .returned (.string S) ∧ Below w.heap.size w w') :=
    ⟨_, ps_shows (b0 && c0) (b1 && c1) (b2 && c2) (b3 && c3), fun w => str_any (bits BinOp.and IntKind.u8 p q) (b0 && c0) (b1 && c1) (b2 && c2) (b3 && c3) w hn.1 hn.2.1 hn.2.2.1 hn.2.2.2⟩
  clear hp hq ho hn
  have hzA : A.size = 4 := hsA.1
  have hzB : B.size = 4 := hsB.1
  have hzU : U.size = 4 := hsU.1
  have hzM : M.size = 4 := hsM.1
  go_enter Trym.func4, Trym.ntmps4
  go_wp2_with fail
  refine (HA.out _).mono ?_
  rintro e w1 ⟨rfl, k1⟩
  go_wp2_with fail
  refine (HB.out _).mono ?_
  rintro e w2 ⟨rfl, k2⟩
  go_wp2_with fail
  refine (HU.out _).mono ?_
  rintro e w3 ⟨rfl, k3⟩
  go_wp2_with fail
  refine (HM.out _).mono ?_
  rintro e w4 ⟨rfl, k4⟩
  have hbel : Below w.heap.size w w4 := ((k1.trans (k2.mono k1.size)).trans (k3.mono (Nat.le_trans k1.size k2.size))).trans (k4.mono (Nat.le_trans k1.size (Nat.le_trans k2.size k3.size)))
  clear k1 k2 k3 k4 HA HB HU HM
  go_wp2_with fail
  go_loop [11] (fun i => ∃ k : Nat, k ≤ 4 ∧ i = .int .i64 k) (fun i => 4 - (intOf i).toNat)
  case atStart => exact ⟨0, Nat.zero_le _, rfl⟩
  case round =>
    obtain ⟨k, hk, rfl⟩ := hrel
    rcases (show k = 0 ∨ k = 1 ∨ k = 2 ∨ k = 3 ∨ k = 4 by omega) with rfl | rfl | rfl | rfl | rfl
    · obtain ⟨_, eA⟩ := hsA.at0
      obtain ⟨_, eB⟩ := hsB.at0
      obtain ⟨_, eU⟩ := hsU.at0
      obtain ⟨_, eM⟩ := hsM.at0
      have tp := sp.1
      have tq := sq.1
      have hL : Letters 0 114 45 := by simp [Letters]
      clear hsA hsB hsU hsM sp sq
      cases b0 <;> cases c0
      · have fA : ((A[0]'(by omega)).toNat : Int) = 45 := eA
        have fB : ((B[0]'(by omega)).toNat : Int) = 45 := eB
        have fU : ((U[0]'(by omega)).toNat : Int) = 45 := eU
        have fM : ((M[0]'(by omega)).toNat : Int) = 45 := eM
        clear eA eB eU eM
        go_wp2_with fail
        refine (fits 0 114 45 _ hL (by simp) _).mono ?_
        rintro e w5 ⟨rfl, rfl⟩
        go_wp2_with fail
        refine (fits 0 114 45 _ hL (by simp) _).mono ?_
        rintro e w5 ⟨rfl, rfl⟩
        go_wp2_with fail
        refine (fits 0 114 45 _ hL (by simp) _).mono ?_
        rintro e w5 ⟨rfl, rfl⟩
        go_wp2_with fail
        refine (fits 0 114 45 _ hL (by simp) _).mono ?_
        rintro e w5 ⟨rfl, rfl⟩
        go_wp2_with fail
        refine (granted 0 114 45 hL _).mono ?_
        rintro e w5 ⟨rfl, rfl⟩
        go_wp2_with fail
        go_round
        case rel => exact ⟨1, by decide, rfl⟩
        case measure => simp [intOf]
      · have fA : ((A[0]'(by omega)).toNat : Int) = 45 := eA
        have fB : ((B[0]'(by omega)).toNat : Int) = 114 := eB
        have fU : ((U[0]'(by omega)).toNat : Int) = 114 := eU
        have fM : ((M[0]'(by omega)).toNat : Int) = 45 := eM
        clear eA eB eU eM
        go_wp2_with fail
        refine (fits 0 114 45 _ hL (by simp) _).mono ?_
        rintro e w5 ⟨rfl, rfl⟩
        go_wp2_with fail
        refine (fits 0 114 45 _ hL (by simp) _).mono ?_
        rintro e w5 ⟨rfl, rfl⟩
        go_wp2_with fail
        refine (fits 0 114 45 _ hL (by simp) _).mono ?_
        rintro e w5 ⟨rfl, rfl⟩
        go_wp2_with fail
        refine (fits 0 114 45 _ hL (by simp) _).mono ?_
        rintro e w5 ⟨rfl, rfl⟩
        go_wp2_with fail
        refine (granted 0 114 45 hL _).mono ?_
        rintro e w5 ⟨rfl, rfl⟩
        go_wp2_with fail
        go_round
        case rel => exact ⟨1, by decide, rfl⟩
        case measure => simp [intOf]
      · have fA : ((A[0]'(by omega)).toNat : Int) = 114 := eA
        have fB : ((B[0]'(by omega)).toNat : Int) = 45 := eB
        have fU : ((U[0]'(by omega)).toNat : Int) = 114 := eU
        have fM : ((M[0]'(by omega)).toNat : Int) = 45 := eM
        clear eA eB eU eM
        go_wp2_with fail
        refine (fits 0 114 45 _ hL (by simp) _).mono ?_
        rintro e w5 ⟨rfl, rfl⟩
        go_wp2_with fail
        refine (fits 0 114 45 _ hL (by simp) _).mono ?_
        rintro e w5 ⟨rfl, rfl⟩
        go_wp2_with fail
        refine (fits 0 114 45 _ hL (by simp) _).mono ?_
        rintro e w5 ⟨rfl, rfl⟩
        go_wp2_with fail
        refine (fits 0 114 45 _ hL (by simp) _).mono ?_
        rintro e w5 ⟨rfl, rfl⟩
        go_wp2_with fail
        refine (granted 0 114 45 hL _).mono ?_
        rintro e w5 ⟨rfl, rfl⟩
        go_wp2_with fail
        go_round
        case rel => exact ⟨1, by decide, rfl⟩
        case measure => simp [intOf]
      · have fA : ((A[0]'(by omega)).toNat : Int) = 114 := eA
        have fB : ((B[0]'(by omega)).toNat : Int) = 114 := eB
        have fU : ((U[0]'(by omega)).toNat : Int) = 114 := eU
        have fM : ((M[0]'(by omega)).toNat : Int) = 114 := eM
        clear eA eB eU eM
        go_wp2_with fail
        refine (fits 0 114 45 _ hL (by simp) _).mono ?_
        rintro e w5 ⟨rfl, rfl⟩
        go_wp2_with fail
        refine (fits 0 114 45 _ hL (by simp) _).mono ?_
        rintro e w5 ⟨rfl, rfl⟩
        go_wp2_with fail
        refine (fits 0 114 45 _ hL (by simp) _).mono ?_
        rintro e w5 ⟨rfl, rfl⟩
        go_wp2_with fail
        refine (fits 0 114 45 _ hL (by simp) _).mono ?_
        rintro e w5 ⟨rfl, rfl⟩
        go_wp2_with fail
        refine (granted 0 114 45 hL _).mono ?_
        rintro e w5 ⟨rfl, rfl⟩
        go_wp2_with fail
        go_round
        case rel => exact ⟨1, by decide, rfl⟩
        case measure => simp [intOf]
    · obtain ⟨_, eA⟩ := hsA.at1
      obtain ⟨_, eB⟩ := hsB.at1
      obtain ⟨_, eU⟩ := hsU.at1
      obtain ⟨_, eM⟩ := hsM.at1
      have tp := sp.2.1
      have tq := sq.2.1
      have hL : Letters 1 119 45 := by simp [Letters]
      clear hsA hsB hsU hsM sp sq
      cases b1 <;> cases c1
      · have fA : ((A[1]'(by omega)).toNat : Int) = 45 := eA
        have fB : ((B[1]'(by omega)).toNat : Int) = 45 := eB
        have fU : ((U[1]'(by omega)).toNat : Int) = 45 := eU
        have fM : ((M[1]'(by omega)).toNat : Int) = 45 := eM
        clear eA eB eU eM
        go_wp2_with fail
        refine (fits 1 119 45 _ hL (by simp) _).mono ?_
        rintro e w5 ⟨rfl, rfl⟩
        go_wp2_with fail
        refine (fits 1 119 45 _ hL (by simp) _).mono ?_
        rintro e w5 ⟨rfl, rfl⟩
        go_wp2_with fail
        refine (fits 1 119 45 _ hL (by simp) _).mono ?_
        rintro e w5 ⟨rfl, rfl⟩
        go_wp2_with fail
        refine (fits 1 119 45 _ hL (by simp) _).mono ?_
        rintro e w5 ⟨rfl, rfl⟩
        go_wp2_with fail
        refine (granted 1 119 45 hL _).mono ?_
        rintro e w5 ⟨rfl, rfl⟩
        go_wp2_with fail
        go_round
        case rel => exact ⟨2, by decide, rfl⟩
        case measure => simp [intOf]
      · have fA : ((A[1]'(by omega)).toNat : Int) = 45 := eA
        have fB : ((B[1]'(by omega)).toNat : Int) = 119 := eB
        have fU : ((U[1]'(by omega)).toNat : Int) = 119 := eU
        have fM : ((M[1]'(by omega)).toNat : Int) = 45 := eM
        clear eA eB eU eM
        go_wp2_with fail
        refine (fits 1 119 45 _ hL (by simp) _).mono ?_
        rintro e w5 ⟨rfl, rfl⟩
        go_wp2_with fail
        refine (fits 1 119 45 _ hL (by simp) _).mono ?_
        rintro e w5 ⟨rfl, rfl⟩
        go_wp2_with fail
        refine (fits 1 119 45 _ hL (by simp) _).mono ?_
        rintro e w5 ⟨rfl, rfl⟩
        go_wp2_with fail
        refine (fits 1 119 45 _ hL (by simp) _).mono ?_
        rintro e w5 ⟨rfl, rfl⟩
        go_wp2_with fail
        refine (granted 1 119 45 hL _).mono ?_
        rintro e w5 ⟨rfl, rfl⟩
        go_wp2_with fail
        go_round
        case rel => exact ⟨2, by decide, rfl⟩
        case measure => simp [intOf]
      · have fA : ((A[1]'(by omega)).toNat : Int) = 119 := eA
        have fB : ((B[1]'(by omega)).toNat : Int) = 45 := eB
        have fU : ((U[1]'(by omega)).toNat : Int) = 119 := eU
        have fM : ((M[1]'(by omega)).toNat : Int) = 45 := eM
        clear eA eB eU eM
        go_wp2_with fail
        refine (fits 1 119 45 _ hL (by simp) _).mono ?_
        rintro e w5 ⟨rfl, rfl⟩
        go_wp2_with fail
        refine (fits 1 119 45 _ hL (by simp) _).mono ?_
        rintro e w5 ⟨rfl, rfl⟩
        go_wp2_with fail
        refine (fits 1 119 45 _ hL (by simp) _).mono ?_
        rintro e w5 ⟨rfl, rfl⟩
        go_wp2_with fail
        refine (fits 1 119 45 _ hL (by simp) _).mono ?_
        rintro e w5 ⟨rfl, rfl⟩
        go_wp2_with fail
        refine (granted 1 119 45 hL _).mono ?_
        rintro e w5 ⟨rfl, rfl⟩
        go_wp2_with fail
        go_round
        case rel => exact ⟨2, by decide, rfl⟩
        case measure => simp [intOf]
      · have fA : ((A[1]'(by omega)).toNat : Int) = 119 := eA
        have fB : ((B[1]'(by omega)).toNat : Int) = 119 := eB
        have fU : ((U[1]'(by omega)).toNat : Int) = 119 := eU
        have fM : ((M[1]'(by omega)).toNat : Int) = 119 := eM
        clear eA eB eU eM
        go_wp2_with fail
        refine (fits 1 119 45 _ hL (by simp) _).mono ?_
        rintro e w5 ⟨rfl, rfl⟩
        go_wp2_with fail
        refine (fits 1 119 45 _ hL (by simp) _).mono ?_
        rintro e w5 ⟨rfl, rfl⟩
        go_wp2_with fail
        refine (fits 1 119 45 _ hL (by simp) _).mono ?_
        rintro e w5 ⟨rfl, rfl⟩
        go_wp2_with fail
        refine (fits 1 119 45 _ hL (by simp) _).mono ?_
        rintro e w5 ⟨rfl, rfl⟩
        go_wp2_with fail
        refine (granted 1 119 45 hL _).mono ?_
        rintro e w5 ⟨rfl, rfl⟩
        go_wp2_with fail
        go_round
        case rel => exact ⟨2, by decide, rfl⟩
        case measure => simp [intOf]
    · obtain ⟨_, eA⟩ := hsA.at2
      obtain ⟨_, eB⟩ := hsB.at2
      obtain ⟨_, eU⟩ := hsU.at2
      obtain ⟨_, eM⟩ := hsM.at2
      have tp := sp.2.2.1
      have tq := sq.2.2.1
      have hL : Letters 2 120 45 := by simp [Letters]
      clear hsA hsB hsU hsM sp sq
      cases b2 <;> cases c2
      · have fA : ((A[2]'(by omega)).toNat : Int) = 45 := eA
        have fB : ((B[2]'(by omega)).toNat : Int) = 45 := eB
        have fU : ((U[2]'(by omega)).toNat : Int) = 45 := eU
        have fM : ((M[2]'(by omega)).toNat : Int) = 45 := eM
        clear eA eB eU eM
        go_wp2_with fail
        refine (fits 2 120 45 _ hL (by simp) _).mono ?_
        rintro e w5 ⟨rfl, rfl⟩
        go_wp2_with fail
        refine (fits 2 120 45 _ hL (by simp) _).mono ?_
        rintro e w5 ⟨rfl, rfl⟩
        go_wp2_with fail
        refine (fits 2 120 45 _ hL (by simp) _).mono ?_
        rintro e w5 ⟨rfl, rfl⟩
        go_wp2_with fail
        refine (fits 2 120 45 _ hL (by simp) _).mono ?_
        rintro e w5 ⟨rfl, rfl⟩
        go_wp2_with fail
        refine (granted 2 120 45 hL _).mono ?_
        rintro e w5 ⟨rfl, rfl⟩
        go_wp2_with fail
        go_round
        case rel => exact ⟨3, by decide, rfl⟩
        case measure => simp [intOf]
      · have fA : ((A[2]'(by omega)).toNat : Int) = 45 := eA
        have fB : ((B[2]'(by omega)).toNat : Int) = 120 := eB
        have fU : ((U[2]'(by omega)).toNat : Int) = 120 := eU
        have fM : ((M[2]'(by omega)).toNat : Int) = 45 := eM
        clear eA eB eU eM
        go_wp2_with fail
        refine (fits 2 120 45 _ hL (by simp) _).mono ?_
        rintro e w5 ⟨rfl, rfl⟩
        go_wp2_with fail
        refine (fits 2 120 45 _ hL (by simp) _).mono ?_
        rintro e w5 ⟨rfl, rfl⟩
        go_wp2_with fail
        refine (fits 2 120 45 _ hL (by simp) _).mono ?_
        rintro e w5 ⟨rfl, rfl⟩
        go_wp2_with fail
        refine (fits 2 120 45 _ hL (by simp) _).mono ?_
        rintro e w5 ⟨rfl, rfl⟩
        go_wp2_with fail
        refine (granted 2 120 45 hL _).mono ?_
        rintro e w5 ⟨rfl, rfl⟩
        go_wp2_with fail
        go_round
        case rel => exact ⟨3, by decide, rfl⟩
        case measure => simp [intOf]
      · have fA : ((A[2]'(by omega)).toNat : Int) = 120 := eA
        have fB : ((B[2]'(by omega)).toNat : Int) = 45 := eB
        have fU : ((U[2]'(by omega)).toNat : Int) = 120 := eU
        have fM : ((M[2]'(by omega)).toNat : Int) = 45 := eM
        clear eA eB eU eM
        go_wp2_with fail
        refine (fits 2 120 45 _ hL (by simp) _).mono ?_
        rintro e w5 ⟨rfl, rfl⟩
        go_wp2_with fail
        refine (fits 2 120 45 _ hL (by simp) _).mono ?_
        rintro e w5 ⟨rfl, rfl⟩
        go_wp2_with fail
        refine (fits 2 120 45 _ hL (by simp) _).mono ?_
        rintro e w5 ⟨rfl, rfl⟩
        go_wp2_with fail
        refine (fits 2 120 45 _ hL (by simp) _).mono ?_
        rintro e w5 ⟨rfl, rfl⟩
        go_wp2_with fail
        refine (granted 2 120 45 hL _).mono ?_
        rintro e w5 ⟨rfl, rfl⟩
        go_wp2_with fail
        go_round
        case rel => exact ⟨3, by decide, rfl⟩
        case measure => simp [intOf]
      · have fA : ((A[2]'(by omega)).toNat : Int) = 120 := eA
        have fB : ((B[2]'(by omega)).toNat : Int) = 120 := eB
        have fU : ((U[2]'(by omega)).toNat : Int) = 120 := eU
        have fM : ((M[2]'(by omega)).toNat : Int) = 120 := eM
        clear eA eB eU eM
        go_wp2_with fail
        refine (fits 2 120 45 _ hL (by simp) _).mono ?_
        rintro e w5 ⟨rfl, rfl⟩
        go_wp2_with fail
        refine (fits 2 120 45 _ hL (by simp) _).mono ?_
        rintro e w5 ⟨rfl, rfl⟩
        go_wp2_with fail
        refine (fits 2 120 45 _ hL (by simp) _).mono ?_
        rintro e w5 ⟨rfl, rfl⟩
        go_wp2_with fail
        refine (fits 2 120 45 _ hL (by simp) _).mono ?_
        rintro e w5 ⟨rfl, rfl⟩
        go_wp2_with fail
        refine (granted 2 120 45 hL _).mono ?_
        rintro e w5 ⟨rfl, rfl⟩
        go_wp2_with fail
        go_round
        case rel => exact ⟨3, by decide, rfl⟩
        case measure => simp [intOf]
    · obtain ⟨_, eA⟩ := hsA.at3
      obtain ⟨_, eB⟩ := hsB.at3
      obtain ⟨_, eU⟩ := hsU.at3
      obtain ⟨_, eM⟩ := hsM.at3
      have tp := sp.2.2.2
      have tq := sq.2.2.2
      have hL : Letters 3 115 112 := by simp [Letters]
      clear hsA hsB hsU hsM sp sq
      cases b3 <;> cases c3
      · have fA : ((A[3]'(by omega)).toNat : Int) = 112 := eA
        have fB : ((B[3]'(by omega)).toNat : Int) = 112 := eB
        have fU : ((U[3]'(by omega)).toNat : Int) = 112 := eU
        have fM : ((M[3]'(by omega)).toNat : Int) = 112 := eM
        clear eA eB eU eM
        go_wp2_with fail
        refine (fits 3 115 112 _ hL (by simp) _).mono ?_
        rintro e w5 ⟨rfl, rfl⟩
        go_wp2_with fail
        refine (fits 3 115 112 _ hL (by simp) _).mono ?_
        rintro e w5 ⟨rfl, rfl⟩
        go_wp2_with fail
        refine (fits 3 115 112 _ hL (by simp) _).mono ?_
        rintro e w5 ⟨rfl, rfl⟩
        go_wp2_with fail
        refine (fits 3 115 112 _ hL (by simp) _).mono ?_
        rintro e w5 ⟨rfl, rfl⟩
        go_wp2_with fail
        refine (granted 3 115 112 hL _).mono ?_
        rintro e w5 ⟨rfl, rfl⟩
        go_wp2_with fail
        go_round
        case rel => exact ⟨4, by decide, rfl⟩
        case measure => simp [intOf]
      · have fA : ((A[3]'(by omega)).toNat : Int) = 112 := eA
        have fB : ((B[3]'(by omega)).toNat : Int) = 115 := eB
        have fU : ((U[3]'(by omega)).toNat : Int) = 115 := eU
        have fM : ((M[3]'(by omega)).toNat : Int) = 112 := eM
        clear eA eB eU eM
        go_wp2_with fail
        refine (fits 3 115 112 _ hL (by simp) _).mono ?_
        rintro e w5 ⟨rfl, rfl⟩
        go_wp2_with fail
        refine (fits 3 115 112 _ hL (by simp) _).mono ?_
        rintro e w5 ⟨rfl, rfl⟩
        go_wp2_with fail
        refine (fits 3 115 112 _ hL (by simp) _).mono ?_
        rintro e w5 ⟨rfl, rfl⟩
        go_wp2_with fail
        refine (fits 3 115 112 _ hL (by simp) _).mono ?_
        rintro e w5 ⟨rfl, rfl⟩
        go_wp2_with fail
        refine (granted 3 115 112 hL _).mono ?_
        rintro e w5 ⟨rfl, rfl⟩
        go_wp2_with fail
        go_round
        case rel => exact ⟨4, by decide, rfl⟩
        case measure => simp [intOf]
      · have fA : ((A[3]'(by omega)).toNat : Int) = 115 := eA
        have fB : ((B[3]'(by omega)).toNat : Int) = 112 := eB
        have fU : ((U[3]'(by omega)).toNat : Int) = 115 := eU
        have fM : ((M[3]'(by omega)).toNat : Int) = 112 := eM
        clear eA eB eU eM
        go_wp2_with fail
        refine (fits 3 115 112 _ hL (by simp) _).mono ?_
        rintro e w5 ⟨rfl, rfl⟩
        go_wp2_with fail
        refine (fits 3 115 112 _ hL (by simp) _).mono ?_
        rintro e w5 ⟨rfl, rfl⟩
        go_wp2_with fail
        refine (fits 3 115 112 _ hL (by simp) _).mono ?_
        rintro e w5 ⟨rfl, rfl⟩
        go_wp2_with fail
        refine (fits 3 115 112 _ hL (by simp) _).mono ?_
        rintro e w5 ⟨rfl, rfl⟩
        go_wp2_with fail
        refine (granted 3 115 112 hL _).mono ?_
        rintro e w5 ⟨rfl, rfl⟩
        go_wp2_with fail
        go_round
        case rel => exact ⟨4, by decide, rfl⟩
        case measure => simp [intOf]
      · have fA : ((A[3]'(by omega)).toNat : Int) = 115 := eA
        have fB : ((B[3]'(by omega)).toNat : Int) = 115 := eB
        have fU : ((U[3]'(by omega)).toNat : Int) = 115 := eU
        have fM : ((M[3]'(by omega)).toNat : Int) = 115 := eM
        clear eA eB eU eM
        go_wp2_with fail
        refine (fits 3 115 112 _ hL (by simp) _).mono ?_
        rintro e w5 ⟨rfl, rfl⟩
        go_wp2_with fail
        refine (fits 3 115 112 _ hL (by simp) _).mono ?_
        rintro e w5 ⟨rfl, rfl⟩
        go_wp2_with fail
        refine (fits 3 115 112 _ hL (by simp) _).mono ?_
        rintro e w5 ⟨rfl, rfl⟩
        go_wp2_with fail
        refine (fits 3 115 112 _ hL (by simp) _).mono ?_
        rintro e w5 ⟨rfl, rfl⟩
        go_wp2_with fail
        refine (granted 3 115 112 hL _).mono ?_
        rintro e w5 ⟨rfl, rfl⟩
        go_wp2_with fail
        go_round
        case rel => exact ⟨4, by decide, rfl⟩
        case measure => simp [intOf]
    · go_wp2_with fail
      go_ret
      exact ⟨rfl, hbel⟩
end Go.Proofs.Qxb6617270aMods.Ps
