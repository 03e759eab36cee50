import Derived.Test.Qxb6617270aModsStr
namespace Go.Proofs.Qxb6617270aMods.Ps
open Go.ChangeShapes Go.WideShapes Go.ChangeAt Go.RowKit

/-- The letters of a position: shown when held, shown when not. -/
def Letters (k g d : Int) : Prop := (k = 0 ∧ g = 114 ∧ d = 45) ∨ (k = 1 ∧ g = 119 ∧ d = 45) ∨ (k = 2 ∧ g = 120 ∧ d = 45) ∨ (k = 3 ∧ g = 115 ∧ d = 112)

theorem granted (k g d : Int) (h : Letters k g d) (w : World) :
    Calls Trym.prog 9 #[.int .i64 k] w fun e w' => e = .returned (.int .u8 g) ∧ w' = w := by
  rcases h with ⟨rfl, rfl, rfl⟩ | ⟨rfl, rfl, rfl⟩ | ⟨rfl, rfl, rfl⟩ | ⟨rfl, rfl, rfl⟩
  all_goals
    go_enter Trym.func9, Trym.ntmps9
    go_wp2
    go_ret
    exact ⟨rfl, rfl⟩

theorem denied (k g d : Int) (h : Letters k g d) (w : World) :
    Calls Trym.prog 10 #[.int .i64 k] w fun e w' => e = .returned (.int .u8 d) ∧ w' = w := by
  rcases h with ⟨rfl, rfl, rfl⟩ | ⟨rfl, rfl, rfl⟩ | ⟨rfl, rfl, rfl⟩ | ⟨rfl, rfl, rfl⟩
  all_goals
    go_enter Trym.func10, Trym.ntmps10
    go_wp2
    go_ret
    exact ⟨rfl, rfl⟩

theorem fits (k g d c : Int) (h : Letters k g d) (hc : c = g ∨ c = d) (w : World) :
    Calls Trym.prog 8 #[.int .u8 c, .int .i64 k] w fun e w' => e = .returned (.bool true) ∧ w' = w := by
  have hgd : (d == g) = false := by
    rcases h with ⟨rfl, rfl, rfl⟩ | ⟨rfl, rfl, rfl⟩ | ⟨rfl, rfl, rfl⟩ | ⟨rfl, rfl, rfl⟩ <;> rfl
  rcases hc with rfl | rfl
  · go_enter Trym.func8, Trym.ntmps8
    go_wp2_with fail
    refine (granted k _ d h _).mono ?_
    rintro e w' ⟨rfl, rfl⟩
    go_wp2_with fail
    go_ret
    exact ⟨rfl, rfl⟩
  · go_enter Trym.func8, Trym.ntmps8
    go_wp2_with fail
    refine (granted k g _ h _).mono ?_
    rintro e w' ⟨rfl, rfl⟩
    go_wp2_with fail
    refine (denied k g _ h _).mono ?_
    rintro e w' ⟨rfl, rfl⟩
    go_wp2_with fail
    go_ret
    exact ⟨rfl, rfl⟩

def one (b : Bool) : Int := cond b 1 0
/-- How many of the first k bits are set. -/
def cnt (b0 b1 b2 b3 : Bool) : Nat → Int
  | 0 => 0
  | 1 => one b0
  | 2 => one b0 + one b1
  | 3 => one b0 + one b1 + one b2
  | _ => one b0 + one b1 + one b2 + one b3

/-- Nothing but draws. -/
def Drawn (w w' : World) : Prop := ∃ n, w' = w.drewN n
theorem Drawn.refl (w : World) : Drawn w w := ⟨0, rfl⟩
theorem Drawn.more {w w' : World} (h : Drawn w w') (n : Nat) : Drawn w (w'.drewN n) := by
  obtain ⟨m, rfl⟩ := h
  exact ⟨m + n, World.drewN_drewN ..⟩
theorem Drawn.below {w w' : World} (h : Drawn w w') (B : Nat) : Below B w w' := by
  obtain ⟨m, rfl⟩ := h
  exact below_drewN (Below.refl _ _) m

theorem cnt_bd (b0 b1 b2 b3 : Bool) (k : Nat) : 0 ≤ cnt b0 b1 b2 b3 k ∧ cnt b0 b1 b2 b3 k ≤ 4 := by
  unfold cnt
  cases b0 <;> cases b1 <;> cases b2 <;> cases b3 <;> split <;> simp [one]

/-- s shows the letters of the four bits. -/
def Shows (s : ByteArray) (b0 b1 b2 b3 : Bool) : Prop :=
  ∃ hsz : s.size = 4, ((s[0]'(by omega)).toNat : Int) = cond b0 114 45 ∧ ((s[1]'(by omega)).toNat : Int) = cond b1 119 45 ∧ ((s[2]'(by omega)).toNat : Int) = cond b2 120 45 ∧ ((s[3]'(by omega)).toNat : Int) = cond b3 115 112

theorem ps_shows (b0 b1 b2 b3 : Bool) : Shows (ps b0 b1 b2 b3) b0 b1 b2 b3 := by
  refine ⟨rfl, ?_, ?_, ?_, ?_⟩
  · cases b0 <;> rfl
  · cases b1 <;> rfl
  · cases b2 <;> rfl
  · cases b3 <;> rfl

set_option maxHeartbeats 1000000 in
theorem count_any (s : ByteArray) (b0 b1 b2 b3 : Bool) (hs : Shows s b0 b1 b2 b3) (w : World) :
    Calls Trym.prog 6 #[.string s] w fun e w' => e = .returned (.int .i64 (cnt b0 b1 b2 b3 4)) ∧ Drawn w w' := by
  obtain ⟨hsz, e0, e1, e2, e3⟩ := hs
  have E0 : Hid (((s[0]'(by omega)).toNat : Int) = cond b0 114 45) := e0
  have E1 : Hid (((s[1]'(by omega)).toNat : Int) = cond b1 119 45) := e1
  have E2 : Hid (((s[2]'(by omega)).toNat : Int) = cond b2 120 45) := e2
  have E3 : Hid (((s[3]'(by omega)).toNat : Int) = cond b3 115 112) := e3
  clear e0 e1 e2 e3
  go_enter Trym.func6, Trym.ntmps6
  go_wp2
  go_loopw [3, 4] (fun t i wr => ∃ k : Nat, k ≤ 4 ∧ i = .int .i64 k ∧ t = .int .i64 (cnt b0 b1 b2 b3 k) ∧ Drawn w wr) (fun _ i _ => 4 - (intOf i).toNat)
  case atStart => exact ⟨0, Nat.zero_le _, rfl, rfl, Drawn.refl _⟩
  case round =>
    obtain ⟨k, hk, rfl, rfl, hd⟩ := hrel
    have hcb := cnt_bd b0 b1 b2 b3 k
    rcases (show k = 0 ∨ k = 1 ∨ k = 2 ∨ k = 3 ∨ k = 4 by omega) with rfl | rfl | rfl | rfl | rfl
    · have hx := E0.out
      cases b0
      · have hy : ((s[0]'(by omega)).toNat : Int) = 45 := hx
        clear hx
        go_wp2
        go_quiet ((go_at_call 9; exact Calls.quiet_of_same (granted 0 114 45 (by simp [Letters]) _)))
        go_wp2
        go_roundw
        case rel => exact ⟨1, by decide, rfl, by simp [cnt, one], hd.more _⟩
        case measure => simp [intOf]
      · have hy : ((s[0]'(by omega)).toNat : Int) = 114 := hx
        clear hx
        go_wp2
        go_quiet ((go_at_call 9; exact Calls.quiet_of_same (granted 0 114 45 (by simp [Letters]) _)))
        go_wp2
        go_roundw
        case rel => exact ⟨1, by decide, rfl, by simp [cnt, one], hd.more _⟩
        case measure => simp [intOf]
    · have hx := E1.out
      cases b1
      · have hy : ((s[1]'(by omega)).toNat : Int) = 45 := hx
        clear hx
        go_wp2
        go_quiet ((go_at_call 9; exact Calls.quiet_of_same (granted 1 119 45 (by simp [Letters]) _)))
        go_wp2
        go_roundw
        case rel => exact ⟨2, by decide, rfl, by simp [cnt, one], hd.more _⟩
        case measure => simp [intOf]
      · have hy : ((s[1]'(by omega)).toNat : Int) = 119 := hx
        clear hx
        go_wp2
        go_quiet ((go_at_call 9; exact Calls.quiet_of_same (granted 1 119 45 (by simp [Letters]) _)))
        go_wp2
        go_roundw
        case rel => exact ⟨2, by decide, rfl, by simp [cnt, one], hd.more _⟩
        case measure => simp [intOf]
    · have hx := E2.out
      cases b2
      · have hy : ((s[2]'(by omega)).toNat : Int) = 45 := hx
        clear hx
        go_wp2
        go_quiet ((go_at_call 9; exact Calls.quiet_of_same (granted 2 120 45 (by simp [Letters]) _)))
        go_wp2
        go_roundw
        case rel => exact ⟨3, by decide, rfl, by simp [cnt, one], hd.more _⟩
        case measure => simp [intOf]
      · have hy : ((s[2]'(by omega)).toNat : Int) = 120 := hx
        clear hx
        go_wp2
        go_quiet ((go_at_call 9; exact Calls.quiet_of_same (granted 2 120 45 (by simp [Letters]) _)))
        go_wp2
        go_roundw
        case rel => exact ⟨3, by decide, rfl, by simp [cnt, one], hd.more _⟩
        case measure => simp [intOf]
    · have hx := E3.out
      cases b3
      · have hy : ((s[3]'(by omega)).toNat : Int) = 112 := hx
        clear hx
        go_wp2
        go_quiet ((go_at_call 9; exact Calls.quiet_of_same (granted 3 115 112 (by simp [Letters]) _)))
        go_wp2
        go_roundw
        case rel => exact ⟨4, by decide, rfl, by simp [cnt, one], hd.more _⟩
        case measure => simp [intOf]
      · have hy : ((s[3]'(by omega)).toNat : Int) = 115 := hx
        clear hx
        go_wp2
        go_quiet ((go_at_call 9; exact Calls.quiet_of_same (granted 3 115 112 (by simp [Letters]) _)))
        go_wp2
        go_roundw
        case rel => exact ⟨4, by decide, rfl, by simp [cnt, one], hd.more _⟩
        case measure => simp [intOf]
    · go_wp2
      go_ret
      exact ⟨rfl, hd⟩

set_option maxHeartbeats 1000000 in
theorem pop_any (p : Int) (b0 b1 b2 b3 : Bool) (h0 : (bits BinOp.and IntKind.u8 p 1 == 1) = b0) (h1 : (bits BinOp.and IntKind.u8 (p / 2) 1 == 1) = b1) (h2 : (bits BinOp.and IntKind.u8 (p / 4) 1 == 1) = b2) (h3 : (bits BinOp.and IntKind.u8 (p / 8) 1 == 1) = b3) (w : World) :
    Calls Trym.prog 7 #[.int .u8 p] w fun e w' => e = .returned (.int .i64 (cnt b0 b1 b2 b3 4)) ∧ w' = w := by
  have H0 : Hid ((bits BinOp.and IntKind.u8 (p) 1 == 1) = b0) := h0
  have H1 : Hid ((bits BinOp.and IntKind.u8 (p / 2) 1 == 1) = b1) := h1
  have H2 : Hid ((bits BinOp.and IntKind.u8 (p / 4) 1 == 1) = b2) := h2
  have H3 : Hid ((bits BinOp.and IntKind.u8 (p / 8) 1 == 1) = b3) := h3
  clear h0 h1 h2 h3
  go_enter Trym.func7, Trym.ntmps7
  go_wp2
  go_loop [3, 4] (fun t i => ∃ k : Nat, k ≤ 4 ∧ i = .int .i64 k ∧ t = .int .i64 (cnt b0 b1 b2 b3 k)) (fun _ i => 4 - (intOf i).toNat)
  case atStart => exact ⟨0, Nat.zero_le _, rfl, rfl⟩
  case round =>
    obtain ⟨k, hk, rfl, rfl⟩ := hrel
    have hcb := cnt_bd b0 b1 b2 b3 k
    rcases (show k = 0 ∨ k = 1 ∨ k = 2 ∨ k = 3 ∨ k = 4 by omega) with rfl | rfl | rfl | rfl | rfl
    · have hx := H0.out
      cases b0
      all_goals
        go_wp2
        go_round
        case rel => exact ⟨1, by decide, rfl, by simp [cnt, one]⟩
        case measure => simp [intOf]
    · have hx := H1.out
      cases b1
      all_goals
        go_wp2
        go_round
        case rel => exact ⟨2, by decide, rfl, by simp [cnt, one]⟩
        case measure => simp [intOf]
    · have hx := H2.out
      cases b2
      all_goals
        go_wp2
        go_round
        case rel => exact ⟨3, by decide, rfl, by simp [cnt, one]⟩
        case measure => simp [intOf]
    · have hx := H3.out
      cases b3
      all_goals
        go_wp2
        go_round
        case rel => exact ⟨4, by decide, rfl, by simp [cnt, one]⟩
        case measure => simp [intOf]
    · go_wp2
      go_ret
      exact ⟨rfl, rfl⟩
end Go.Proofs.Qxb6617270aMods.Ps
