import Derived.Test.Qxb6619270aModsFsOf
import Derived.Deep.RegionHeld3
namespace Go.Proofs.Qxb6619270aMods.Fo
open Go.ChangeShapes Go.WideShapes Go.ChangeAt Go.RowKit Go.Maps

theorem same_p0 (ok : Bool) (S I : Nat) (a : Int) (w : World) (hp : w.cell? ⟨S, 0, none⟩ = some (.int .i64 a)) (hq : w.cell? ⟨I, 0, none⟩ = some (.int .i64 a)) :
    Calls Trym.prog 7 #[p0 ok S, p0 ok I] w fun e w' => e = .returned (.bool true) ∧ ∃ n, w' = w.drewN n := by
  cases ok
  · exact same_nil w
  · exact same_val a ⟨S, 0, none⟩ ⟨I, 0, none⟩ w hp hq

theorem same_p1 (ok : Bool) (S I : Nat) (a : Int) (w : World) (hp : w.cell? ⟨S, 1, none⟩ = some (.int .i64 a)) (hq : w.cell? ⟨I, 1, none⟩ = some (.int .i64 a)) :
    Calls Trym.prog 7 #[p1 ok S, p1 ok I] w fun e w' => e = .returned (.bool true) ∧ ∃ n, w' = w.drewN n := by
  cases ok
  · exact same_nil w
  · exact same_val a ⟨S, 1, none⟩ ⟨I, 1, none⟩ w hp hq

theorem half_any (ok : Bool) (S : Nat) (a c : Int) (w : World) (hp : w.cell? ⟨S, 0, none⟩ = some (.int .i64 a)) (hq : w.cell? ⟨S, 1, none⟩ = some (.int .i64 c)) :
    Calls Trym.prog 8 #[p0 ok S, p1 ok S, .bool ok, .agg #[.int .i64 a, .int .i64 c]] w fun e w' => e = .returned (.bool true) ∧ Below w.heap.size w w' := by
  cases ok
  · exact half_no a c w
  · exact half_yes a c ⟨S, 0, none⟩ ⟨S, 1, none⟩ w hp hq

theorem rs_cell (w : World) (a c x y : Int) (j : Nat) : ((w.alloc (.cells #[.int .i64 a, .int .i64 c] 25)).alloc (.cells #[.int .i64 x, .int .i64 y] 25)).cell? ⟨w.heap.size, j, none⟩ = (#[.int .i64 a, .int .i64 c] : Array Value)[j]? := by
  rw [(one_below _ _).cell (p := ⟨w.heap.size, j, none⟩) (by simp)]
  exact World.cell?_alloc_mark _ _ _ _ _
theorem ri_cell (w : World) (a c x y : Int) (j : Nat) : ((w.alloc (.cells #[.int .i64 a, .int .i64 c] 25)).alloc (.cells #[.int .i64 x, .int .i64 y] 25)).cell? ⟨w.heap.size + 1, j, none⟩ = (#[.int .i64 x, .int .i64 y] : Array Value)[j]? := by
  have e1 : (w.alloc (.cells #[.int .i64 a, .int .i64 c] 25)).heap.size = w.heap.size + 1 := by simp
  rw [← e1]
  exact World.cell?_alloc_mark _ _ _ _ _

theorem big_walk (m : Value) (s i : ByteArray) (n : Nat) (w : World) (hlen : ∀ ty, (Builtin.len_ #[22] ty #[m]).run Trym.prog w = .ok (.int .i64 n) w) (hs : s.size ≤ maxLen) (hi : i.size ≤ maxLen) (hb : 65536 < n ∨ 65536 < s.size ∨ 65536 < i.size) :
    Calls Trym.prog 3 #[m, .string s, .string i] w fun e w' => e = .returned (.bool true) ∧ Below w.heap.size w w' := by
  unfold maxLen at hs hi
  by_cases h1 : 65536 < n
  · have h1' : (65536 : Int) < (n : Int) := by omega
    clear hb h1
    go_enter Trym.func3, Trym.ntmps3
    go_wp2
    go_ret
    exact ⟨rfl, Below.refl _ _⟩
  · have h1' : decide ((65536 : Int) < (n : Int)) = false := by simp; omega
    by_cases h2 : 65536 < s.size
    · have h2' : (65536 : Int) < (s.size : Int) := by omega
      clear hb h1 h2
      go_enter Trym.func3, Trym.ntmps3
      go_wp2
      go_ret
      exact ⟨rfl, Below.refl _ _⟩
    · have h2' : decide ((65536 : Int) < (s.size : Int)) = false := by simp; omega
      have h3' : (65536 : Int) < (i.size : Int) := by omega
      clear hb h1 h2
      go_enter Trym.func3, Trym.ntmps3
      go_wp2
      go_ret
      exact ⟨rfl, Below.refl _ _⟩

theorem ff_walk (m : Value) (s i : ByteArray) (n : Nat) (a c x y : Int) (w : World) (hlen : ∀ ty, (Builtin.len_ #[22] ty #[m]).run Trym.prog w = .ok (.int .i64 n) w) (hn : n ≤ 65536) (hs : s.size ≤ 65536) (hi : i.size ≤ 65536)
    (ls : Look w m s a c false) (li : Look w m i x y false) :
    Calls Trym.prog 3 #[m, .string s, .string i] w fun e w' => e = .returned (.bool true) ∧ Below w.heap.size w w' := by
  have h1' : decide ((65536 : Int) < (n : Int)) = false := by simp; omega
  have h2' : decide ((65536 : Int) < (s.size : Int)) = false := by simp; omega
  have h3' : decide ((65536 : Int) < (i.size : Int)) = false := by simp; omega
  have l1 := ls w (Below.refl _ _)
  have l2 := li (w.alloc (.cells #[.int .i64 a, .int .i64 c] 25)) (one_below _ _)
  have LS : Hid (Look w m s a c false) := ls
  have LI : Hid (Look w m i x y false) := li
  clear ls li
  go_enter Trym.func3, Trym.ntmps3
  go_wp2_with fail
  refine (zz_ff m s i a c x y _ (LS.out.later (two_below _ _ _)) (LI.out.later (two_below _ _ _))).mono ?_
  rintro e w3 ⟨rfl, k3⟩
  have k3' := (two_below w (.cells #[.int .i64 a, .int .i64 c] 25) (.cells #[.int .i64 x, .int .i64 y] 25)).trans (k3.mono (two_below w _ _).size)
  clear k3 l1 l2
  go_wp2_with fail
  refine (zz_ff m i s x y a c _ (LI.out.later k3') (LS.out.later k3')).mono ?_
  rintro e w4 ⟨rfl, k4⟩
  go_wp2_with fail
  go_ret
  exact ⟨rfl, k3'.trans (k4.mono k3'.size)⟩

/-- The two readings that the law holds, in blocks B and B + 1. -/
structure Rd (w : World) (B : Nat) (a c x y : Int) : Prop where
  r0 : w.cell? ⟨B, 0, none⟩ = some (.int .i64 a)
  r1 : w.cell? ⟨B, 1, none⟩ = some (.int .i64 c)
  r2 : w.cell? ⟨B + 1, 0, none⟩ = some (.int .i64 x)
  r3 : w.cell? ⟨B + 1, 1, none⟩ = some (.int .i64 y)
theorem Rd.drawn {w : World} {B : Nat} {a c x y : Int} (h : Rd w B a c x y) (n : Nat) : Rd (w.drewN n) B a c x y := ⟨h.r0, h.r1, h.r2, h.r3⟩
theorem Fig.drawn {w : World} {F S I : Nat} {okS okI : Bool} {a c x y : Int} (h : Fig w F S I okS okI a c x y) (n : Nat) : Fig (w.drewN n) F S I okS okI a c x y := h.later (below_drewN (Below.refl _ _) n)

/-- What the last region leans on, in a world w' that has grown out of w6. -/
def Still (F S I : Nat) (okS okI : Bool) (a c x y : Int) (B : Nat) (w6 w' : World) : Prop :=
  w'.cell? ⟨F, 0, none⟩ = some (p0 okS S) ∧ w'.cell? ⟨F, 1, none⟩ = some (p1 okS S) ∧ w'.cell? ⟨F, 2, none⟩ = some (p0 okI I) ∧ w'.cell? ⟨F, 3, none⟩ = some (p1 okI I) ∧ w'.cell? ⟨S, 0, none⟩ = some (.int .i64 a) ∧ w'.cell? ⟨S, 1, none⟩ = some (.int .i64 c) ∧ w'.cell? ⟨I, 0, none⟩ = some (.int .i64 x) ∧ w'.cell? ⟨I, 1, none⟩ = some (.int .i64 y) ∧
    w'.cell? ⟨B, 0, none⟩ = some (.int .i64 a) ∧ w'.cell? ⟨B, 1, none⟩ = some (.int .i64 c) ∧ w'.cell? ⟨B + 1, 0, none⟩ = some (.int .i64 x) ∧ w'.cell? ⟨B + 1, 1, none⟩ = some (.int .i64 y) ∧ Below w6.heap.size w6 w'

theorem still_of {F S I B : Nat} {okS okI : Bool} {a c x y : Int} {w6 w' : World} (g : Fig w6 F S I okS okI a c x y) (r : Rd w6 B a c x y) (hb : Below w6.heap.size w6 w') : Still F S I okS okI a c x y B w6 w' := by
  have g' := g.later hb
  have l0 := block_lt_of_cell r.r0
  have l2 := block_lt_of_cell r.r2
  exact ⟨g'.f0, g'.f1, g'.f2, g'.f3, g'.s0, g'.s1, g'.i0, g'.i1, (hb.cell (p := ⟨B, 0, none⟩) l0).trans r.r0, (hb.cell (p := ⟨B, 1, none⟩) l0).trans r.r1, (hb.cell (p := ⟨B + 1, 0, none⟩) l2).trans r.r2, (hb.cell (p := ⟨B + 1, 1, none⟩) l2).trans r.r3, hb⟩

theorem keep_of {F S I B : Nat} {okS okI : Bool} {a c x y : Int} {w6 W W' : World} (H : Hid (∀ w', Below w6.heap.size w6 w' → Still F S I okS okI a c x y B w6 w')) (h2 : Below W.heap.size W W') (h1 : Below w6.heap.size w6 W) : Still F S I okS okI a c x y B w6 W' :=
  H.out W' (h1.trans (h2.mono h1.size))

set_option maxRecDepth 100000 in
set_option maxHeartbeats 2000000 in
theorem fig_walk_t (m : Value) (s i : ByteArray) (n : Nat) (a c x y : Int) (okI : Bool) (w : World) (hlen : ∀ ty, (Builtin.len_ #[22] ty #[m]).run Trym.prog w = .ok (.int .i64 n) w) (hn : n ≤ 65536) (hs : s.size ≤ 65536) (hi : i.size ≤ 65536)
    (ls : Look w m s a c true) (li : Look w m i x y okI) :
    Calls Trym.prog 3 #[m, .string s, .string i] w fun e w' => e = .returned (.bool true) ∧ Below w.heap.size w w' := by
  have h1' : decide ((65536 : Int) < (n : Int)) = false := by simp; omega
  have h2' : decide ((65536 : Int) < (s.size : Int)) = false := by simp; omega
  have h3' : decide ((65536 : Int) < (i.size : Int)) = false := by simp; omega
  have l1 := ls w (Below.refl _ _)
  have l2 := li (w.alloc (.cells #[.int .i64 a, .int .i64 c] 25)) (one_below _ _)
  have LS : Hid (Look w m s a c true) := ls
  have LI : Hid (Look w m i x y okI) := li
  clear ls li
  go_enter Trym.func3, Trym.ntmps3
  go_wp2_with fail
  refine (zz_any m s i true okI rfl a c x y _ (LS.out.later (two_below _ _ _)) (LI.out.later (two_below _ _ _))).mono ?_
  rintro e w3 ⟨F1, S1, I1, rfl, g1, k3⟩
  have q0 : w3.cell? ⟨w.heap.size, 0, none⟩ = some (.int .i64 a) := (k3.cell (p := ⟨w.heap.size, 0, none⟩) (by simp; omega)).trans (rs_cell w a c x y 0)
  have q1 : w3.cell? ⟨w.heap.size, 1, none⟩ = some (.int .i64 c) := (k3.cell (p := ⟨w.heap.size, 1, none⟩) (by simp; omega)).trans (rs_cell w a c x y 1)
  have q2 : w3.cell? ⟨w.heap.size + 1, 0, none⟩ = some (.int .i64 x) := (k3.cell (p := ⟨w.heap.size + 1, 0, none⟩) (by simp)).trans (ri_cell w a c x y 0)
  have q3 : w3.cell? ⟨w.heap.size + 1, 1, none⟩ = some (.int .i64 y) := (k3.cell (p := ⟨w.heap.size + 1, 1, none⟩) (by simp)).trans (ri_cell w a c x y 1)
  have k3' := (two_below w (.cells #[.int .i64 a, .int .i64 c] 25) (.cells #[.int .i64 x, .int .i64 y] 25)).trans (k3.mono (two_below w _ _).size)
  have z3 : w.heap.size + 1 < w3.heap.size := by have := k3.size; simp at this; omega
  clear k3 l1 l2
  go_wp2_with fail
  refine (zz_any m i s okI true (by simp) x y a c _ (LI.out.later k3') (LS.out.later k3')).mono ?_
  rintro e w4 ⟨F2, S2, I2, rfl, g2, k4⟩
  replace g1 := g1.later k4
  have hr : Rd w4 w.heap.size a c x y := ⟨(k4.cell (p := ⟨w.heap.size, 0, none⟩) (show w.heap.size < w3.heap.size by omega)).trans q0, (k4.cell (p := ⟨w.heap.size, 1, none⟩) (show w.heap.size < w3.heap.size by omega)).trans q1,
    (k4.cell (p := ⟨w.heap.size + 1, 0, none⟩) z3).trans q2, (k4.cell (p := ⟨w.heap.size + 1, 1, none⟩) z3).trans q3⟩
  have k5 := k3'.trans (k4.mono k3'.size)
  clear k3' k4 q0 q1 q2 q3 z3 LS LI
  obtain ⟨f0, f1, f2, f3, s0, s1, i0, i1, lF, lS, lI⟩ := id g1
  obtain ⟨f0', f1', f2', f3', s0', s1', i0', i1', lF', lS', lI'⟩ := id g2
  go_wp2_with fail
  go_quiet (first | (go_at_call_of 7 (p0 true S1); exact Calls.quiet_of (same_p0 true S1 I2 a _ s0 i0')) | (go_at_call_of 7 (p1 true S1); exact Calls.quiet_of (same_p1 true S1 I2 c _ s1 i1')))
  replace g1 := g1.drawn nq
  replace g2 := g2.drawn nq
  replace hr := hr.drawn nq
  replace k5 := below_drewN k5 nq
  clear f0 f1 f2 f3 s0 s1 i0 i1 lF lS lI f0' f1' f2' f3' s0' s1' i0' i1' lF' lS' lI'
  generalize w4.drewN nq = w5 at *
  obtain ⟨f0, f1, f2, f3, s0, s1, i0, i1, lF, lS, lI⟩ := id g1
  obtain ⟨f0', f1', f2', f3', s0', s1', i0', i1', lF', lS', lI'⟩ := id g2
  go_wp2_with fail
  go_quiet (first | (go_at_call_of 7 (p0 okI I1); exact Calls.quiet_of (same_p0 okI I1 S2 x _ i0 s0')) | (go_at_call_of 7 (p1 okI I1); exact Calls.quiet_of (same_p1 okI I1 S2 y _ i1 s1')))
  replace g1 := g1.drawn nq
  replace hr := hr.drawn nq
  replace k5 := below_drewN k5 nq
  clear g2 f0 f1 f2 f3 s0 s1 i0 i1 lF lS lI f0' f1' f2' f3' s0' s1' i0' i1' lF' lS' lI'
  generalize w5.drewN nq = w6 at *
  have z6 : w.heap.size + 1 < w6.heap.size := block_lt_of_cell hr.r2
  have HS : Hid (∀ w', Below w6.heap.size w6 w' → Still F1 S1 I1 true okI a c x y w.heap.size w6 w') := fun w' hb => still_of g1 hr hb
  obtain ⟨f0, f1, f2, f3, s0, s1, i0, i1, lF, lS, lI⟩ := id g1
  obtain ⟨r0, r1, r2, r3⟩ := id hr
  clear g1 hr
  go_wp2_with fail
  go_region_held3 (fun w' => w'.cell? ⟨F1, 0, none⟩ = some (p0 true S1) ∧ w'.cell? ⟨F1, 1, none⟩ = some (p1 true S1) ∧ w'.cell? ⟨F1, 2, none⟩ = some (p0 okI I1) ∧ w'.cell? ⟨F1, 3, none⟩ = some (p1 okI I1) ∧ w'.cell? ⟨S1, 0, none⟩ = some (.int .i64 a) ∧ w'.cell? ⟨S1, 1, none⟩ = some (.int .i64 c) ∧ w'.cell? ⟨I1, 0, none⟩ = some (.int .i64 x) ∧ w'.cell? ⟨I1, 1, none⟩ = some (.int .i64 y) ∧ w'.cell? ⟨w.heap.size, 0, none⟩ = some (.int .i64 a) ∧ w'.cell? ⟨w.heap.size, 1, none⟩ = some (.int .i64 c) ∧ w'.cell? ⟨w.heap.size + 1, 0, none⟩ = some (.int .i64 x) ∧ w'.cell? ⟨w.heap.size + 1, 1, none⟩ = some (.int .i64 y) ∧ Below w6.heap.size w6 w')
    (first | exact HS.out _ (Below.drew (Below.refl _ _)) | (go_split_ands; exact keep_of HS (by assumption) (by assumption)))
    (first | (go_at_call_of 8 (p0 true S1); refine (half_any true S1 a c _ ?_ ?_).mono ?_; (go_split_ands; assumption); (go_split_ands; assumption); rintro e w7 ⟨rfl, k7⟩) | (go_at_call_of 8 (p0 okI I1); refine (half_any okI I1 x y _ ?_ ?_).mono ?_; (go_split_ands; assumption); (go_split_ands; assumption); rintro e w8 ⟨rfl, k8⟩))
  go_wp2_with fail
  go_ret
  go_split_ands
  exact ⟨rfl, k5.trans (Below.mono (B := w6.heap.size) (by assumption) k5.size)⟩

set_option maxRecDepth 100000 in
set_option maxHeartbeats 2000000 in
theorem fig_walk_f (m : Value) (s i : ByteArray) (n : Nat) (a c x y : Int) (w : World) (hlen : ∀ ty, (Builtin.len_ #[22] ty #[m]).run Trym.prog w = .ok (.int .i64 n) w) (hn : n ≤ 65536) (hs : s.size ≤ 65536) (hi : i.size ≤ 65536)
    (ls : Look w m s a c false) (li : Look w m i x y true) :
    Calls Trym.prog 3 #[m, .string s, .string i] w fun e w' => e = .returned (.bool true) ∧ Below w.heap.size w w' := by
  have h1' : decide ((65536 : Int) < (n : Int)) = false := by simp; omega
  have h2' : decide ((65536 : Int) < (s.size : Int)) = false := by simp; omega
  have h3' : decide ((65536 : Int) < (i.size : Int)) = false := by simp; omega
  have l1 := ls w (Below.refl _ _)
  have l2 := li (w.alloc (.cells #[.int .i64 a, .int .i64 c] 25)) (one_below _ _)
  have LS : Hid (Look w m s a c false) := ls
  have LI : Hid (Look w m i x y true) := li
  clear ls li
  go_enter Trym.func3, Trym.ntmps3
  go_wp2_with fail
  refine (zz_any m s i false true rfl a c x y _ (LS.out.later (two_below _ _ _)) (LI.out.later (two_below _ _ _))).mono ?_
  rintro e w3 ⟨F1, S1, I1, rfl, g1, k3⟩
  have q0 : w3.cell? ⟨w.heap.size, 0, none⟩ = some (.int .i64 a) := (k3.cell (p := ⟨w.heap.size, 0, none⟩) (by simp; omega)).trans (rs_cell w a c x y 0)
  have q1 : w3.cell? ⟨w.heap.size, 1, none⟩ = some (.int .i64 c) := (k3.cell (p := ⟨w.heap.size, 1, none⟩) (by simp; omega)).trans (rs_cell w a c x y 1)
  have q2 : w3.cell? ⟨w.heap.size + 1, 0, none⟩ = some (.int .i64 x) := (k3.cell (p := ⟨w.heap.size + 1, 0, none⟩) (by simp)).trans (ri_cell w a c x y 0)
  have q3 : w3.cell? ⟨w.heap.size + 1, 1, none⟩ = some (.int .i64 y) := (k3.cell (p := ⟨w.heap.size + 1, 1, none⟩) (by simp)).trans (ri_cell w a c x y 1)
  have k3' := (two_below w (.cells #[.int .i64 a, .int .i64 c] 25) (.cells #[.int .i64 x, .int .i64 y] 25)).trans (k3.mono (two_below w _ _).size)
  have z3 : w.heap.size + 1 < w3.heap.size := by have := k3.size; simp at this; omega
  clear k3 l1 l2
  go_wp2_with fail
  refine (zz_any m i s true false (by simp) x y a c _ (LI.out.later k3') (LS.out.later k3')).mono ?_
  rintro e w4 ⟨F2, S2, I2, rfl, g2, k4⟩
  replace g1 := g1.later k4
  have hr : Rd w4 w.heap.size a c x y := ⟨(k4.cell (p := ⟨w.heap.size, 0, none⟩) (show w.heap.size < w3.heap.size by omega)).trans q0, (k4.cell (p := ⟨w.heap.size, 1, none⟩) (show w.heap.size < w3.heap.size by omega)).trans q1,
    (k4.cell (p := ⟨w.heap.size + 1, 0, none⟩) z3).trans q2, (k4.cell (p := ⟨w.heap.size + 1, 1, none⟩) z3).trans q3⟩
  have k5 := k3'.trans (k4.mono k3'.size)
  clear k3' k4 q0 q1 q2 q3 z3 LS LI
  obtain ⟨f0, f1, f2, f3, s0, s1, i0, i1, lF, lS, lI⟩ := id g1
  obtain ⟨f0', f1', f2', f3', s0', s1', i0', i1', lF', lS', lI'⟩ := id g2
  go_wp2_with fail
  go_quiet (first | (go_at_call_of 7 (p0 false S1); exact Calls.quiet_of (same_p0 false S1 I2 a _ s0 i0')) | (go_at_call_of 7 (p1 false S1); exact Calls.quiet_of (same_p1 false S1 I2 c _ s1 i1')))
  replace g1 := g1.drawn nq
  replace g2 := g2.drawn nq
  replace hr := hr.drawn nq
  replace k5 := below_drewN k5 nq
  clear f0 f1 f2 f3 s0 s1 i0 i1 lF lS lI f0' f1' f2' f3' s0' s1' i0' i1' lF' lS' lI'
  generalize w4.drewN nq = w5 at *
  obtain ⟨f0, f1, f2, f3, s0, s1, i0, i1, lF, lS, lI⟩ := id g1
  obtain ⟨f0', f1', f2', f3', s0', s1', i0', i1', lF', lS', lI'⟩ := id g2
  go_wp2_with fail
  go_quiet (first | (go_at_call_of 7 (p0 true I1); exact Calls.quiet_of (same_p0 true I1 S2 x _ i0 s0')) | (go_at_call_of 7 (p1 true I1); exact Calls.quiet_of (same_p1 true I1 S2 y _ i1 s1')))
  replace g1 := g1.drawn nq
  replace hr := hr.drawn nq
  replace k5 := below_drewN k5 nq
  clear g2 f0 f1 f2 f3 s0 s1 i0 i1 lF lS lI f0' f1' f2' f3' s0' s1' i0' i1' lF' lS' lI'
  generalize w5.drewN nq = w6 at *
  have z6 : w.heap.size + 1 < w6.heap.size := block_lt_of_cell hr.r2
  have HS : Hid (∀ w', Below w6.heap.size w6 w' → Still F1 S1 I1 false true a c x y w.heap.size w6 w') := fun w' hb => still_of g1 hr hb
  obtain ⟨f0, f1, f2, f3, s0, s1, i0, i1, lF, lS, lI⟩ := id g1
  obtain ⟨r0, r1, r2, r3⟩ := id hr
  clear g1 hr
  go_wp2_with fail
  go_region_held3 (fun w' => w'.cell? ⟨F1, 0, none⟩ = some (p0 false S1) ∧ w'.cell? ⟨F1, 1, none⟩ = some (p1 false S1) ∧ w'.cell? ⟨F1, 2, none⟩ = some (p0 true I1) ∧ w'.cell? ⟨F1, 3, none⟩ = some (p1 true I1) ∧ w'.cell? ⟨S1, 0, none⟩ = some (.int .i64 a) ∧ w'.cell? ⟨S1, 1, none⟩ = some (.int .i64 c) ∧ w'.cell? ⟨I1, 0, none⟩ = some (.int .i64 x) ∧ w'.cell? ⟨I1, 1, none⟩ = some (.int .i64 y) ∧ w'.cell? ⟨w.heap.size, 0, none⟩ = some (.int .i64 a) ∧ w'.cell? ⟨w.heap.size, 1, none⟩ = some (.int .i64 c) ∧ w'.cell? ⟨w.heap.size + 1, 0, none⟩ = some (.int .i64 x) ∧ w'.cell? ⟨w.heap.size + 1, 1, none⟩ = some (.int .i64 y) ∧ Below w6.heap.size w6 w')
    (first | exact HS.out _ (Below.drew (Below.refl _ _)) | (go_split_ands; exact keep_of HS (by assumption) (by assumption)))
    (first | (go_at_call_of 8 (p0 false S1); refine (half_any false S1 a c _ ?_ ?_).mono ?_; (go_split_ands; assumption); (go_split_ands; assumption); rintro e w7 ⟨rfl, k7⟩) | (go_at_call_of 8 (p0 true I1); refine (half_any true I1 x y _ ?_ ?_).mono ?_; (go_split_ands; assumption); (go_split_ands; assumption); rintro e w8 ⟨rfl, k8⟩))
  go_wp2_with fail
  go_ret
  go_split_ands
  exact ⟨rfl, k5.trans (Below.mono (B := w6.heap.size) (by assumption) k5.size)⟩

end Go.Proofs.Qxb6619270aMods.Fo
