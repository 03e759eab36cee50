import Derived.Test.Qxb6619270aModsRows
import Derived.WalkKit
import Derived.ProofKit
import Derived.OpenShut
import Derived.ShutString
import Derived.WalkSpells
import Derived.WalkSmall
import Derived.Deep.QuietTactic
import Derived.BigQuiet
import Derived.Maps.OwnSet
import Derived.Laws.IdiomStrings
namespace Go.Proofs.Qxb6619270aMods.Fo
open Go.ChangeShapes Go.WideShapes Go.ChangeAt Go.RowKit Go.Maps

/-- What a look-up in the map m at the key s answers, in every world in which what was there in w is as it was. -/
def Look (w : World) (m : Value) (s : ByteArray) (a c : Int) (ok : Bool) : Prop :=
  ∀ w', Below w.heap.size w w' → (Instr.lookup 22 m (.string s) true).run Trym.prog w' = .ok (.tuple #[.agg #[.int .i64 a, .int .i64 c], .bool ok]) w'

theorem Look.later {w w1 : World} {m : Value} {s : ByteArray} {a c : Int} {ok : Bool} (h : Look w m s a c ok) (hb : Below w.heap.size w w1) : Look w1 m s a c ok :=
  fun w' h' => h w' (hb.trans (h'.mono hb.size))

theorem one_below (w : World) (o : Obj) : Below w.heap.size w (w.alloc o) := (Below.refl _ _).alloc (Nat.le_refl _) _
theorem two_below (w : World) (o1 o2 : Obj) : Below w.heap.size w ((w.alloc o1).alloc o2) := (one_below w o1).alloc (by simp) _
theorem three_below (w : World) (o1 o2 o3 : Obj) : Below w.heap.size w (((w.alloc o1).alloc o2).alloc o3) := (two_below w o1 o2).alloc (by simp; omega) _

/-- The two pointers of a half: to the two cells of block S, or nil. -/
def p0 (ok : Bool) (S : Nat) : Value := .pointer (cond ok (some ⟨S, 0, none⟩) none)
def p1 (ok : Bool) (S : Nat) : Value := .pointer (cond ok (some ⟨S, 1, none⟩) none)

/-- Figures in block F: the space half in block S, the inode half in block I. -/
structure Fig (w : World) (F S I : Nat) (okS okI : Bool) (a c x y : Int) : Prop where
  f0 : w.cell? ⟨F, 0, none⟩ = some (p0 okS S)
  f1 : w.cell? ⟨F, 1, none⟩ = some (p1 okS S)
  f2 : w.cell? ⟨F, 2, none⟩ = some (p0 okI I)
  f3 : w.cell? ⟨F, 3, none⟩ = some (p1 okI I)
  s0 : w.cell? ⟨S, 0, none⟩ = some (.int .i64 a)
  s1 : w.cell? ⟨S, 1, none⟩ = some (.int .i64 c)
  i0 : w.cell? ⟨I, 0, none⟩ = some (.int .i64 x)
  i1 : w.cell? ⟨I, 1, none⟩ = some (.int .i64 y)
  lF : F < w.heap.size
  lS : S < w.heap.size
  lI : I < w.heap.size

theorem Fig.later {w w' : World} {F S I : Nat} {okS okI : Bool} {a c x y : Int} (h : Fig w F S I okS okI a c x y) (hb : Below w.heap.size w w') : Fig w' F S I okS okI a c x y where
  f0 := (hb.cell (p := ⟨F, 0, none⟩) h.lF).trans h.f0
  f1 := (hb.cell (p := ⟨F, 1, none⟩) h.lF).trans h.f1
  f2 := (hb.cell (p := ⟨F, 2, none⟩) h.lF).trans h.f2
  f3 := (hb.cell (p := ⟨F, 3, none⟩) h.lF).trans h.f3
  s0 := (hb.cell (p := ⟨S, 0, none⟩) h.lS).trans h.s0
  s1 := (hb.cell (p := ⟨S, 1, none⟩) h.lS).trans h.s1
  i0 := (hb.cell (p := ⟨I, 0, none⟩) h.lI).trans h.i0
  i1 := (hb.cell (p := ⟨I, 1, none⟩) h.lI).trans h.i1
  lF := Nat.lt_of_lt_of_le h.lF hb.size
  lS := Nat.lt_of_lt_of_le h.lS hb.size
  lI := Nat.lt_of_lt_of_le h.lI hb.size

/-- What fsOf lays. -/
theorem fig_of (w : World) (okS okI : Bool) (a c x y : Int) :
    Fig (((w.alloc (.cells #[.int .i64 a, .int .i64 c] 25)).alloc (.cells #[.int .i64 x, .int .i64 y] 25)).alloc (.cells #[p0 okS w.heap.size, p1 okS w.heap.size, p0 okI (w.heap.size + 1), p1 okI (w.heap.size + 1)] 32)) (w.heap.size + 2) w.heap.size (w.heap.size + 1) okS okI a c x y := by
  have e1 : (w.alloc (.cells #[.int .i64 a, .int .i64 c] 25)).heap.size = w.heap.size + 1 := by simp
  have e2 : ((w.alloc (.cells #[.int .i64 a, .int .i64 c] 25)).alloc (.cells #[.int .i64 x, .int .i64 y] 25)).heap.size = w.heap.size + 2 := by simp
  have hF : ∀ (C : Array Value) (j : Nat), (((w.alloc (.cells #[.int .i64 a, .int .i64 c] 25)).alloc (.cells #[.int .i64 x, .int .i64 y] 25)).alloc (.cells C 32)).cell? ⟨w.heap.size + 2, j, none⟩ = C[j]? := fun C j => by
    rw [← e2]; exact World.cell?_alloc_mark _ _ _ _ _
  have hI : ∀ (o : Obj) (j : Nat), (((w.alloc (.cells #[.int .i64 a, .int .i64 c] 25)).alloc (.cells #[.int .i64 x, .int .i64 y] 25)).alloc o).cell? ⟨w.heap.size + 1, j, none⟩ = (#[.int .i64 x, .int .i64 y] : Array Value)[j]? := fun o j => by
    rw [(one_below _ o).cell (p := ⟨w.heap.size + 1, j, none⟩) (by rw [e2]; exact Nat.lt_succ_self _), ← e1]; exact World.cell?_alloc_mark _ _ _ _ _
  have hS : ∀ (o : Obj) (j : Nat), (((w.alloc (.cells #[.int .i64 a, .int .i64 c] 25)).alloc (.cells #[.int .i64 x, .int .i64 y] 25)).alloc o).cell? ⟨w.heap.size, j, none⟩ = (#[.int .i64 a, .int .i64 c] : Array Value)[j]? := fun o j => by
    rw [(one_below _ o).cell (p := ⟨w.heap.size, j, none⟩) (by rw [e2]; exact Nat.lt_add_of_pos_right (by decide)), (one_below _ _).cell (p := ⟨w.heap.size, j, none⟩) (by rw [e1]; exact Nat.lt_succ_self _)]; exact World.cell?_alloc_mark _ _ _ _ _
  have lt : ∀ o : Obj, (((w.alloc (.cells #[.int .i64 a, .int .i64 c] 25)).alloc (.cells #[.int .i64 x, .int .i64 y] 25)).alloc o).heap.size = w.heap.size + 3 := fun o => by simp
  exact ⟨hF _ 0, hF _ 1, hF _ 2, hF _ 3, hS _ 0, hS _ 1, hI _ 0, hI _ 1, by rw [lt]; omega, by rw [lt]; omega, by rw [lt]; omega⟩

theorem fs_tt (m : Value) (s i : ByteArray) (a c x y : Int) (w : World) (hs : Look w m s a c true) (hi : Look w m i x y true) :
    Calls Trym.prog 14 #[m, .string s, .string i] w fun e w' => ∃ F S I, e = .returned (.pointer (some ⟨F, 0, none⟩)) ∧ Fig w' F S I true true a c x y ∧ Below w.heap.size w w' := by
  have l1 := hs w (Below.refl _ _)
  have l2 := hi (w.alloc (.cells #[.int .i64 a, .int .i64 c] 25)) (one_below _ _)
  have HF : Hid (Fig (((w.alloc (.cells #[.int .i64 a, .int .i64 c] 25)).alloc (.cells #[.int .i64 x, .int .i64 y] 25)).alloc (.cells #[p0 true w.heap.size, p1 true w.heap.size, p0 true (w.heap.size + 1), p1 true (w.heap.size + 1)] 32)) (w.heap.size + 2) w.heap.size (w.heap.size + 1) true true a c x y) := fig_of w true true a c x y
  clear hs hi
  go_enter Trym.func14, Trym.ntmps14
  go_wp2
  go_ret
  exact ⟨_, _, _, rfl, HF.out, three_below _ _ _ _⟩

theorem fs_tf (m : Value) (s i : ByteArray) (a c x y : Int) (w : World) (hs : Look w m s a c true) (hi : Look w m i x y false) :
    Calls Trym.prog 14 #[m, .string s, .string i] w fun e w' => ∃ F S I, e = .returned (.pointer (some ⟨F, 0, none⟩)) ∧ Fig w' F S I true false a c x y ∧ Below w.heap.size w w' := by
  have l1 := hs w (Below.refl _ _)
  have l2 := hi (w.alloc (.cells #[.int .i64 a, .int .i64 c] 25)) (one_below _ _)
  have HF : Hid (Fig (((w.alloc (.cells #[.int .i64 a, .int .i64 c] 25)).alloc (.cells #[.int .i64 x, .int .i64 y] 25)).alloc (.cells #[p0 true w.heap.size, p1 true w.heap.size, p0 false (w.heap.size + 1), p1 false (w.heap.size + 1)] 32)) (w.heap.size + 2) w.heap.size (w.heap.size + 1) true false a c x y) := fig_of w true false a c x y
  clear hs hi
  go_enter Trym.func14, Trym.ntmps14
  go_wp2
  go_ret
  exact ⟨_, _, _, rfl, HF.out, three_below _ _ _ _⟩

theorem fs_ft (m : Value) (s i : ByteArray) (a c x y : Int) (w : World) (hs : Look w m s a c false) (hi : Look w m i x y true) :
    Calls Trym.prog 14 #[m, .string s, .string i] w fun e w' => ∃ F S I, e = .returned (.pointer (some ⟨F, 0, none⟩)) ∧ Fig w' F S I false true a c x y ∧ Below w.heap.size w w' := by
  have l1 := hs w (Below.refl _ _)
  have l2 := hi (w.alloc (.cells #[.int .i64 a, .int .i64 c] 25)) (one_below _ _)
  have HF : Hid (Fig (((w.alloc (.cells #[.int .i64 a, .int .i64 c] 25)).alloc (.cells #[.int .i64 x, .int .i64 y] 25)).alloc (.cells #[p0 false w.heap.size, p1 false w.heap.size, p0 true (w.heap.size + 1), p1 true (w.heap.size + 1)] 32)) (w.heap.size + 2) w.heap.size (w.heap.size + 1) false true a c x y) := fig_of w false true a c x y
  clear hs hi
  go_enter Trym.func14, Trym.ntmps14
  go_wp2
  go_ret
  exact ⟨_, _, _, rfl, HF.out, three_below _ _ _ _⟩

theorem fs_ff (m : Value) (s i : ByteArray) (a c x y : Int) (w : World) (hs : Look w m s a c false) (hi : Look w m i x y false) :
    Calls Trym.prog 14 #[m, .string s, .string i] w fun e w' => e = .returned (.pointer none) ∧ Below w.heap.size w w' := by
  have l1 := hs w (Below.refl _ _)
  have l2 := hi (w.alloc (.cells #[.int .i64 a, .int .i64 c] 25)) (one_below _ _)
  clear hs hi
  go_enter Trym.func14, Trym.ntmps14
  go_wp2
  go_ret
  exact ⟨rfl, two_below _ _ _⟩

/-- fsOf, in its three cases with figures. -/
theorem fs_any (m : Value) (s i : ByteArray) (okS okI : Bool) (h : (okS || okI) = true) (a c x y : Int) (w : World) (hs : Look w m s a c okS) (hi : Look w m i x y okI) :
    Calls Trym.prog 14 #[m, .string s, .string i] w fun e w' => ∃ F S I, e = .returned (.pointer (some ⟨F, 0, none⟩)) ∧ Fig w' F S I okS okI a c x y ∧ Below w.heap.size w w' := by
  cases okS <;> cases okI
  · cases h
  · exact fs_ft m s i a c x y w hs hi
  · exact fs_tf m s i a c x y w hs hi
  · exact fs_tt m s i a c x y w hs hi

theorem zz_any (m : Value) (s i : ByteArray) (okS okI : Bool) (h : (okS || okI) = true) (a c x y : Int) (w : World) (hs : Look w m s a c okS) (hi : Look w m i x y okI) :
    Calls Trym.prog 6 #[m, .string s, .string i] w fun e w' => ∃ F S I, e = .returned (.pointer (some ⟨F, 0, none⟩)) ∧ Fig w' F S I okS okI a c x y ∧ Below w.heap.size w w' := by
  go_enter Trym.func6, Trym.ntmps6
  go_wp2_with fail
  refine (fs_any m s i okS okI h a c x y _ hs hi).mono ?_
  rintro e w1 ⟨F, S, I, rfl, hF, hb⟩
  go_wp2_with fail
  go_ret
  exact ⟨F, S, I, rfl, hF, hb⟩

theorem zz_ff (m : Value) (s i : ByteArray) (a c x y : Int) (w : World) (hs : Look w m s a c false) (hi : Look w m i x y false) :
    Calls Trym.prog 6 #[m, .string s, .string i] w fun e w' => e = .returned (.pointer none) ∧ Below w.heap.size w w' := by
  go_enter Trym.func6, Trym.ntmps6
  go_wp2_with fail
  refine (fs_ff m s i a c x y _ hs hi).mono ?_
  rintro e w1 ⟨rfl, hb⟩
  go_wp2_with fail
  go_ret
  exact ⟨rfl, hb⟩

/-- zzSameValue at two nils. -/
theorem same_nil (w : World) :
    Calls Trym.prog 7 #[.pointer none, .pointer none] w fun e w' => e = .returned (.bool true) ∧ ∃ n, w' = w.drewN n := by
  go_enter Trym.func7, Trym.ntmps7
  go_wp2
  go_ret
  exact ⟨rfl, 0, rfl⟩

/-- zzSameValue at two cells that hold one number. -/
theorem same_val (a : Int) (p q : Addr) (w : World) (hp : w.cell? p = some (.int .i64 a)) (hq : w.cell? q = some (.int .i64 a)) :
    Calls Trym.prog 7 #[.pointer (some p), .pointer (some q)] w fun e w' => e = .returned (.bool true) ∧ ∃ n, w' = w.drewN n := by
  go_enter Trym.func7, Trym.ntmps7
  go_wp2
  go_quiet (fail)
  go_wp2
  go_ret
  exact ⟨rfl, _, rfl⟩

/-- zzHalfIs where the reading is missing and the half is nil. -/
theorem half_no (a c : Int) (w : World) :
    Calls Trym.prog 8 #[.pointer none, .pointer none, .bool false, .agg #[.int .i64 a, .int .i64 c]] w fun e w' => e = .returned (.bool true) ∧ Below w.heap.size w w' := by
  go_enter Trym.func8, Trym.ntmps8
  go_wp2
  go_ret
  exact ⟨rfl, one_below _ _⟩

/-- zzHalfIs where the reading is there and the half's two cells hold it. -/
theorem half_yes (a c : Int) (p q : Addr) (w : World) (hp : w.cell? p = some (.int .i64 a)) (hq : w.cell? q = some (.int .i64 c)) :
    Calls Trym.prog 8 #[.pointer (some p), .pointer (some q), .bool true, .agg #[.int .i64 a, .int .i64 c]] w fun e w' => e = .returned (.bool true) ∧ Below w.heap.size w w' := by
  have hpn : p.block < w.heap.size := block_lt_of_cell hp
  have hqn : q.block < w.heap.size := block_lt_of_cell hq
  have hp' : (w.alloc (.cells #[.int .i64 a, .int .i64 c] 25)).cell? p = some (.int .i64 a) := ((one_below w _).cell hpn).trans hp
  have hq' : (w.alloc (.cells #[.int .i64 a, .int .i64 c] 25)).cell? q = some (.int .i64 c) := ((one_below w _).cell hqn).trans hq
  go_enter Trym.func8, Trym.ntmps8
  go_wp2
  go_quiet (fail)
  go_wp2
  go_ret
  exact ⟨rfl, below_drewN (one_below _ _) _⟩
end Go.Proofs.Qxb6619270aMods.Fo
