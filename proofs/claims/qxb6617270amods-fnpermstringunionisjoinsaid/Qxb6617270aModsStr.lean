import Derived.Test.Qxb6617270aModsRows
import Derived.WalkKit
import Derived.ProofKit
import Derived.OpenShut
import Derived.ShutString
import Derived.Lib.SlBytesConst
import Derived.Laws.IdiomStrings
import Derived.WalkSpells
import Derived.WalkSmall
import Derived.Deep.QuietTactic
import Derived.Deep.Cut
import Derived.BigQuiet

namespace Go.Proofs.Qxb6617270aMods.Ps
open Go.ChangeShapes Go.WideShapes Go.ChangeAt Go.RowKit

/-- What Perm.String shows for four bits. -/
def ps (b0 b1 b2 b3 : Bool) : ByteArray := ⟨#[if b0 then 114 else 45, if b1 then 119 else 45, if b2 then 120 else 45, if b3 then 115 else 112]⟩

/-- The row of '[]byte("---p")', and its mark. -/
def dashes : Obj := .cells #[.int .u8 45, .int .u8 45, .int .u8 45, .int .u8 112] 5 (4, 5)

theorem dashes_frozen (w : World) (k : Nat) (h : k < 4) : (w.alloc dashes).frozen? ⟨w.heap.size, k, none⟩ = false := by
  have hb : (w.alloc dashes).heap[w.heap.size]? = some (.cells #[.int .u8 45, .int .u8 45, .int .u8 45, .int .u8 112] 5 (4, 5)) := (MapKept.heap_alloc _ _).1
  simp only [World.frozen?, hb]
  rw [decide_eq_false (show ¬ 4 ≤ k by omega)]
  rfl

theorem back (W : World) (B : Nat) (x0 x1 x2 x3 : UInt8) (h0 : W.cell? ⟨B, 0, none⟩ = some (.int .u8 (x0.toNat : Int))) (h1 : W.cell? ⟨B, 1, none⟩ = some (.int .u8 (x1.toNat : Int))) (h2 : W.cell? ⟨B, 2, none⟩ = some (.int .u8 (x2.toNat : Int))) (h3 : W.cell? ⟨B, 3, none⟩ = some (.int .u8 (x3.toNat : Int))) :
    (convert 30 9 (.slice (some ⟨B, 0, none⟩) 4 4)).run Trym.prog W = .ok (.string ⟨#[x0, x1, x2, x3]⟩) W :=
  run_convert_bytes_back (P := Trym.prog) W 30 9 5 ⟨B, 0, none⟩ 4 [x0, x1, x2, x3] Trym.underlying30 Trym.underlying5 Trym.underlying9 (fun j hj => by
    match j, hj with
    | 0, _ => exact h0
    | 1, _ => exact h1
    | 2, _ => exact h2
    | 3, _ => exact h3)

/-- A byte written where a bit is set. -/
def st (b : Bool) (w : World) (B k : Nat) (v : Int) : World := cond b (w.setCell ⟨B, k, none⟩ (.int .u8 v)) w

theorem st_same (b : Bool) (w : World) (B k : Nat) (v x : Int) (h : w.cell? ⟨B, k, none⟩ = some (.int .u8 x)) : (st b w B k v).cell? ⟨B, k, none⟩ = some (.int .u8 (cond b v x)) := by
  cases b
  · exact h
  · exact World.cell?_setCell_same w _ _ h

theorem st_other (b : Bool) (w : World) (B k j : Nat) (v : Int) (hne : k ≠ j) : (st b w B k v).cell? ⟨B, j, none⟩ = w.cell? ⟨B, j, none⟩ := by
  cases b
  · rfl
  · exact World.cell?_setCell_other w _ _ _ (by intro he; injection he with _ h2; exact hne h2)

theorem st_below (b : Bool) (w0 w : World) (B k : Nat) (v : Int) (h : Below B w0 w) : Below B w0 (st b w B k v) := by
  cases b
  · exact h
  · exact h.setCell (Nat.le_refl _) _

/-- The row as the four tests leave it. -/
def wst (w : World) (B : Nat) (b0 b1 b2 b3 : Bool) : World := st b3 (st b2 (st b1 (st b0 w B 0 114) B 1 119) B 2 120) B 3 115

theorem wst_below (w0 w : World) (B : Nat) (b0 b1 b2 b3 : Bool) (h : Below B w0 w) : Below B w0 (wst w B b0 b1 b2 b3) :=
  st_below _ _ _ _ _ _ (st_below _ _ _ _ _ _ (st_below _ _ _ _ _ _ (st_below _ _ _ _ _ _ h)))

theorem backW (w : World) (B : Nat) (b0 b1 b2 b3 : Bool) (c0 : w.cell? ⟨B, 0, none⟩ = some (.int .u8 45)) (c1 : w.cell? ⟨B, 1, none⟩ = some (.int .u8 45)) (c2 : w.cell? ⟨B, 2, none⟩ = some (.int .u8 45)) (c3 : w.cell? ⟨B, 3, none⟩ = some (.int .u8 112)) :
    (convert 30 9 (.slice (some ⟨B, 0, none⟩) 4 4)).run Trym.prog (wst w B b0 b1 b2 b3) = .ok (.string (ps b0 b1 b2 b3)) (wst w B b0 b1 b2 b3) := by
  refine back _ B _ _ _ _ ?_ ?_ ?_ ?_
  · unfold wst
    rw [st_other _ _ _ _ _ _ (by decide), st_other _ _ _ _ _ _ (by decide), st_other _ _ _ _ _ _ (by decide), st_same _ _ _ _ _ _ c0]
    cases b0 <;> rfl
  · unfold wst
    rw [st_other _ _ _ _ _ _ (by decide), st_other _ _ _ _ _ _ (by decide), st_same _ _ _ _ _ 45 (by rw [st_other _ _ _ _ _ _ (by decide)]; exact c1)]
    cases b1 <;> rfl
  · unfold wst
    rw [st_other _ _ _ _ _ _ (by decide), st_same _ _ _ _ _ 45 (by rw [st_other _ _ _ _ _ _ (by decide), st_other _ _ _ _ _ _ (by decide)]; exact c2)]
    cases b2 <;> rfl
  · unfold wst
    rw [st_same _ _ _ _ _ 112 (by rw [st_other _ _ _ _ _ _ (by decide), st_other _ _ _ _ _ _ (by decide), st_other _ _ _ _ _ _ (by decide)]; exact c3)]
    cases b3 <;> rfl

set_option maxHeartbeats 2000000 in
theorem str_any (p : Int) (b0 b1 b2 b3 : Bool) (w : World) (h0 : (bits BinOp.and IntKind.u8 p 1 != 0) = b0) (h1 : (bits BinOp.and IntKind.u8 p 2 != 0) = b1) (h2 : (bits BinOp.and IntKind.u8 p 4 != 0) = b2)  (h3 : (bits BinOp.and IntKind.u8 p 8 != 0) = b3) :
    Calls Trym.prog 5 #[.int .u8 p] w fun e w' => e = .returned (.string (ps b0 b1 b2 b3)) ∧ Below w.heap.size w w' := by
  have kc := fun (w : World) (C : Array Value) (n c : Nat) => Lib.run_convert_bytes_const (P := Trym.prog) w 30 5 C n c Trym.underlying30 Trym.underlying5
  have H0 : Hid ((bits BinOp.and IntKind.u8 p 1 != 0) = b0) := h0
  have H1 : Hid ((bits BinOp.and IntKind.u8 p 2 != 0) = b1) := h1
  have H2 : Hid ((bits BinOp.and IntKind.u8 p 4 != 0) = b2) := h2
  have H3 : Hid ((bits BinOp.and IntKind.u8 p 8 != 0) = b3) := h3
  clear h0 h1 h2 h3
  go_enter Trym.func5, Trym.ntmps5
  go_upto_region 2 with fail
  have hb0 : Below w.heap.size w (w.alloc dashes) := (Below.refl _ _).alloc (Nat.le_refl _) _
  have c0 : (w.alloc dashes).cell? ⟨w.heap.size, 0, none⟩ = some (.int .u8 45) := World.cell?_alloc_mark _ _ _ _ _
  have c1 : (w.alloc dashes).cell? ⟨w.heap.size, 1, none⟩ = some (.int .u8 45) := World.cell?_alloc_mark _ _ _ _ _
  have c2 : (w.alloc dashes).cell? ⟨w.heap.size, 2, none⟩ = some (.int .u8 45) := World.cell?_alloc_mark _ _ _ _ _
  have c3 : (w.alloc dashes).cell? ⟨w.heap.size, 3, none⟩ = some (.int .u8 112) := World.cell?_alloc_mark _ _ _ _ _
  have f0 := dashes_frozen w 0 (by decide)
  have f1 := dashes_frozen w 1 (by decide)
  have f2 := dashes_frozen w 2 (by decide)
  have f3 := dashes_frozen w 3 (by decide)
  have e1 : w.alloc (.cells #[.int .u8 45, .int .u8 45, .int .u8 45, .int .u8 112] 5 (4, 5)) = w.alloc dashes := rfl
  rw [e1]
  clear e1 kc
  generalize w.alloc dashes = w1 at *
  have hbe := wst_below w w1 w.heap.size b0 b1 b2 b3 hb0
  have hk := backW w1 w.heap.size b0 b1 b2 b3 c0 c1 c2 c3
  clear hb0
  have HE : Hid (Below w.heap.size w (wst w1 w.heap.size b0 b1 b2 b3)) := hbe
  clear hbe
  have h0 := H0.out
  have h1 := H1.out
  have h2 := H2.out
  have h3 := H3.out
  clear H0 H1 H2 H3
  cases b0 <;> cases b1 <;> cases b2 <;> cases b3
  all_goals
    simp only [wst, st, cond_true, cond_false] at hk
    go_wp2
    go_ret
    exact ⟨rfl, HE.out⟩

end Go.Proofs.Qxb6617270aMods.Ps
