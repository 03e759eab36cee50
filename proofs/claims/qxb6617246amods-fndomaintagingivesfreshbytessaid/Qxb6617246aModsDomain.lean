import Derived.Test.Qxb6617246aModsRows
import Derived.WalkKit
import Derived.ProofKit
import Derived.OpenShut
import Derived.ShutString
import Derived.Laws.IdiomStrings
import Derived.WalkSpells
import Derived.WalkSmall
import Derived.Deep.QuietTactic
import Derived.BigQuiet
namespace Go.Proofs.Qxb6617246aMods.Dt
open Go.ChangeShapes Go.WideShapes Go.ChangeAt Go.RowKit

/-- The bytes of s lie in block B of the world. -/
def Lies (s : ByteArray) (w : World) (B : Nat) : Prop := ∀ (k : Nat) (h : k < s.size), w.cell? ⟨B, k, none⟩ = some (.int .u8 ((s[k]'h).toNat : Int))

theorem row_at (s : ByteArray) (cap k : Nat) (h : k < s.size) : (bytesRow s cap)[k]? = some (.int .u8 ((s[k]'h).toNat : Int)) := by
  have h' : k < s.data.size := h
  unfold bytesRow
  rw [Array.getElem?_append_left (by simpa using h'), Array.getElem?_map, Array.getElem?_eq_getElem h']
  rfl

theorem row_size (s : ByteArray) (cap : Nat) : s.size ≤ (bytesRow s cap).size := by
  unfold bytesRow
  rw [Array.size_append, Array.size_map]
  exact Nat.le_add_right _ _

/-- What a conversion's new row leaves. -/
def Made (s : ByteArray) (w w' : World) (B : Nat) : Prop :=
  w.heap.size ≤ B ∧ B < w'.heap.size ∧ Lies s w' B ∧ (∀ k, k < s.size → w'.frozen? ⟨B, k, none⟩ = false) ∧ Below w.heap.size w w'

theorem made_of (s : ByteArray) (w : World) (o : Obj) (cap : Nat) :
    Made s w ((w.alloc o).alloc (.cells (bytesRow s cap) 5 ((bytesRow s cap).size, (bytesRow s cap).size + 1))).drew (w.heap.size + 1) := by
  have e : (w.alloc o).heap.size = w.heap.size + 1 := by simp
  refine ⟨by omega, by simp, fun k h => ?_, fun k h => ?_, ?_⟩
  · show ((w.alloc o).alloc _).cell? _ = _
    rw [← e, World.cell?_alloc_mark]
    exact row_at s cap k h
  · show ((w.alloc o).alloc _).frozen? _ = _
    have hb : ((w.alloc o).alloc (.cells (bytesRow s cap) 5 ((bytesRow s cap).size, (bytesRow s cap).size + 1))).heap[w.heap.size + 1]? = some (.cells (bytesRow s cap) 5 ((bytesRow s cap).size, (bytesRow s cap).size + 1)) := by
      rw [← e]; exact (MapKept.heap_alloc _ _).1
    have := row_size s cap
    simp only [World.frozen?, hb]
    rw [decide_eq_false (show ¬ (bytesRow s cap).size ≤ k by omega)]
    rfl
  · exact (((Below.refl _ _).alloc (Nat.le_refl _) _).alloc (by simp) _).drew

theorem in_one (s0 s1 : ByteArray) (w : World) :
    Calls Trym.prog 11 #[.agg #[.string s0, .string s1], .int .u8 1] w fun e w' => ∃ B cap, e = .returned (.slice (some ⟨B, 0, none⟩) s0.size cap) ∧ Made s0 w w' B := by
  have hcv2 := fun w s => run_bytes_of_string (P := Trym.prog) w 9 27 5 s Trym.underlying9 Trym.underlying27 Trym.underlying5
  go_enter Trym.func11, Trym.ntmps11
  go_wp2
  go_ret
  exact ⟨_, _, rfl, made_of _ _ _ _⟩

theorem in_two (s0 s1 : ByteArray) (g : Int) (hg : (g == 1) = false) (w : World) :
    Calls Trym.prog 11 #[.agg #[.string s0, .string s1], .int .u8 g] w fun e w' => ∃ B cap, e = .returned (.slice (some ⟨B, 0, none⟩) s1.size cap) ∧ Made s1 w w' B := by
  have hcv2 := fun w s => run_bytes_of_string (P := Trym.prog) w 9 27 5 s Trym.underlying9 Trym.underlying27 Trym.underlying5
  go_enter Trym.func11, Trym.ntmps11
  go_wp2
  go_ret
  exact ⟨_, _, rfl, made_of _ _ _ _⟩

theorem zz_one (s0 s1 : ByteArray) (w : World) :
    Calls Trym.prog 9 #[.string s0, .string s1, .int .u8 1] w fun e w' => ∃ B cap, e = .returned (.slice (some ⟨B, 0, none⟩) s0.size cap) ∧ Made s0 w w' B := by
  go_enter Trym.func9, Trym.ntmps9
  go_wp2_with fail
  refine (in_one s0 s1 _).mono ?_
  rintro e w' ⟨B, cap, rfl, hm⟩
  go_wp2_with fail
  go_ret
  exact ⟨B, cap, rfl, hm⟩

theorem zz_two (s0 s1 : ByteArray) (g : Int) (hg : (g == 1) = false) (w : World) :
    Calls Trym.prog 9 #[.string s0, .string s1, .int .u8 g] w fun e w' => ∃ B cap, e = .returned (.slice (some ⟨B, 0, none⟩) s1.size cap) ∧ Made s1 w w' B := by
  go_enter Trym.func9, Trym.ntmps9
  go_wp2_with fail
  refine (in_two s0 s1 g hg _).mono ?_
  rintro e w' ⟨B, cap, rfl, hm⟩
  go_wp2_with fail
  go_ret
  exact ⟨B, cap, rfl, hm⟩

theorem bound_any (s0 s1 : ByteArray) (g : Int) (h0 : s0.size ≤ maxLen) (h1 : s1.size ≤ maxLen) (w : World) :
    Calls Trym.prog 8 #[.string s0, .string s1, .int .u8 g] w fun e w' => (∃ b, e = .returned (.bool b)) ∧ w = w' := by
  unfold maxLen at h0 h1
  go_enter Trym.func8, Trym.ntmps8
  go_wp2
  all_goals go_ret
  all_goals exact ⟨⟨_, rfl⟩, rfl⟩

theorem eq_any (s : ByteArray) (B cap : Nat) (w : World) (hs : s.size ≤ maxLen) (hl : Lies s w B) :
    Calls Trym.prog 10 #[.slice (some ⟨B, 0, none⟩) s.size cap, .string s] w fun e w' => e = .returned (.bool true) ∧ ∃ n, w' = w.drewN n := by
  unfold maxLen at hs
  go_enter Trym.func10, Trym.ntmps10
  go_wp2
  go_loopw [5] (fun i wr => ∃ k n : Nat, k ≤ s.size ∧ i = .int .i64 k ∧ wr = w.drewN n) (fun i _ => s.size - (intOf i).toNat)
  case atStart => exact ⟨0, 0, Nat.zero_le _, rfl, rfl⟩
  case round =>
    obtain ⟨k, n, hk, rfl, rfl⟩ := hrel
    by_cases hlt : k < s.size
    · have hc := hl k hlt
      have hlt' : (k : Int) < (s.size : Int) := by omega
      go_wp2
      go_quiet (fail)
      go_wp2
      go_roundw
      case rel => exact ⟨k + 1, _, by omega, by go_num, rfl⟩
      case measure => simp [intOf]; omega
    · go_wp2
      go_ret
      exact ⟨rfl, _, rfl⟩
end Go.Proofs.Qxb6617246aMods.Dt
