import Derived.Test.Qxb6619270aModsMirror
import Derived.Lib.SmallJoins
namespace Go.Proofs.Qxb6619270aMods.Fo
open Go.ChangeShapes Go.WideShapes Go.ChangeAt Go.RowKit Go.Maps Go.WideElems Go.Joins Go.WideMaps

theorem cells25 : Trym.prog.cellsOf 25 = 2 := by kernel_rfl
theorem cells2 : Trym.prog.cellsOf 2 = 1 := by kernel_rfl
theorem zero25 (w : World) : (zeroValue 25).run Trym.prog w = .ok (.agg #[.int .i64 0, .int .i64 0]) w := by kernel_rfl
theorem law23 : Keyed Trym.prog 23 := string_keyed Trym.underlying23

/-- An element as it is read: two int64s. -/
theorem elem25 {H : Type} {enc : TypeId × Value → H} {W : World} {base : Nat} {sp : Nat → Bool} {held : Bool} {n : Nat} {v : Value} {z : DataW H × List MemPlace} (h : elemAt enc Trym.prog W base sp held n 25 v = some z) :
    ∃ a c, v = .agg #[.int .i64 a, .int .i64 c] ∧ z.1 = .agg [.lit (.int .i64 a), .lit (.int .i64 c)] := by
  unfold elemAt at h
  split at h
  · rename_i hf
    cases v with
    | agg cs =>
      simp only [Value.formed, Trym.underlying25, cells25, beq_iff_eq] at hf
      obtain ⟨c0, c1, rfl⟩ := array2 hf
      obtain ⟨y0, y1, m, hx, _, h0, h1⟩ := trod_struct2 Trym.underlying25 h
      simp only [cells2, Value.cells] at h0 h1
      obtain ⟨a, e0, g0, _⟩ := DataW.trod_int Trym.underlying2 h0
      obtain ⟨c, e1, g1, _⟩ := DataW.trod_int Trym.underlying2 h1
      simp at e0 e1
      subst e0 e1
      exact ⟨a, c, rfl, by rw [hx, g0, g1]⟩
    | _ => simp [Value.formed, Trym.underlying25] at hf
  · cases h

/-- A look-up in a map that came in: ONE answer, in every world in which the map's block is as it was. -/
theorem look_some {H : Type} {enc : TypeId × Value → H} {W : World} {base : Nat} {sp : Nat → Bool} {held : Bool} {n : Nat} {b : Nat} {es : Array MapEntry} {clock : Nat} (hb : W.heap[b]? = some (.map es clock)) (F : Fit Trym.prog 23 (elemAt enc Trym.prog W base sp held n 25) es clock)
    (s : ByteArray) (hs : s.size ≤ maxLen) : ∃ a c ok, Look W (.map (some b)) s a c ok := by
  have hkey : keyOf Trym.prog 23 (.string s) = some (.string s.data.toList) := keyOf_string_mk Trym.underlying23 hs
  have hlt : b < W.heap.size := by
    rcases Nat.lt_or_ge b W.heap.size with h | h
    · exact h
    · rw [Array.getElem?_eq_none h] at hb; cases hb
  rcases fit_look true law23 Trym.underlying22 (zero25 W) hb F hkey with ⟨_, hno, _⟩ | ⟨e0, y, hm, hk, _, hR, hat, _⟩
  · refine ⟨0, 0, false, fun w' hbel => ?_⟩
    have hb' : w'.heap[b]? = some (.map es clock) := (hbel.block b hlt).trans hb
    rcases fit_look true law23 Trym.underlying22 (zero25 w') hb' F hkey with ⟨hrun, _, _⟩ | ⟨e1, _, hm1, hk1, _, _, _, _⟩
    · exact hrun
    · exact absurd hk1 (hno e1 hm1)
  · obtain ⟨a, c, hv, hd⟩ := elem25 hR
    refine ⟨a, c, true, fun w' hbel => ?_⟩
    have hb' : w'.heap[b]? = some (.map es clock) := (hbel.block b hlt).trans hb
    rcases fit_look true law23 Trym.underlying22 (zero25 w') hb' F hkey with ⟨_, hno, _⟩ | ⟨e1, y1, _, _, hrun, hR1, hat1, _⟩
    · exact absurd hk (hno e0 hm)
    · obtain ⟨a1, c1, hv1, hd1⟩ := elem25 hR1
      have hy : y.1 = y1.1 := (hat .nil).symm.trans (hat1 .nil)
      rw [hd, hd1] at hy
      injection hy with hy
      simp at hy
      obtain ⟨rfl, rfl⟩ := hy
      rw [hv1] at hrun
      exact hrun

theorem look_nil' (W : World) (s : ByteArray) (hs : s.size ≤ maxLen) : Look W (.map none) s 0 0 false := fun w' _ => by
  have hkey : keyOf Trym.prog 23 (.string s) = some (.string s.data.toList) := keyOf_string_mk Trym.underlying23 hs
  exact look_nil (w := w') true law23 Trym.underlying22 (zero25 w') hkey

theorem len_some {W : World} {b : Nat} {es : Array MapEntry} {clock : Nat} (hb : W.heap[b]? = some (.map es clock)) (ty : TypeId) : (Builtin.len_ #[22] ty #[.map (some b)]).run Trym.prog W = .ok (.int .i64 (es.size : Nat)) W := by
  simp [Builtin.len_, run_underlying Trym.underlying22, MapKept.run_getObj_map hb, goInt, Result.andThen]

/-- The law's walk, whatever the map holds. -/
theorem law_walk (m : Value) (s i : ByteArray) (n : Nat) (a c x y : Int) (okS okI : Bool) (w : World) (hlen : ∀ ty, (Builtin.len_ #[22] ty #[m]).run Trym.prog w = .ok (.int .i64 n) w) (hs : s.size ≤ maxLen) (hi : i.size ≤ maxLen)
    (ls : Look w m s a c okS) (li : Look w m i x y okI) :
    Calls Trym.prog 3 #[m, .string s, .string i] w fun e w' => e = .returned (.bool true) ∧ Below w.heap.size w w' := by
  by_cases hb : 65536 < n ∨ 65536 < s.size ∨ 65536 < i.size
  · exact big_walk m s i n w hlen hs hi hb
  · cases okS
    · cases okI
      · exact ff_walk m s i n a c x y w hlen (by omega) (by omega) (by omega) ls li
      · exact fig_walk_f m s i n a c x y w hlen (by omega) (by omega) (by omega) ls li
    · exact fig_walk_t m s i n a c x y okI w hlen (by omega) (by omega) (by omega) ls li
end Go.Proofs.Qxb6619270aMods.Fo
