/- THE ARGUMENT: a slice of steps, opened. -/
import Derived.Test.YbulkdndmWInv
import Derived.Test.YbulkdndmOpen
namespace Go.Proofs.Ybulkdndm
open Go.ChangeShapes Go.WideShapes Go.ChangeAt Go.RowKit Go.Deep

theorem cells29 : Yba.prog.cellsOf 29 = 3 := by kernel_rfl
theorem cells5 : Yba.prog.cellsOf 5 = 1 := by kernel_rfl
theorem cells4 : Yba.prog.cellsOf 4 = 1 := by kernel_rfl

theorem open_step {H : Type} {enc : TypeId × Value → H} {W : World} {base n : Nat} {spare : Nat → Bool} {held : Bool} {cs : List Value} {x : DataW H × List MemPlace} (h : DataW.trod enc Yba.prog W base spare held n 29 cs = some x) :
    ∃ st : Step, cs = [.int .u8 st.1.1, .int .i64 st.1.2, .bool st.2] ∧ 0 ≤ st.1.1 ∧ (Lit.int .i64 st.1.2).wf = true := by
  obtain ⟨y0, y1, y2, n', _, hl, t0, t1, t2⟩ := trod_struct3 Yba.underlying29 h
  rw [cells29] at hl
  simp only [cells5, cells2, cells4] at t0 t1 t2
  match cs, hl with
  | [c0, c1, c2], _ =>
    simp at t0 t1 t2
    obtain ⟨a, e0, _, w0⟩ := DataW.trod_int Yba.underlying5 t0
    obtain ⟨c, e1, _, w1⟩ := DataW.trod_int Yba.underlying2 t1
    obtain ⟨s, e2, _⟩ := DataW.trod_bool Yba.underlying4 t2
    simp at e0 e1 e2
    subst e0 e1 e2
    exact ⟨((a, c), s), rfl, (bounds_u8 w0).1, w1⟩

theorem open_steps {H : Type} {enc : TypeId × Value → H} {W : World} {base fuel : Nat} {a0 : Option Addr} {len cap : Nat} {x : DataW H × List MemPlace} (h : DataW.trod enc Yba.prog W base (fun _ => true) true fuel 22 [.slice a0 len cap] = some x) :
    len ≤ maxLen ∧ ∃ sts : List Step, sts.length = len ∧ StepsAt W a0 sts := by
  rcases open_slice Yba.underlying22 h with ⟨hcs, _⟩ | ⟨a, len', cap', m, n, D, Pl, hcs, _, hl, hm, hmm, _, hx⟩
  · simp at hcs
    obtain ⟨rfl, rfl, rfl⟩ := hcs
    exact ⟨Nat.zero_le _, [], rfl, .inl rfl⟩
  · simp at hcs
    obtain ⟨rfl, rfl, rfl⟩ := hcs
    refine ⟨by omega, ?_⟩
    rcases Nat.eq_zero_or_pos len with h0 | h0
    · exact ⟨[], h0.symm, .inl rfl⟩
    · simp only [if_true] at hmm
      subst hmm
      rw [cells29] at hx
      obtain ⟨f, hf⟩ := choose_lt (α := Step) (n := len) (p := fun i st => (∀ j, j < 3 → W.cell? ((a.add (i * 3)).add j) = [Value.int .u8 st.1.1, .int .i64 st.1.2, .bool st.2][j]?) ∧ 0 ≤ st.1.1 ∧ (Lit.int .i64 st.1.2).wf = true) (fun i hi => by
        obtain ⟨cs', h1, h2⟩ := hx i (by omega)
        obtain ⟨_, hlen, hc⟩ := World.cells?_some h1
        obtain ⟨st, rfl, hs⟩ := open_step h2
        exact ⟨st, hc, hs⟩)
      have h00 : W.cell? ((a.add (0 * 3)).add 0) = some (.int .u8 (f 0).1.1) := (hf 0 h0).1 0 (by omega)
      obtain ⟨b, off, spot⟩ := a
      have hspot : spot = none := by simpa [Addr.add] using World.cell?_spot h00
      subst hspot
      refine ⟨(List.range len).map f, by simp, .inr ⟨b, off, rfl, ?_, ?_⟩⟩
      · simpa [Addr.add] using World.block_lt_of_cell? _ _ h00
      · intro j hj
        have hj' : j < len := by simpa using hj
        rw [range_get f hj']
        obtain ⟨e, e2⟩ := hf j hj'
        have q0 := e 0 (by omega)
        have q1 := e 1 (by omega)
        have q2 := e 2 (by omega)
        rw [Addr.add_lit, Addr.add_lit] at q0 q1 q2
        exact ⟨⟨q0, q1, q2⟩, e2⟩
end Go.Proofs.Ybulkdndm
