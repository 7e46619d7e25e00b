/- THE ARGUMENTS: a slice of strings, a slice of integers, opened. -/
import Derived.Test.YbulkdndmLitInv
import Derived.ProofKit
import Derived.OpenShut
import Derived.Deep.Slices
import Derived.Deep.Strs
namespace Go.Proofs.Ybulkdndm
open Go.ChangeShapes Go.WideShapes Go.ChangeAt Go.RowKit Go.Deep

theorem cells9 : Yba.prog.cellsOf 9 = 1 := by kernel_rfl
theorem cells2 : Yba.prog.cellsOf 2 = 1 := by kernel_rfl

theorem range_get {α : Type} [Inhabited α] (f : Nat → α) {n j : Nat} (h : j < n) : ((List.range n).map f)[j]! = f j := by
  rw [getElem!_pos _ _ (by simpa using h)]; simp

theorem open_strs {H : Type} {enc : TypeId × Value → H} {W : World} {base fuel : Nat} {a0 : Option Addr} {len cap : Nat} {x : DataW H × List MemPlace} (h : DataW.trod enc Yba.prog W base (fun _ => true) true fuel 26 [.slice a0 len cap] = some x) :
    len ≤ maxLen ∧ ∃ ks : List ByteArray, ks.length = len ∧ StrsAt W a0 ks := by
  rcases open_slice Yba.underlying26 h with ⟨hcs, _⟩ | ⟨a, len', cap', m, n, D, Pl, hcs, _, hl, hm, hmm, _, hx⟩
  · simp at hcs
    obtain ⟨rfl, rfl, rfl⟩ := hcs
    exact ⟨Nat.zero_le _, [], rfl, .inl rfl⟩
  · simp at hcs
    obtain ⟨rfl, rfl, rfl⟩ := hcs
    refine ⟨by omega, ?_⟩
    rcases Nat.eq_zero_or_pos len with h0 | h0
    · exact ⟨[], h0.symm, .inl rfl⟩
    · simp only [if_true] at hmm
      subst hmm
      rw [cells9] at hx
      obtain ⟨f, hf⟩ := choose_lt (α := ByteArray) (n := len) (p := fun i s => W.cell? (a.add i) = some (.string s) ∧ s.size ≤ maxLen) (fun i hi => by
        obtain ⟨cs', h1, h2⟩ := hx i (by omega)
        obtain ⟨_, hlen, hc⟩ := World.cells?_some h1
        obtain ⟨s, hs, _, hsz⟩ := DataW.trod_string Yba.underlying9 h2
        have := hc 0 (by omega)
        rw [hs] at this
        refine ⟨s, ?_, hsz⟩
        simpa [Addr.add] using this)
      obtain ⟨b, off, spot⟩ := a
      have hspot : spot = none := by simpa [Addr.add] using World.cell?_spot (hf 0 h0).1
      subst hspot
      refine ⟨(List.range len).map f, by simp, .inr ⟨b, off, rfl, ?_, ?_⟩⟩
      · simpa [Addr.add] using World.block_lt_of_cell? _ _ (hf 0 h0).1
      · intro j hj
        have hj' : j < len := by simpa using hj
        rw [range_get f hj']
        have e := hf j hj'
        rw [Addr.add_lit] at e
        exact e

theorem open_ints64 {H : Type} {enc : TypeId × Value → H} {W : World} {base fuel : Nat} {a0 : Option Addr} {len cap : Nat} {x : DataW H × List MemPlace} (h : DataW.trod enc Yba.prog W base (fun _ => true) true fuel 27 [.slice a0 len cap] = some x) :
    len ≤ maxLen ∧ ∃ ks : List Int, ks.length = len ∧ IntsAt W a0 ks := by
  rcases open_slice Yba.underlying27 h with ⟨hcs, _⟩ | ⟨a, len', cap', m, n, D, Pl, hcs, _, hl, hm, hmm, _, hx⟩
  · simp at hcs
    obtain ⟨rfl, rfl, rfl⟩ := hcs
    exact ⟨Nat.zero_le _, [], rfl, .inl rfl⟩
  · simp at hcs
    obtain ⟨rfl, rfl, rfl⟩ := hcs
    refine ⟨by omega, ?_⟩
    rcases Nat.eq_zero_or_pos len with h0 | h0
    · exact ⟨[], h0.symm, .inl rfl⟩
    · simp only [if_true] at hmm
      subst hmm
      rw [cells2] at hx
      obtain ⟨f, hf⟩ := choose_lt (α := Int) (n := len) (p := fun i s => W.cell? (a.add i) = some (.int .i64 s) ∧ (Lit.int .i64 s).wf = true) (fun i hi => by
        obtain ⟨cs', h1, h2⟩ := hx i (by omega)
        obtain ⟨_, hlen, hc⟩ := World.cells?_some h1
        obtain ⟨s, hs, _, hsz⟩ := DataW.trod_int Yba.underlying2 h2
        have := hc 0 (by omega)
        rw [hs] at this
        refine ⟨s, ?_, hsz⟩
        simpa [Addr.add] using this)
      obtain ⟨b, off, spot⟩ := a
      have hspot : spot = none := by simpa [Addr.add] using World.cell?_spot (hf 0 h0).1
      subst hspot
      refine ⟨(List.range len).map f, by simp, .inr ⟨b, off, rfl, ?_, ?_⟩⟩
      · simpa [Addr.add] using World.block_lt_of_cell? _ _ (hf 0 h0).1
      · intro j hj
        have hj' : j < len := by simpa using hj
        rw [range_get f hj']
        have e := hf j hj'
        rw [Addr.add_lit] at e
        exact e

end Go.Proofs.Ybulkdndm
