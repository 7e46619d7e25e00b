/- THE ARGUMENT: a slice of items, opened. -/
import Derived.Test.YbulkdnbwOwn
import Derived.ProofKit
import Derived.OpenShut
import Derived.Deep.Slices
import Derived.Deep.Strs
namespace Go.Proofs.Ybulkdnbw
open Go.ChangeShapes Go.WideShapes Go.ChangeAt Go.RowKit Go.Deep

/-- WHAT THE WALK IS TOLD OF THE ITEMS THAT CAME IN. -/
def IsItems (w : World) (a : Option Addr) (len : Nat) : Prop :=
  len ≤ maxLen ∧ (len = 0 ∨ ∃ b off, ∃ its : List Item, a = some ⟨b, off, none⟩ ∧ b < w.heap.size ∧ its.length = len ∧ ∀ j u, (its.flatMap encI)[j]? = some u → w.cell? ⟨b, off + j, none⟩ = some u)

theorem cells26 : Yba.prog.cellsOf 26 = 3 := by kernel_rfl
theorem cells9 : Yba.prog.cellsOf 9 = 1 := by kernel_rfl
theorem cells3 : Yba.prog.cellsOf 3 = 1 := by kernel_rfl

theorem open_item {H : Type} {enc : TypeId × Value → H} {W : World} {base n : Nat} {spare : Nat → Bool} {held : Bool} {cs : List Value} {x : DataW H × List MemPlace} (h : DataW.trod enc Yba.prog W base spare held n 26 cs = some x) : ∃ it : Item, cs = encI it := by
  obtain ⟨y0, y1, y2, n', _, hl, t0, t1, t2⟩ := trod_struct3 Yba.underlying26 h
  rw [cells26] at hl
  simp only [cells9, cells3] at t0 t1 t2
  match cs, hl with
  | [c0, c1, c2], _ =>
    simp at t0 t1 t2
    obtain ⟨a, e0, _, _⟩ := DataW.trod_string Yba.underlying9 t0
    obtain ⟨c, e1, _, _⟩ := DataW.trod_string Yba.underlying9 t1
    obtain ⟨s, e2, _, _⟩ := DataW.trod_int Yba.underlying3 t2
    simp at e0 e1 e2
    subst e0 e1 e2
    exact ⟨((a, c), s), rfl⟩

theorem open_items {H : Type} {enc : TypeId × Value → H} {W : World} {base fuel : Nat} {a0 : Option Addr} {len cap : Nat} {x : DataW H × List MemPlace} (h : DataW.trod enc Yba.prog W base (fun _ => true) true fuel 22 [.slice a0 len cap] = some x) : IsItems W a0 len := by
  rcases open_slice Yba.underlying22 h with ⟨hcs, _⟩ | ⟨a, len', cap', m, n, D, Pl, hcs, _, hl, hm, hmm, _, hx⟩
  · simp at hcs
    obtain ⟨rfl, rfl, rfl⟩ := hcs
    exact ⟨Nat.zero_le _, .inl rfl⟩
  · simp at hcs
    obtain ⟨rfl, rfl, rfl⟩ := hcs
    refine ⟨by omega, ?_⟩
    rcases Nat.eq_zero_or_pos len with h0 | h0
    · exact .inl h0
    · right
      simp only [if_true] at hmm
      subst hmm
      rw [cells26] at hx
      obtain ⟨f, hf⟩ := choose_lt (α := Item) (n := len) (p := fun i it => ∀ j, j < 3 → W.cell? ((a.add (i * 3)).add j) = (encI it)[j]?) (fun i hi => by
        obtain ⟨cs', h1, h2⟩ := hx i (by omega)
        obtain ⟨_, hlen, hc⟩ := World.cells?_some h1
        obtain ⟨it, rfl⟩ := open_item h2
        exact ⟨it, hc⟩)
      have hs := hf 0 h0 0 (by omega)
      have hspot : a.spot = none := by
        have := World.cell?_spot (hs.trans (by rfl : (encI (f 0))[0]? = some (.string (f 0).1.1)))
        simpa [Addr.add] using this
      obtain ⟨b, off, spot⟩ := a
      simp at hspot
      subst hspot
      refine ⟨b, off, (List.range len).map f, rfl, ?_, by simp, ?_⟩
      · have := World.block_lt_of_cell? _ _ (hs.trans (by rfl : (encI (f 0))[0]? = some (.string (f 0).1.1)))
        simpa [Addr.add] using this
      · intro j u hu
        have hj : j < len * 3 := by
          have := (List.getElem?_eq_some_iff.1 hu).1
          rw [flat_len encI 3 encI_len] at this
          simpa using this
        rw [flat_get encI 3 encI_len _ j (by simpa using hj)] at hu
        have hq : j / 3 < len := by omega
        have e := hf (j / 3) hq (j % 3) (by omega)
        rw [add_add, Addr.add_lit, show j / 3 * 3 + j % 3 = j by omega] at e
        rw [e]
        have e2 : ((List.range len).map f)[j / 3]! = f (j / 3) := by
          rw [getElem!_pos _ _ (by simpa using hq)]; simp
        rw [e2] at hu
        rw [← hu, List.getElem?_eq_getElem (by rw [encI_len]; omega), getElem!_pos _ _ (by rw [encI_len]; omega)]
end Go.Proofs.Ybulkdnbw
