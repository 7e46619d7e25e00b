/- What push keeps: the variable 'hs', the row of heads in memory of the call's own. -/
import Derived.Test.YbulkdnbwLit
import Derived.Test.YbulkdnbwPlain3
namespace Go.Proofs.Ybulkdnbw
open Go.RowKit Go.Lib Go.Sort Go.Shelf

/-- The block of the row: cap heads of room. -/
structure PU (w0 : World) (B sb g cap k : Nat) (dk : Array Item) (wr : World) : Prop where
  row : HoldsK encH 11 wr g 0 dk
  box : wr.heap[sb]? = some (.cells #[.slice (some ⟨g, 0, none⟩) k cap] 24)
  blk : ∃ cur, wr.heap[g]? = some (.cells cur 42) ∧ cur.size = cap * 11
  bel : RowKit.Below B w0 wr
  hB1 : B ≤ sb
  hB2 : B ≤ g
  ne : g ≠ sb
  sz : dk.size = k
  kc : k ≤ cap
  cm : cap ≤ maxLen

theorem PU.hs {w0 : World} {B sb g cap k : Nat} {dk : Array Item} {wr : World} (h : PU w0 B sb g cap k dk wr) : wr.cell? ⟨sb, 0, none⟩ = some (.slice (some ⟨g, 0, none⟩) k cap) ∧ wr.frozen? ⟨sb, 0, none⟩ = false ∧ sb < wr.heap.size ∧ g < wr.heap.size := by
  obtain ⟨cur, hc, _⟩ := h.blk
  exact ⟨(box_cell h.box).1, (box_cell h.box).2, (Array.getElem?_eq_some_iff.1 h.box).1, (Array.getElem?_eq_some_iff.1 hc).1⟩

theorem PU.gr {w0 : World} {B sb g cap k : Nat} {dk : Array Item} {wr wr' : World} (h : PU w0 B sb g cap k dk wr) (G : Gr wr wr') : PU w0 B sb g cap k dk wr' := by
  obtain ⟨_, _, h3, h4⟩ := h.hs
  obtain ⟨cur, hc, hcs⟩ := h.blk
  exact ⟨G.holdsK h4 h.row, by rw [G.below.block sb h3]; exact h.box, ⟨cur, by rw [G.below.block g h4]; exact hc, hcs⟩, h.bel.trans (G.below.mono (by have := h.hB1; omega)), h.hB1, h.hB2, h.ne, h.sz, h.kc, h.cm⟩

theorem heap_setCells_own (g : Nat) (T : TypeId) (n : Nat) : ∀ (vs : List Value) (o : Nat) (w : World), (∃ cur, w.heap[g]? = some (.cells cur T) ∧ cur.size = n) → ∃ cur, (w.setCells g o vs).heap[g]? = some (.cells cur T) ∧ cur.size = n
  | [], _, _, h => h
  | v :: r, o, w, h => by
    obtain ⟨cur, hc, hs⟩ := h
    refine heap_setCells_own g T n r (o + 1) _ ⟨cur.setIfInBounds o v, ?_, by simpa using hs⟩
    rw [setCell_eq]
    unfold mapBlock
    simp [Array.getElem?_modify, hc, onCells]
theorem heap_setCells_other (g b : Nat) (hne : b ≠ g) : ∀ (vs : List Value) (o : Nat) (w : World), (w.setCells g o vs).heap[b]? = w.heap[b]?
  | [], _, _ => rfl
  | v :: r, o, w => by rw [World.setCells, heap_setCells_other g b hne r, RowKit.Below.heap_setCell w ⟨g, o, none⟩ v b hne]

theorem PU.swap {w0 : World} {B sb g cap k : Nat} {dk : Array Item} {W : World} (h : PU w0 B sb g cap k dk W) (i j : Nat) (hi : i < dk.size) (hj : j < dk.size) :
    ∃ cI cJ : List Value, (∀ n, Sem.run Yba.prog (Instr.loadAt 42 (.pointer (some ⟨g, 0 + j * 11, none⟩))) (W.drewN n) = .ok (.agg cJ.toArray) (W.drewN n)) ∧
      (∀ n, Sem.run Yba.prog (Instr.loadAt 42 (.pointer (some ⟨g, 0 + i * 11, none⟩))) (W.drewN n) = .ok (.agg cI.toArray) (W.drewN n)) ∧
      (∀ n, Sem.run Yba.prog (Instr.storeAt 42 (.pointer (some ⟨g, 0 + i * 11, none⟩)) (.agg cJ.toArray)) (W.drewN n) = .ok () ((W.drewN n).setCells g (0 + i * 11) cJ)) ∧
      (∀ n, Sem.run Yba.prog (Instr.storeAt 42 (.pointer (some ⟨g, 0 + j * 11, none⟩)) (.agg cI.toArray)) ((W.drewN n).setCells g (0 + i * 11) cJ) = .ok () (((W.drewN n).setCells g (0 + i * 11) cJ).setCells g (0 + j * 11) cI)) ∧
      (∀ n, PU w0 B sb g cap k (swp dk i j) (((W.drewN n).setCells g (0 + i * 11) cJ).setCells g (0 + j * 11) cI)) := by
  have hr := fun n => (show HoldsK encH 11 (W.drewN n) g 0 dk from h.row)
  have h1 := fun n => holdsK_set (W := W.drewN n) encH_len (hr n) i hi dk[j]!
  have hj' : j < (dk.setIfInBounds i dk[j]!).size := by simpa using hj
  have A1 := fun n => run_loadAt_agg Yba.isAgg42 Yba.sizeOf42 (ld_row Yba.prog encH_len (hr n) j hj)
  have A2 := fun n => run_loadAt_agg Yba.isAgg42 Yba.sizeOf42 (ld_row Yba.prog encH_len (hr n) i hi)
  have A3 := fun n => run_storeAt_agg Yba.sizeOf42 (encH_len dk[j]!) (st_row Yba.prog encH_len encH_one (hr n) i hi dk[j]!)
  have A4 := fun n => run_storeAt_agg Yba.sizeOf42 (encH_len dk[i]!) (st_row Yba.prog encH_len encH_one (h1 n) j hj' dk[i]!)
  have A5 := fun n => holdsK_set encH_len (h1 n) j hj' dk[i]!
  have e : (dk.setIfInBounds i dk[j]!).setIfInBounds j dk[i]! = swp dk i j := rfl
  rw [e] at A5
  clear h1
  generalize encH dk[i]! = cI at A1 A2 A3 A4 A5
  generalize encH dk[j]! = cJ at A1 A2 A3 A4 A5
  refine ⟨cI, cJ, A1, A2, A3, A4, fun n => ?_⟩
  refine ⟨A5 n, ?_, heap_setCells_own g 42 _ _ _ _ (heap_setCells_own g 42 _ _ _ _ h.blk), ?_, h.hB1, h.hB2, h.ne, by rw [size_swp]; exact h.sz, h.kc, h.cm⟩
  · rw [heap_setCells_other g sb (Ne.symm h.ne), heap_setCells_other g sb (Ne.symm h.ne)]; exact h.box
  · exact below_setCells h.hB2 _ _ _ (below_setCells h.hB2 _ _ _ ⟨h.bel.os, h.bel.tape, h.bel.output, h.bel.size, h.bel.block⟩)

/-- The row as append owns it. -/
theorem PU.owns {w0 : World} {B sb g cap k : Nat} {dk : Array Item} {wr : World} (h : PU w0 B sb g cap k dk wr) : wr.ownsRow B 42 11 (.slice (some ⟨g, 0, none⟩) k cap) k (dk.toList.flatMap encH) := by
  obtain ⟨cur, hc, hcs⟩ := h.blk
  have hkc := h.kc
  have hsz := h.sz
  refine ⟨by rw [flat_len encH 11 encH_len]; simp [hsz], .inr ⟨g, cap, cur, rfl, h.hB2, hc, h.kc, h.cm, hcs, ?_⟩⟩
  apply List.ext_getElem?
  intro j
  by_cases hj : j < k * 11
  · rw [List.getElem?_take, if_pos hj, flat_get encH 11 encH_len dk.toList j (by simp [hsz]; omega)]
    have h1 := (h.row j (by simp [hsz]; omega)).1
    rw [Nat.zero_add, cell_of_row wr g j cur 42 (0, 0) hc, get_flatK _ _ _ _ (by rw [hsz]; exact hj)] at h1
    rw [show dk.toList[j / 11]! = dk[j / 11]! from (arr_get dk _).symm, Array.getElem?_toList]
    exact h1
  · rw [List.getElem?_eq_none (by simp; omega), List.getElem?_eq_none (by rw [flat_len encH 11 encH_len]; simp [hsz]; omega)]

/-- Behind an append: the row with one head more. -/
theorem PU.of_append {w0 : World} {B sb g' cap' k : Nat} {l : List Item} {x : Item} {wy : World} (u : Value) (hbox : wy.heap[sb]? = some (.cells #[u] 24))
    (hown : wy.ownsRow B 42 11 (.slice (some ⟨g', 0, none⟩) (k + 1) cap') (k + 1) (l.flatMap encH ++ encH x)) (hl : l.length = k) (hne : g' ≠ sb) (hB1 : B ≤ sb) (hbel : RowKit.Below B w0 wy) :
    PU w0 B sb g' cap' (k + 1) (l ++ [x]).toArray (wy.setCell ⟨sb, 0, none⟩ (.slice (some ⟨g', 0, none⟩) (k + 1) cap')) := by
  have e : l.flatMap encH ++ encH x = (l ++ [x]).flatMap encH := by simp
  rw [e] at hown
  have hh := holdsH_of_owns hown (by simp [hl])
  have hblk : ∃ cur, wy.heap[g']? = some (.cells cur 42) ∧ cur.size = cap' * 11 := by
    rcases hown.2 with ⟨e, _⟩ | ⟨g, cap, cur, e, _, hg, _, _, hcs, _⟩
    · cases e
    · cases e; exact ⟨cur, hg, hcs⟩
  have hcm : cap' ≤ maxLen := by
    rcases hown.2 with ⟨e, _⟩ | ⟨g, cap, cur, e, _, _, _, hm, _, _⟩
    · cases e
    · cases e; exact hm
  obtain ⟨cur, hc, hcs⟩ := hblk
  refine ⟨holdsK_setCell hne hh.1 _, heap_setCell_box wy sb _ _ 24 hbox, ⟨cur, ?_, hcs⟩, hbel.setCell hB1 _, hB1, hh.2.2.1, hne, by simp [hl], hh.2.2.2, hcm⟩
  rw [RowKit.Below.heap_setCell wy ⟨sb, 0, none⟩ _ g' hne]; exact hc
end Go.Proofs.Ybulkdnbw
