/- What pop's loop keeps. -/
import Derived.Test.YbulkdnbwRow
import Derived.BigRegion
import Derived.Deep.LoopGhost
import Derived.BigQuiet
namespace Go.Proofs.Ybulkdnbw
open Go.RowKit Go.Lib Go.Sort

/-- The eleven cells of element i, one by one. -/
theorem holds_cells {w : World} {blk off : Nat} {d : Array Item} (hH : HoldsK encH 11 w blk off d) {i : Nat} (hi : i < d.size) {a c : ByteArray} {s : Int} (hx : d[i]! = ((a, c), s)) :
    w.cell? ⟨blk, off + i * 11, none⟩ = some (.string a) ∧ w.cell? ⟨blk, off + i * 11 + 1, none⟩ = some (.string c) ∧ w.cell? ⟨blk, off + i * 11 + 2, none⟩ = some (.slice none 0 0) ∧
    w.cell? ⟨blk, off + i * 11 + 3, none⟩ = some (.string ByteArray.empty) ∧ w.cell? ⟨blk, off + i * 11 + 4, none⟩ = some (.string ByteArray.empty) ∧ w.cell? ⟨blk, off + i * 11 + 5, none⟩ = some (.pointer none) ∧
    w.cell? ⟨blk, off + i * 11 + 6, none⟩ = some (.int .i64 0) ∧ w.cell? ⟨blk, off + i * 11 + 7, none⟩ = some (.slice none 0 0) ∧ w.cell? ⟨blk, off + i * 11 + 8, none⟩ = some (.pointer none) ∧
    w.cell? ⟨blk, off + i * 11 + 9, none⟩ = some (.slice none 0 0) ∧ w.cell? ⟨blk, off + i * 11 + 10, none⟩ = some (.int .i64 s) := by
  have h := fun c hc => (hH.cell (i := i) (c := c) hi hc).1
  rw [hx] at h
  exact ⟨h 0 (by omega), h 1 (by omega), h 2 (by omega), h 3 (by omega), h 4 (by omega), h 5 (by omega), h 6 (by omega), h 7 (by omega), h 8 (by omega), h 9 (by omega), h 10 (by omega)⟩


theorem less_at (blk off n cap : Nat) (d : Array Item) (i j : Nat) (x y : Int) (v : Bool) (w : World) (hH : HoldsK encH 11 w blk off d) (hb : blk < w.heap.size) (hn : n ≤ d.size) (hi : i < n) (hj : j < n) (hx : x = (i : Int)) (hy : y = (j : Int)) (hv : lt d[i]! d[j]! = v) :
    Calls Yba.prog 12 #[.slice (some ⟨blk, off, none⟩) n cap, .int .i64 x, .int .i64 y] w fun e w' => e = .returned (.bool v) ∧ Gr w w' := by
  subst hx hy hv
  exact less_any blk off n cap d i j w hH hb hn hi hj

theorem results_cell_load {P : Program} {fn : Func} {p : Tmp} {ty : TypeId} (h : fn.results = #[.cell p ty]) (tmps : Array Value) (w : World) (a : Addr) (v : Value) (hp : tmps.getD p undef = .pointer (some a))
    (hl : (loadVar ty a).run P w = .ok v w) : (results fn tmps).run P w = .ok v w := by
  have hp' : tmps[p]?.getD undef = .pointer (some a) := by simpa using hp
  simp [results, h, hp', asAddr, hl]

/-- What the loop of pop keeps. -/
structure PI (w : World) (B sb blk off m cap : Nat) (x0 : Item) (dk : Array Item) (wr : World) : Prop where
  row : HoldsK encH 11 wr blk off dk
  res : HoldsK encH 11 wr w.heap.size 0 #[zItem]
  top : HoldsK encH 11 wr (w.heap.size + 1) 0 #[x0]
  hs : wr.cell? ⟨sb, 0, none⟩ = some (.slice (some ⟨blk, off, none⟩) m cap)
  fz : wr.frozen? ⟨sb, 0, none⟩ = false
  bel : RowKit.Below B w wr
  sz : w.heap.size + 2 ≤ wr.heap.size
  sbw : sb < w.heap.size
  blkw : blk < w.heap.size
  ne : sb ≠ blk
  hB1 : B ≤ sb
  hB2 : B ≤ blk

theorem PI.gr {w : World} {B sb blk off m cap : Nat} {x0 : Item} {dk : Array Item} {wr wr' : World} (h : PI w B sb blk off m cap x0 dk wr) (g : Gr wr wr') : PI w B sb blk off m cap x0 dk wr' := by
  have hz := h.sz
  have h1 := h.sbw
  have h2 := h.blkw
  have h3 := h.hB1
  exact ⟨g.holdsK (by omega) h.row, g.holdsK (by omega) h.res, g.holdsK (by omega) h.top, by rw [g.cell (by show sb < _; omega)]; exact h.hs, by rw [g.frozen (by show sb < _; omega)]; exact h.fz,
    h.bel.trans (g.below.mono (by omega)), by have := g.le; omega, h.sbw, h.blkw, h.ne, h.hB1, h.hB2⟩

theorem PI.swap {w : World} {B sb blk off m cap : Nat} {x0 : Item} {dk : Array Item} {W : World} (h : PI w B sb blk off m cap x0 dk W) (i j : Nat) (hi : i < dk.size) (hj : j < dk.size) :
    ∃ cI cJ : List Value, (∀ n, Sem.run Yba.prog (Instr.loadAt 42 (.pointer (some ⟨blk, off + j * 11, none⟩))) (W.drewN n) = .ok (.agg cJ.toArray) (W.drewN n)) ∧
      (∀ n, Sem.run Yba.prog (Instr.loadAt 42 (.pointer (some ⟨blk, off + i * 11, none⟩))) (W.drewN n) = .ok (.agg cI.toArray) (W.drewN n)) ∧
      (∀ n, Sem.run Yba.prog (Instr.storeAt 42 (.pointer (some ⟨blk, off + i * 11, none⟩)) (.agg cJ.toArray)) (W.drewN n) = .ok () ((W.drewN n).setCells blk (off + i * 11) cJ)) ∧
      (∀ n, Sem.run Yba.prog (Instr.storeAt 42 (.pointer (some ⟨blk, off + j * 11, none⟩)) (.agg cI.toArray)) ((W.drewN n).setCells blk (off + i * 11) cJ) = .ok () (((W.drewN n).setCells blk (off + i * 11) cJ).setCells blk (off + j * 11) cI)) ∧
      (∀ n, PI w B sb blk off m cap x0 (swp dk i j) (((W.drewN n).setCells blk (off + i * 11) cJ).setCells blk (off + j * 11) cI)) := by
  have hr := fun n => (show HoldsK encH 11 (W.drewN n) blk off dk from h.row)
  have h1 := fun n => holdsK_set (W := W.drewN n) encH_len (hr n) i hi dk[j]!
  have hj' : j < (dk.setIfInBounds i dk[j]!).size := by simpa using hj
  have z := h.sz
  have b1 := h.blkw
  have b2 := h.ne
  have A1 := fun n => run_loadAt_agg Yba.isAgg42 Yba.sizeOf42 (ld_row Yba.prog encH_len (hr n) j hj)
  have A2 := fun n => run_loadAt_agg Yba.isAgg42 Yba.sizeOf42 (ld_row Yba.prog encH_len (hr n) i hi)
  have A3 := fun n => run_storeAt_agg Yba.sizeOf42 (encH_len dk[j]!) (st_row Yba.prog encH_len encH_one (hr n) i hi dk[j]!)
  have A4 := fun n => run_storeAt_agg Yba.sizeOf42 (encH_len dk[i]!) (st_row Yba.prog encH_len encH_one (h1 n) j hj' dk[i]!)
  have A5 := fun n => holdsK_set encH_len (h1 n) j hj' dk[i]!
  have e : (dk.setIfInBounds i dk[j]!).setIfInBounds j dk[i]! = swp dk i j := rfl
  rw [e] at A5
  clear h1
  generalize encH dk[i]! = cI at A1 A2 A3 A4 A5
  generalize encH dk[j]! = cJ at A1 A2 A3 A4 A5
  refine ⟨cI, cJ, A1, A2, A3, A4, fun n => ?_⟩
  refine ⟨A5 n, holdsK_other (by omega) (holdsK_other (by omega) (show HoldsK encH 11 (W.drewN n) _ 0 #[zItem] from h.res) _) _, holdsK_other (by omega) (holdsK_other (by omega) (show HoldsK encH 11 (W.drewN n) _ 0 #[x0] from h.top) _) _, ?_, ?_, ?_, ?_, h.sbw, h.blkw, h.ne, h.hB1, h.hB2⟩
  · rw [World.cell?_setCells_out blk _ _ _ _ (fun e _ => absurd e b2), World.cell?_setCells_out blk _ _ _ _ (fun e _ => absurd e b2)]; exact h.hs
  · rw [World.frozen?_setCells, World.frozen?_setCells]; exact h.fz
  · exact below_setCells h.hB2 _ _ _ (below_setCells h.hB2 _ _ _ ⟨h.bel.os, h.bel.tape, h.bel.output, h.bel.size, h.bel.block⟩)
  · rw [size_setCells, size_setCells]; exact z

/-- The end of pop: the head that was first is laid into the result's variable. -/
theorem PI.ret {w : World} {B sb blk off m cap : Nat} {x0 : Item} {dk : Array Item} {W : World} (h : PI w B sb blk off m cap x0 dk W) (hBw : B ≤ w.heap.size) :
    ∃ cT : List Value, cT = encH x0 ∧ Sem.run Yba.prog (Instr.loadAt 42 (.pointer (some ⟨w.heap.size + 1, 0, none⟩))) W = .ok (.agg cT.toArray) W ∧
      Sem.run Yba.prog (Instr.storeAt 42 (.pointer (some ⟨w.heap.size, 0, none⟩)) (.agg cT.toArray)) W = .ok () (W.setCells w.heap.size 0 cT) ∧
      Sem.run Yba.prog (loadVar 42 ⟨w.heap.size, 0, none⟩) (W.setCells w.heap.size 0 cT) = .ok (.agg (encH x0).toArray) (W.setCells w.heap.size 0 cT) ∧
      HoldsK encH 11 (W.setCells w.heap.size 0 cT) blk off dk ∧ (W.setCells w.heap.size 0 cT).cell? ⟨sb, 0, none⟩ = some (.slice (some ⟨blk, off, none⟩) m cap) ∧ (W.setCells w.heap.size 0 cT).frozen? ⟨sb, 0, none⟩ = false ∧
      RowKit.Below B w (W.setCells w.heap.size 0 cT) := by
  have b1 := h.blkw
  have b2 := h.sbw
  have l1 := ld_row Yba.prog encH_len h.top 0 (by simp)
  have s1 := st_row Yba.prog encH_len encH_one h.res 0 (by simp) x0
  have n1 := holdsK_set encH_len h.res 0 (by simp) x0
  have l2 := ld_row Yba.prog encH_len n1 0 (by simp)
  simp only [Nat.zero_mul, Nat.add_zero] at l1 s1 n1 l2
  have e : (#[x0] : Array Item)[0]! = x0 := rfl
  have e' : ((#[zItem] : Array Item).setIfInBounds 0 x0)[0]! = x0 := rfl
  rw [e] at l1
  rw [e'] at l2
  have l3 := run_loadAt_agg Yba.isAgg42 Yba.sizeOf42 l2
  refine ⟨encH x0, rfl, run_loadAt_agg Yba.isAgg42 Yba.sizeOf42 l1, run_storeAt_agg Yba.sizeOf42 (encH_len _) s1, ?_, holdsK_other (by omega) h.row _, ?_, ?_, below_setCells hBw _ _ _ h.bel⟩
  · simpa [Instr.loadAt, Instr.sureAddr] using l3
  · rw [World.cell?_setCells_out _ _ _ _ _ (fun e _ => absurd e (by show sb ≠ _; omega))]; exact h.hs
  · rw [World.frozen?_setCells]; exact h.fz

end Go.Proofs.Ybulkdnbw
