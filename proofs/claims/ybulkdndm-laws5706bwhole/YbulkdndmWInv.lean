/- What the loops of LawS5706BWhole keep. -/
import Derived.Test.YbulkdndmRec
import Derived.Deep.AppendLies
import Derived.OwnWalk
import Derived.OneCell
namespace Go.Proofs.Ybulkdndm
open Go.RowKit Go.Maps

abbrev Step := (Int × Int) × Bool
def StepsAt (w : World) (a : Option Addr) (sts : List Step) : Prop := sts = [] ∨ ∃ b o, a = some ⟨b, o, none⟩ ∧ b < w.heap.size ∧ ∀ j, j < sts.length →
  (w.cell? ⟨b, o + j * 3, none⟩ = some (.int .u8 (sts[j]!).1.1) ∧ w.cell? ⟨b, o + j * 3 + 1, none⟩ = some (.int .i64 (sts[j]!).1.2) ∧ w.cell? ⟨b, o + j * 3 + 2, none⟩ = some (.bool (sts[j]!).2)) ∧
  0 ≤ (sts[j]!).1.1 ∧ (Lit.int .i64 (sts[j]!).1.2).wf = true

def kcells (L : Peers) : List Value := L.map (fun p => Value.string p.1)
def vcells (L : Peers) : List Value := L.map (fun p => Value.int .i64 p.2)
theorem kcells_len (L : Peers) : (kcells L).length = L.length := by unfold kcells; simp
theorem vcells_len (L : Peers) : (vcells L).length = L.length := by unfold vcells; simp

/-- The two rows that shadow the monitor. -/
structure Rows2 (wr : World) (B sb bm : Nat) (L : Peers) (kv vv : Value) : Prop where
  rk : wr.ownsRow B 9 1 kv L.length (kcells L)
  rv : wr.ownsRow B 2 1 vv L.length (vcells L)
  kn : ∀ g, kv.ownBlock = some g → g ≠ sb ∧ g ≠ bm
  vn : ∀ g, vv.ownBlock = some g → g ≠ sb ∧ g ≠ bm
  kvn : ∀ g, kv.ownBlock = some g → vv.ownBlock ≠ some g

def PeersOk (L : Peers) : Prop := ∀ p ∈ L, p.1.size ≤ maxLen ∧ (Lit.int .i64 p.2).wf = true

structure WI (w0 : World) (B sb bm : Nat) (mx : Int) (k : Nat) (L : Peers) (kv vv : Value) (wr : World) : Prop where
  mi : MI wr sb bm mx 0 k L
  rows : Rows2 wr B sb bm L kv vv
  ok : PeersOk L
  bel : RowKit.Below B w0 wr
  hB : B ≤ wr.heap.size
  hs : B ≤ sb ∧ B ≤ bm

theorem shape {w : World} {B e n : Nat} {v : Value} {xs : List Value} (h : w.ownsRow B e 1 v n xs) : ∃ a c, v = .slice a n c ∧ (0 < n → ∃ g, a = some ⟨g, 0, none⟩ ∧ g < w.heap.size ∧ w.frozen? ⟨g, 0, none⟩ = false) := by
  rcases h.2 with ⟨rfl, rfl⟩ | ⟨g, cap, cur, rfl, hb, hg, _⟩
  · exact ⟨none, 0, rfl, fun c => by omega⟩
  · exact ⟨_, cap, rfl, fun _ => ⟨g, rfl, (Array.getElem?_eq_some_iff.1 hg).1, by simp [World.frozen?, hg]⟩⟩

theorem row_cell {w : World} {B e n m g c : Nat} {xs : List Value} (h : w.ownsRow B e 1 (.slice (some ⟨g, 0, none⟩) m c) n xs) {j : Nat} {u : Value} (hj : xs[j]? = some u) : w.cell? ⟨g, j, none⟩ = some u := by
  have := h.cells (g := g) rfl j u hj
  rw [Addr.add_lit, Nat.zero_add] at this
  exact this

theorem kcells_get (L : Peers) {j : Nat} (h : j < L.length) : (kcells L)[j]? = some (.string (L[j]!).1) := by
  unfold kcells
  rw [List.getElem?_map, List.getElem?_eq_getElem h, getElem!_pos L j h]; rfl
theorem vcells_get (L : Peers) {j : Nat} (h : j < L.length) : (vcells L)[j]? = some (.int .i64 (L[j]!).2) := by
  unfold vcells
  rw [List.getElem?_map, List.getElem?_eq_getElem h, getElem!_pos L j h]; rfl

/-- The rows stand where other blocks turn. -/
theorem ownsRow_keep {w w' : World} {B e n : Nat} {v : Value} {xs : List Value} (h : w.ownsRow B e 1 v n xs) (g : ∀ k, v.ownBlock = some k → w'.heap[k]? = w.heap[k]?) : w'.ownsRow B e 1 v n xs := by
  refine ⟨h.1, ?_⟩
  rcases h.2 with hn | ⟨gb, cap, cur, rfl, hb, hgg, rest⟩
  · exact .inl hn
  · exact .inr ⟨gb, cap, cur, rfl, hb, (g gb rfl).trans hgg, rest⟩

theorem Rows2.keep {w w' : World} {B sb bm : Nat} {L : Peers} {kv vv : Value} (h : Rows2 w B sb bm L kv vv) (g : ∀ k, k < w.heap.size → k ≠ sb → k ≠ bm → w'.heap[k]? = w.heap[k]?) : Rows2 w' B sb bm L kv vv :=
  ⟨ownsRow_keep h.rk fun k e => g k (h.rk.lt k e).2 (h.kn k e).1 (h.kn k e).2, ownsRow_keep h.rv fun k e => g k (h.rv.lt k e).2 (h.vn k e).1 (h.vn k e).2, h.kn, h.vn, h.kvn⟩

theorem Fr2.below {sb bm B : Nat} {w w' : World} (h : Fr2 sb bm w w') (h1 : B ≤ sb) (h2 : B ≤ bm) (h3 : B ≤ w.heap.size) : RowKit.Below B w w' :=
  ⟨h.os, h.tape, h.output, h.size, fun i hi => h.block i (by omega) (by omega) (by omega)⟩

theorem WI.alloc {w0 : World} {B sb bm : Nat} {mx : Int} {k : Nat} {L : Peers} {kv vv : Value} {wr : World} (h : WI w0 B sb bm mx k L kv vv wr) (o : Obj) : WI w0 B sb bm mx k L kv vv (wr.alloc o) :=
  ⟨h.mi.keep (heap_alloc_old _ _ h.mi.box.lt) (heap_alloc_old _ _ h.mi.bm_lt), h.rows.keep (fun k hk _ _ => heap_alloc_old _ _ hk), h.ok, h.bel.alloc h.hB o, by rw [World.size_alloc]; have := h.hB; omega, h.hs⟩

theorem set_row {w : World} {B e n m g c i : Nat} {xs : List Value} (h : w.ownsRow B e 1 (.slice (some ⟨g, 0, none⟩) m c) n xs) (u : Value) : (w.setCell ⟨g, i, none⟩ u).ownsRow B e 1 (.slice (some ⟨g, 0, none⟩) m c) n (xs.set i u) := by
  refine ⟨by rw [List.length_set]; exact h.1, ?_⟩
  rcases h.2 with ⟨e, _⟩ | ⟨gb, cap, cur, e, hb, hgg, h1, h2, h3, h4⟩
  · cases e
  · cases e
    refine .inr ⟨g, c, cur.setIfInBounds i u, rfl, hb, by simp [World.setCell, Array.getElem?_modify, hgg], h1, h2, by simpa using h3, ?_⟩
    rw [← h4, Array.toList_setIfInBounds, List.take_set]
end Go.Proofs.Ybulkdndm
