/- What the loop of LawS5706BLiteral keeps. -/
import Derived.Test.YbulkdndmDrop
import Derived.Deep.QuietTactic
import Derived.BigQuiet
namespace Go.Proofs.Ybulkdndm
open Go.RowKit Go.Maps

def keyL (s : ByteArray) : Lit := .string s.data.toList
theorem key_ok {s : ByteArray} (h : s.size ≤ maxLen) : keyOf Yba.prog 9 (.string s) = some (keyL s) := Go.WideMaps.keyOf_string_mk Yba.underlying9 h
theorem keyL_inj {s t : ByteArray} (h : keyL s = keyL t) : s = t := by
  unfold keyL at h
  have := Lit.string.inj h
  cases s; cases t
  simp at this
  rw [this]

/-- A slice of strings, as the walk reads it. -/
def StrsAt (w : World) (a : Option Addr) (ks : List ByteArray) : Prop := ks = [] ∨ ∃ b o, a = some ⟨b, o, none⟩ ∧ b < w.heap.size ∧ ∀ j, j < ks.length → w.cell? ⟨b, o + j, none⟩ = some (.string ks[j]!) ∧ (ks[j]!).size ≤ maxLen
def IntsAt (w : World) (a : Option Addr) (vs : List Int) : Prop := vs = [] ∨ ∃ b o, a = some ⟨b, o, none⟩ ∧ b < w.heap.size ∧ ∀ j, j < vs.length → w.cell? ⟨b, o + j, none⟩ = some (.int .i64 vs[j]!) ∧ (Lit.int .i64 vs[j]!).wf = true

/-- What the first loop keeps. -/
structure LL (w : World) (B : Nat) (ks : List ByteArray) (k : Nat) (D : DataW Unit) (wr : World) : Prop where
  o1 : wr.ownsMap Yba.prog 9 (plainElem Yba.prog 25) B k D
  o2 : wr.ownsMap Yba.prog 9 (plainElem Yba.prog 2) (B + 1) k D
  has : ∀ j, j < k → Maps.has D (keyL ks[j]!) = true
  bel : RowKit.Below w.heap.size w wr
  hB : w.heap.size ≤ B

theorem LL.step {w : World} {B : Nat} {ks : List ByteArray} {k : Nat} {D : DataW Unit} {wr w1 w2 : World} (h : LL w B ks k D wr) (v : Int)
    (h1 : w1.ownsMap Yba.prog 9 (plainElem Yba.prog 25) B (k + 1) (D.put (keyL ks[k]!) (.lit (.int .i64 v)))) (t1 : wr.mapTurned w1 B)
    (h2 : w2.ownsMap Yba.prog 9 (plainElem Yba.prog 2) (B + 1) (k + 1) (D.put (keyL ks[k]!) (.lit (.int .i64 v)))) (t2 : w1.mapTurned w2 (B + 1)) :
    LL w B ks (k + 1) (D.put (keyL ks[k]!) (.lit (.int .i64 v))) w2 := by
  have hz := h.bel.size
  have hB := h.hB
  refine ⟨h1.kept t2.grown (by simp), h2, fun j hj => ?_, (h.bel.grown t1.grown hz (fun i e => by cases e; exact hB)).grown t2.grown (Nat.le_trans hz t1.grown.size) (fun i e => by cases e; omega), hB⟩
  by_cases e : keyL ks[j]! = keyL ks[k]!
  · rw [e]; exact has_put_same h.o1.isMap (by trivial) _
  · rw [has_put_other e]
    refine h.has j ?_
    rcases Nat.lt_or_ge j k with e2 | e2
    · exact e2
    · obtain rfl : j = k := by omega
      exact absurd rfl e
end Go.Proofs.Ybulkdndm
