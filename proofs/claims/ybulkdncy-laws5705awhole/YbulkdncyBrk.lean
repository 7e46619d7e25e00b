/- WALKS: the breaker's small methods; what is kept. -/
import Derived.Test.YbulkdncyAdd
namespace Go.Proofs.Ybulkdncy
open Go.RowKit

theorem and3 (v : Int) (h0 : 0 ≤ v) (h1 : v < 18446744073709551616) : bits .and .u64 v 3 = v % 4 := by
  rw [u64_and v 3 h0 h1 (by omega) (by omega)]
  have := Nat.and_two_pow_sub_one_eq_mod v.toNat 2
  rw [show (2 : Nat) ^ 2 - 1 = 3 from rfl] at this
  rw [show ((3 : Int)).toNat = 3 from rfl, this]; omega

theorem or4 (q s : Int) (h0 : 0 ≤ q) (h1 : q * 4 < 18446744073709551616) (hs : 0 ≤ s) (hs1 : s < 4) : bits .or .u64 (q * 4) s = q * 4 + s := by
  rw [u64_or (q * 4) s (by omega) h1 hs (by omega)]
  have := Nat.two_pow_add_eq_or_of_lt (i := 2) (b := s.toNat) (by omega) q.toNat
  have e : (q * 4).toNat = 2 ^ 2 * q.toNat := by omega
  rw [e, ← this]; omega

/-- The phase behind a change of state. -/
def nx (p s : Int) : Int := (p / 4 + 1) * 4 % 18446744073709551616 + s

set_option maxHeartbeats 400000 in
theorem next_any (p s : Int) (w : World) (h0 : 0 ≤ p) (h1 : p < 18446744073709551616) (hs : 0 ≤ s) (hs1 : s < 4) : Calls Yba.prog 13 #[.int .u64 p, .int .i64 s] w fun e w' => e = .returned (.int .u64 (nx p s)) ∧ w' = w := by
  have e1 : IntKind.u64.wrap (p / 4 + 1) = p / 4 + 1 := by rw [IntKind.wrap_u64]; omega
  have e2 : IntKind.u64.wrap ((p / 4 + 1) * 4) = (p / 4 + 1) % 4611686018427387904 * 4 := by rw [IntKind.wrap_u64]; omega
  have e3 : IntKind.u64.wrap s = s := by rw [IntKind.wrap_u64]; omega
  have e4 := or4 ((p / 4 + 1) % 4611686018427387904) s (by omega) (by omega) hs hs1
  have e5 : nx p s = (p / 4 + 1) % 4611686018427387904 * 4 + s := by unfold nx; omega
  rw [e5]
  clear e5
  go_enter Yba.func13, Yba.ntmps13
  go_wp2_with fail
  go_ret
  exact ⟨rfl, rfl⟩

set_option maxHeartbeats 400000 in
theorem state_any (v : Int) (w : World) (h0 : 0 ≤ v) (h1 : v < 18446744073709551616) : Calls Yba.prog 23 #[.int .u64 v] w fun e w' => e = .returned (.int .i64 (v % 4)) ∧ w' = w := by
  have e1 := and3 v h0 h1
  go_enter Yba.func23, Yba.ntmps23
  go_wp2_with fail
  go_ret
  exact ⟨rfl, rfl⟩

set_option maxHeartbeats 400000 in
theorem cur_any (b : Nat) (v : Int) (w : World) (h : w.cell? ⟨b, 6, none⟩ = some (.int .u64 v)) : Calls Yba.prog 22 #[.pointer (some ⟨b, 0, none⟩)] w fun e w' => e = .returned (.int .u64 v) ∧ w' = w := by
  go_enter Yba.func22, Yba.ntmps22
  go_wp2_with fail
  refine (load64_any b 6 v _ h).mono ?_
  rintro e w' ⟨rfl, rfl⟩
  go_wp2_with fail
  go_ret
  exact ⟨rfl, rfl⟩

/-- New blocks, cells of the named blocks, draws: no more is turned. -/
structure Fr (S : Nat → Prop) (w w' : World) : Prop where
  grown : ∀ w0, Grown w0 w → (∀ j, S j → w0.heap.size ≤ j) → Grown w0 w'
  size : w.heap.size ≤ w'.heap.size
  block : ∀ j, j < w.heap.size → ¬ S j → w'.heap[j]? = w.heap[j]?

theorem Fr.refl (S : Nat → Prop) (w : World) : Fr S w w := ⟨fun _ h _ => h, Nat.le_refl _, fun _ _ _ => rfl⟩
theorem Fr.trans {S : Nat → Prop} {w w1 w2 : World} (h1 : Fr S w w1) (h2 : Fr S w1 w2) : Fr S w w2 :=
  ⟨fun w0 h hs => h2.grown w0 (h1.grown w0 h hs) hs, Nat.le_trans h1.size h2.size, fun j hj hn => (h2.block j (Nat.lt_of_lt_of_le hj h1.size) hn).trans (h1.block j hj hn)⟩
theorem Fr.mono {S T : Nat → Prop} {w w1 : World} (h : Fr S w w1) (hST : ∀ j, S j → T j) : Fr T w w1 :=
  ⟨fun w0 g hs => h.grown w0 g (fun j hj => hs j (hST j hj)), h.size, fun j hj hn => h.block j hj (fun e => hn (hST j e))⟩
theorem Fr.alloc {S : Nat → Prop} {w w1 : World} (h : Fr S w w1) (c : Array Value) (t : TypeId) : Fr S w (w1.alloc (.cells c t)) :=
  ⟨fun w0 g hs => (h.grown w0 g hs).alloc c t, Nat.le_trans h.size (by rw [World.size_alloc]; omega), fun j hj hn => by
    rw [← h.block j hj hn]
    have : j < w1.heap.size := Nat.lt_of_lt_of_le hj h.size
    show (w1.heap.push _)[j]? = _
    rw [Array.getElem?_push, if_neg (by omega)]⟩
theorem heap_set_other (w : World) (b k : Nat) (v : Value) (j : Nat) (h : j ≠ b) : (w.setCell ⟨b, k, none⟩ v).heap[j]? = w.heap[j]? := by
  simp only [World.setCell, Array.getElem?_modify]
  rw [if_neg (fun e => h e.symm)]
theorem size_set (w : World) (a : Addr) (v : Value) : (w.setCell a v).heap.size = w.heap.size := by simp [World.setCell]
theorem Fr.set {S : Nat → Prop} {w w1 : World} (h : Fr S w w1) {b : Nat} (k : Nat) (v : Value) (hb : S b) : Fr S w (w1.setCell ⟨b, k, none⟩ v) :=
  ⟨fun w0 g hs => (h.grown w0 g hs).setCell (hs b hb) v, by rw [size_set]; exact h.size, fun j hj hn => by
    rw [heap_set_other w1 b k v j (fun e => hn (by rw [e]; exact hb)), h.block j hj hn]⟩
/-- A cell of a block that is new since w. -/
theorem Fr.setNew {S : Nat → Prop} {w w1 : World} (h : Fr S w w1) {b : Nat} (k : Nat) (v : Value) (hb : w.heap.size ≤ b) : Fr S w (w1.setCell ⟨b, k, none⟩ v) :=
  ⟨fun w0 g hs => (h.grown w0 g hs).setCell (show w0.heap.size ≤ b from Nat.le_trans g.2.2 hb) v, by rw [size_set]; exact h.size, fun j hj hn => by
    rw [heap_set_other w1 b k v j (by omega), h.block j hj hn]⟩
theorem Fr.drew {S : Nat → Prop} {w w1 : World} (h : Fr S w w1) : Fr S w w1.drew := ⟨fun w0 g hs => (h.grown w0 g hs).drew, h.size, h.block⟩

theorem heap_set_own (w : World) (b k : Nat) (v : Value) (cur : Array Value) (T : TypeId) (h : w.heap[b]? = some (.cells cur T)) : (w.setCell ⟨b, k, none⟩ v).heap[b]? = some (.cells (cur.setIfInBounds k v) T) := by
  simp [World.setCell, Array.getElem?_modify, h]
theorem row_cell {w : World} {b : Nat} {cur : Array Value} {T : TypeId} (h : w.heap[b]? = some (.cells cur T)) (k : Nat) : w.cell? ⟨b, k, none⟩ = cur[k]? ∧ w.frozen? ⟨b, k, none⟩ = false :=
  ⟨cell_of_row w b k cur T (0, 0) h, by simp [World.frozen?, h]⟩
theorem row_lt {w : World} {b : Nat} {o : Obj} (h : w.heap[b]? = some o) : b < w.heap.size := (Array.getElem?_eq_some_iff.1 h).1

/-- The breaker's cells. -/
def brk (c0 c1 c2 : Int) (f : Value) (ph fl wl ex po pk : Int) : Array Value :=
  #[.int .i64 c0, .int .i64 c1, .int .i64 c2, f, .int .i32 0, .int .u32 0, .int .u64 ph, .int .i64 fl, .int .u64 wl, .int .i64 ex, .pointer none, .int .i64 po, .int .i64 pk]

set_option maxHeartbeats 1000000 in
/-- The closure of LawS5705BPart: it counts its calls and hands back 'now'. -/
theorem fn12_any (b1 b2 : Nat) (k n s : Int) (w : World) (h1 : w.heap[b1]? = some (.cells #[.int .i64 k] 3)) (h2 : w.heap[b2]? = some (.cells #[.int .u64 n, .int .i64 s, .pointer none] 27)) (hne : b1 ≠ b2) (hk : 0 ≤ k) (hk1 : k < 1000) :
    Calls Yba.prog 12 #[.pointer (some ⟨b1, 0, none⟩), .pointer (some ⟨b2, 0, none⟩)] w fun e w' => e = .returned (.agg #[.int .u64 n, .int .i64 s, .pointer none]) ∧ w'.heap[b1]? = some (.cells #[.int .i64 (k + 1)] 3) ∧ Fr (· = b1) w w' := by
  have c1 := (row_cell h1 0).1
  have f1 := (row_cell h1 0).2
  have d0 := (row_cell h2 0).1
  have d1 := (row_cell h2 1).1
  have d2 := (row_cell h2 2).1
  have l1 := row_lt h1
  have l2 := row_lt h2
  simp at c1 d0 d1 d2
  have H1 : Hid (_ = _) := h1
  clear h1 h2
  go_enter Yba.func12, Yba.ntmps12
  go_wp2_with fail
  refine bodyPost_ret (v := .agg #[.int .u64 n, .int .i64 s, .pointer none]) (by simp [results, Yba.results12, go_sem]) rfl ⟨rfl, ?_, ((Fr.refl (· = b1) w).set 0 _ (show b1 = b1 from rfl)).alloc _ _⟩
  have h := heap_set_own w b1 0 (.int .i64 (k + 1)) _ _ H1.out
  have l : b1 < (w.setCell ⟨b1, 0, none⟩ (.int .i64 (k + 1))).heap.size := by rw [size_set]; exact l1
  show ((w.setCell ⟨b1, 0, none⟩ (.int .i64 (k + 1))).heap.push _)[b1]? = _
  rw [Array.getElem?_push, if_neg (by omega), h]
  rfl

theorem heap_alloc_old (w : World) (o : Obj) (j : Nat) (h : j < w.heap.size) : (w.alloc o).heap[j]? = w.heap[j]? := by
  show (w.heap.push _)[j]? = _
  rw [Array.getElem?_push, if_neg (by omega)]

/-- The breaker's cells, one fact each. -/
theorem brk_cells {w : World} {b : Nat} {c0 c1 c2 : Int} {f : Value} {ph fl wl ex po pk : Int} (h : w.heap[b]? = some (.cells (brk c0 c1 c2 f ph fl wl ex po pk) 46)) :
    w.cell? ⟨b, 0, none⟩ = some (.int .i64 c0) ∧ w.cell? ⟨b, 1, none⟩ = some (.int .i64 c1) ∧ w.cell? ⟨b, 2, none⟩ = some (.int .i64 c2) ∧ w.cell? ⟨b, 3, none⟩ = some f ∧ w.cell? ⟨b, 6, none⟩ = some (.int .u64 ph) ∧ w.cell? ⟨b, 7, none⟩ = some (.int .i64 fl) ∧
    w.cell? ⟨b, 8, none⟩ = some (.int .u64 wl) ∧ w.cell? ⟨b, 9, none⟩ = some (.int .i64 ex) ∧ w.cell? ⟨b, 10, none⟩ = some (.pointer none) ∧ w.cell? ⟨b, 11, none⟩ = some (.int .i64 po) ∧ w.cell? ⟨b, 12, none⟩ = some (.int .i64 pk) ∧ (∀ k, w.frozen? ⟨b, k, none⟩ = false) :=
  ⟨(row_cell h 0).1, (row_cell h 1).1, (row_cell h 2).1, (row_cell h 3).1, (row_cell h 6).1, (row_cell h 7).1, (row_cell h 8).1, (row_cell h 9).1, (row_cell h 10).1, (row_cell h 11).1, (row_cell h 12).1, fun k => (row_cell h k).2⟩
end Go.Proofs.Ybulkdncy
