/- THE ARGUMENT: a slice of values, opened. -/
import Derived.Test.YbulkdneaFmtTuple
import Derived.ProofKit
import Derived.OpenShut
import Derived.Deep.Slices
import Derived.Deep.Strs
import Derived.SizedLaws
namespace Go.Proofs.YbulkdneaFmt
open Go.ChangeShapes Go.WideShapes Go.ChangeAt Go.RowKit Go.Deep

theorem cells24 : Ybaf.prog.cellsOf 24 = 3 := by kernel_rfl
theorem cells5 : Ybaf.prog.cellsOf 5 = 1 := by kernel_rfl
theorem cells2 : Ybaf.prog.cellsOf 2 = 1 := by kernel_rfl
theorem cells9 : Ybaf.prog.cellsOf 9 = 1 := by kernel_rfl

theorem range_get {α : Type} [Inhabited α] (f : Nat → α) {n j : Nat} (h : j < n) : ((List.range n).map f)[j]! = f j := by
  rw [getElem!_pos _ _ (by simpa using h)]; simp

theorem weightsAll_mem {H : Type} {P : Program} {e : TypeId} : ∀ {l : List (DataW H)} {d : DataW H}, d ∈ l → ∀ n ∈ d.weights P e, n ∈ DataW.weightsAll P e l
  | x :: l, d, hd, n, hn => by
    rw [DataW.weightsAll, List.mem_append]
    rcases List.mem_cons.1 hd with e | e
    · subst e; exact .inl hn
    · exact .inr (weightsAll_mem e n hn)

theorem open_val {H : Type} {enc : TypeId × Value → H} {W : World} {base n : Nat} {spare : Nat → Bool} {held : Bool} {cs : List Value} {x : DataW H × List MemPlace} (h : DataW.trod enc Ybaf.prog W base spare held n 24 cs = some x) :
    ∃ v : VV, cs = [.int .u8 v.1.1, .int .i64 v.1.2, .string v.2] ∧ (Lit.int .i64 v.1.2).wf = true ∧ v.2.size ∈ x.1.weights Ybaf.prog 24 := by
  obtain ⟨y0, y1, y2, n', hx, hl, t0, t1, t2⟩ := trod_struct3 Ybaf.underlying24 h
  rw [cells24] at hl
  simp only [cells5, cells2, cells9] at t0 t1 t2
  match cs, hl with
  | [c0, c1, c2], _ =>
    simp at t0 t1 t2
    obtain ⟨a, e0, _, _⟩ := DataW.trod_int Ybaf.underlying5 t0
    obtain ⟨c, e1, _, w1⟩ := DataW.trod_int Ybaf.underlying2 t1
    obtain ⟨s, e2, ey, _⟩ := DataW.trod_string Ybaf.underlying9 t2
    simp at e0 e1 e2
    subst e0 e1 e2
    refine ⟨((a, c), s), rfl, w1, ?_⟩
    rw [hx, ey]
    simp only [DataW.weights, Ybaf.underlying24]
    have : s.size = s.data.toList.length := by simp
    rw [this]
    simp [DataW.weightsEach, DataW.weights]

theorem open_vals {H : Type} {enc : TypeId × Value → H} {W : World} {base fuel : Nat} {a0 : Option Addr} {len cap : Nat} {x : DataW H × List MemPlace} (h : DataW.trod enc Ybaf.prog W base (fun _ => true) true fuel 22 [.slice a0 len cap] = some x) (hw : ∀ n ∈ x.1.weights Ybaf.prog 22, n ≤ reachBytes) :
    len ≤ maxLen ∧ ∃ vs : List VV, vs.length = len ∧ (len = 0 ∨ ∃ b o, a0 = some ⟨b, o, none⟩ ∧ b < W.heap.size ∧ ValsAt W b o vs) ∧ ∀ v ∈ vs, v.2.size ≤ reachBytes ∧ (Lit.int .i64 v.1.2).wf = true := by
  rcases open_slice Ybaf.underlying22 h with ⟨hcs, _⟩ | ⟨a, len', cap', m, n, D, Pl, hcs, _, hl, hm, hmm, hxx, hx⟩
  · simp at hcs
    obtain ⟨rfl, rfl, rfl⟩ := hcs
    exact ⟨Nat.zero_le _, [], rfl, .inl rfl, fun v hv => by cases hv⟩
  · simp at hcs
    obtain ⟨rfl, rfl, rfl⟩ := hcs
    refine ⟨by omega, ?_⟩
    rcases Nat.eq_zero_or_pos len with h0 | h0
    · exact ⟨[], h0.symm, .inl h0, fun v hv => by cases hv⟩
    · simp only [if_true] at hmm
      subst hmm
      rw [cells24] at hx
      obtain ⟨f, hf⟩ := choose_lt (α := VV) (n := len) (p := fun i v => (∀ j, j < 3 → W.cell? ((a.add (i * 3)).add j) = [Value.int .u8 v.1.1, .int .i64 v.1.2, .string v.2][j]?) ∧ v.2.size ≤ reachBytes ∧ (Lit.int .i64 v.1.2).wf = true) (fun i hi => by
        obtain ⟨cs', h1, h2⟩ := hx i (by omega)
        obtain ⟨_, hlen, hc⟩ := World.cells?_some h1
        obtain ⟨v, rfl, hv, hwt⟩ := open_val h2
        refine ⟨v, hc, hw _ ?_, hv⟩
        rw [hxx]
        simp only [DataW.weights, Ybaf.underlying22, List.mem_cons, List.mem_append]
        exact .inr (.inl (weightsAll_mem (List.mem_map.2 ⟨i, by simpa using hi, rfl⟩) _ hwt)))
      have h00 : W.cell? ((a.add (0 * 3)).add 0) = some (.int .u8 (f 0).1.1) := (hf 0 h0).1 0 (by omega)
      obtain ⟨b, off, spot⟩ := a
      have hspot : spot = none := by simpa [Addr.add] using World.cell?_spot h00
      subst hspot
      refine ⟨(List.range len).map f, by simp, .inr ⟨b, off, rfl, ?_, ?_⟩, ?_⟩
      · simpa [Addr.add] using World.block_lt_of_cell? _ _ h00
      · intro j hj
        have hj' : j < len := by simpa using hj
        rw [range_get f hj']
        obtain ⟨e, e2⟩ := hf j hj'
        have q0 := e 0 (by omega)
        have q1 := e 1 (by omega)
        have q2 := e 2 (by omega)
        rw [Addr.add_lit, Addr.add_lit] at q0 q1 q2
        exact ⟨q0, q1, q2⟩
      · intro v hv
        obtain ⟨i, hi, rfl⟩ := List.mem_map.1 hv
        exact (hf i (by simpa using hi)).2

/-! ### the strings' lengths, added up -/
def tot (vs : List VV) (k : Nat) : Nat := ((vs.take k).map (fun v => v.2.size)).sum
theorem tot_succ (vs : List VV) (k : Nat) (h : k < vs.length) : tot vs (k + 1) = tot vs k + (vs[k]!).2.size := by
  unfold tot
  rw [List.take_succ_eq_append_getElem h, List.map_append, List.sum_append, getElem!_pos vs k h]
  simp
theorem tot_le (vs : List VV) (M : Nat) (h : ∀ v ∈ vs, v.2.size ≤ M) : ∀ k, k ≤ vs.length → tot vs k ≤ k * M
  | 0, _ => by simp [tot]
  | k + 1, hk => by
    rw [tot_succ vs k (by omega), Nat.succ_mul]
    have := tot_le vs M h k (by omega)
    have h2 := h (vs[k]!) (by rw [getElem!_pos vs k (by omega)]; exact List.getElem_mem _)
    omega
theorem mem_le_sum : ∀ {l : List Nat} {n : Nat}, n ∈ l → n ≤ l.sum
  | x :: l, n, h => by
    rw [List.sum_cons]
    rcases List.mem_cons.1 h with e | e
    · omega
    · have := mem_le_sum e; omega
theorem le_tot (vs : List VV) {v : VV} (h : v ∈ vs) : v.2.size ≤ tot vs vs.length := by
  unfold tot
  rw [List.take_length]
  exact mem_le_sum (List.mem_map.2 ⟨v, h, rfl⟩)
end Go.Proofs.YbulkdneaFmt
