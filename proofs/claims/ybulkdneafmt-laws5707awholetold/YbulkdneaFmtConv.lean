/- string(want), and runs of values. -/
import Derived.Test.YbulkdneaFmtDesc
import Derived.Test.YbulkdneaFmtSl
import Derived.Lib.BufferRead
namespace Go.Proofs.YbulkdneaFmt
open Go.RowKit

theorem conv_any {B : Nat} {v : Value} {l : List UInt8} {w : World} (h : BR B v l w) : (convert 37 9 v).run Ybaf.prog w = .ok (.string ⟨l.toArray⟩) w := by
  rcases h.own.2 with ⟨rfl, e⟩ | ⟨g, cap, cur, rfl, _, hg, _⟩
  · have : l = [] := List.eq_nil_of_length_eq_zero e
    subst this
    exact Lib.run_convert_nil_bytes w 37 9 5 0 Ybaf.underlying37 Ybaf.underlying5 Ybaf.underlying9
  · refine run_convert_bytes_back (P := Ybaf.prog) w 37 9 5 ⟨g, 0, none⟩ cap l Ybaf.underlying37 Ybaf.underlying5 Ybaf.underlying9 (fun j hj => ?_)
    refine h.own.cells (g := g) rfl j _ ?_
    unfold Lib.byteCells
    rw [List.getElem?_map, List.getElem?_eq_getElem hj]
    rfl

/-- The group numbered ix. -/
def grp (vs : List VV) (ix k : Nat) : List VV := (vs.drop (ix * k)).take k
theorem grp_len {vs : List VV} {n ix k : Nat} (hn : vs.length = n) (h : ix * k + k ≤ n) : (grp vs ix k).length = k := by
  unfold grp; rw [List.length_take, List.length_drop]; omega
theorem grp_get {vs : List VV} {n ix k m : Nat} (hn : vs.length = n) (h : ix * k + k ≤ n) (hm : m < k) : (grp vs ix k)[m]! = vs[ix * k + m]! := by
  have h1 := grp_len hn h
  rw [getElem!_pos (grp vs ix k) m (by omega), getElem!_pos vs (ix * k + m) (by omega)]
  unfold grp
  simp
theorem grp_ok {vs : List VV} (ok : ValsOk vs) (ix k : Nat) : ValsOk (grp vs ix k) := fun v hv => ok v (List.mem_of_mem_drop (List.mem_of_mem_take hv))
theorem take_ok {vs : List VV} (ok : ValsOk vs) (n : Nat) : ValsOk (vs.take n) := fun v hv => ok v (List.mem_of_mem_take hv)
theorem ValsAt.grp {w : World} {g n ix k : Nat} {vs : List VV} (h : ValsAt w g 0 vs) (hn : vs.length = n) (hi : ix * k + k ≤ n) : ValsAt w g (ix * k * 3) (grp vs ix k) := by
  intro m hm
  rw [grp_len hn hi] at hm
  rw [grp_get hn hi hm]
  obtain ⟨h0, h1, h2⟩ := h (ix * k + m) (by omega)
  have e : ix * k * 3 + m * 3 = 0 + (ix * k + m) * 3 := by rw [Nat.add_mul]; omega
  rw [e]
  exact ⟨h0, h1, h2⟩
theorem info95 : ∃ i0, Ybaf.prog.info? 95 = some i0 ∧ i0.zero = some (.agg #[.int .i64 0, .int .u8 0, .pointer none]) ∧ i0.size = 3 ∧ i0.bytes = 24 := by
  have h : (Ybaf.prog.info? 95).map (fun i => (i.zero, i.size, i.bytes)) = some (some (.agg #[.int .i64 0, .int .u8 0, .pointer none]), 3, 24) := by kernel_rfl
  cases hq : Ybaf.prog.info? 95 with
  | none => rw [hq] at h; cases h
  | some i => rw [hq] at h; simp at h; exact ⟨i, rfl, h.1, h.2.1, h.2.2⟩
theorem own_vals {w : World} {B n : Nat} {v : Value} {vs : List VV} (h : w.ownsRow B 29 3 v n (vs.flatMap encV)) (hv : v ≠ .slice none 0 0) : ∃ g c, v = .slice (some ⟨g, 0, none⟩) n c ∧ g < w.heap.size ∧ ValsAt w g 0 vs := by
  rcases h.2 with ⟨e, _⟩ | ⟨g, cap, cur, rfl, _, hg, _⟩
  · exact absurd e hv
  · refine ⟨g, cap, rfl, (Array.getElem?_eq_some_iff.1 hg).1, ValsAt.of_flat fun j u hu => ?_⟩
    have := h.cells (g := g) rfl j u hu
    rwa [Addr.add_lit] at this
end Go.Proofs.YbulkdneaFmt
