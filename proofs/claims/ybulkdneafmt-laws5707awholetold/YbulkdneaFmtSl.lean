/- slices.Clone and slices.Equal at rows of values. -/
import Derived.Test.YbulkdneaFmtOpen
import Derived.Laws.StructEq
namespace Go.Proofs.YbulkdneaFmt
open Go.RowKit Go.Lib Go.Sort Go.Shelf

def encV (v : VV) : List Value := [.int .u8 v.1.1, .int .i64 v.1.2, .string v.2]
theorem encV_len (v : VV) : (encV v).length = 3 := rfl
theorem encV_one (x : VV) : ∀ v ∈ encV x, v.oneCell' = true := by
  intro v hv
  simp only [encV, List.mem_cons, List.not_mem_nil, or_false] at hv
  rcases hv with rfl | rfl | rfl <;> rfl

theorem flat_get {α : Type} [Inhabited α] (enc : α → List Value) (k : Nat) (hk : ∀ x, (enc x).length = k) : ∀ (l : List α) (t : Nat), t < l.length * k → (l.flatMap enc)[t]? = some ((enc l[t / k]!)[t % k]!)
  | [], t, h => by simp at h
  | x :: r, t, h => by
    have k0 : 0 < k := by
      rcases Nat.eq_zero_or_pos k with e | e
      · rw [e] at h; simp at h
      · exact e
    have hlen := hk x
    rw [List.flatMap_cons]
    by_cases ht : t < k
    · rw [List.getElem?_append_left (by omega), Nat.div_eq_of_lt ht, Nat.mod_eq_of_lt ht, List.getElem?_eq_getElem (by omega)]
      simp only [List.getElem!_cons_zero]
      rw [getElem!_pos (enc x) t (by omega)]
    · obtain ⟨s, rfl⟩ : ∃ s, t = s + k := ⟨t - k, by omega⟩
      rw [List.getElem?_append_right (by omega), hlen, Nat.add_sub_cancel, flat_get enc k hk r s (by rw [List.length_cons, Nat.add_mul] at h; omega), Nat.add_div_right _ k0, Nat.add_mod_right]
      simp
theorem flat_len {α : Type} (enc : α → List Value) (k : Nat) (hk : ∀ x, (enc x).length = k) : ∀ l : List α, (l.flatMap enc).length = l.length * k
  | [] => by simp
  | x :: r => by rw [List.flatMap_cons, List.length_append, hk, flat_len enc k hk r, List.length_cons, Nat.add_mul]; omega

theorem ValsAt.flat {w : World} {vb vo : Nat} {vs : List VV} (h : ValsAt w vb vo vs) : ∀ j u, (vs.flatMap encV)[j]? = some u → w.cell? ⟨vb, vo + j, none⟩ = some u := by
  intro j u hu
  have hj : j < vs.length * 3 := by
    have := (List.getElem?_eq_some_iff.1 hu).1
    rwa [flat_len encV 3 encV_len] at this
  rw [flat_get encV 3 encV_len vs j hj] at hu
  obtain ⟨h0, h1, h2⟩ := h (j / 3) (by omega)
  have hm : j % 3 = 0 ∨ j % 3 = 1 ∨ j % 3 = 2 := by omega
  generalize vs[j / 3]! = p at hu h0 h1 h2
  rcases hm with hm | hm | hm <;> rw [hm] at hu <;> simp [encV] at hu <;> subst hu
  · rw [show vo + j = vo + j / 3 * 3 by omega]; exact h0
  · rw [show vo + j = vo + j / 3 * 3 + 1 by omega]; exact h1
  · rw [show vo + j = vo + j / 3 * 3 + 2 by omega]; exact h2

theorem ValsAt.of_flat {w : World} {vb vo : Nat} {vs : List VV} (h : ∀ j u, (vs.flatMap encV)[j]? = some u → w.cell? ⟨vb, vo + j, none⟩ = some u) : ValsAt w vb vo vs := by
  intro j hj
  have e0 := flat_get encV 3 encV_len vs (j * 3) (by omega)
  have e1 := flat_get encV 3 encV_len vs (j * 3 + 1) (by omega)
  have e2 := flat_get encV 3 encV_len vs (j * 3 + 2) (by omega)
  rw [show (j * 3) / 3 = j by omega, show (j * 3) % 3 = 0 by omega] at e0
  rw [show (j * 3 + 1) / 3 = j by omega, show (j * 3 + 1) % 3 = 1 by omega] at e1
  rw [show (j * 3 + 2) / 3 = j by omega, show (j * 3 + 2) % 3 = 2 by omega] at e2
  exact ⟨h _ _ e0, h _ _ e1, h _ _ e2⟩

def eqV (x y : VV) : Bool := x.1.1 == y.1.1 && (x.1.2 == y.1.2 && x.2.toList == y.2.toList)
theorem eqV_self (x : VV) : eqV x x = true := by simp [eqV]
theorem allEq_self : ∀ l : List VV, Lib.allEq eqV l l = true
  | [] => rfl
  | x :: l => by simp [Lib.allEq, eqV_self, allEq_self l]

set_option maxHeartbeats 1000000 in
theorem neqV : NeqAt Ybaf.prog 29 (fun x => .agg (encV x).toArray) eqV := by
  refine ⟨fun x y w => ?_, GuardAt.agg _ (by kernel_rfl)⟩
  have u27 := Ybaf.underlying27
  have a27 := Ybaf.isAgg27
  have z27 := Ybaf.sizeOf27
  have u2 := Ybaf.underlying2
  have a2 := Ybaf.isAgg2
  have z2 := Ybaf.sizeOf2
  have u9 := Ybaf.underlying9
  have a9 := Ybaf.isAgg9
  have z9 := Ybaf.sizeOf9
  have hS : Ybaf.prog.underlying 29 = some (.struct (Ybaf.prog.fieldsOf 29)) := by kernel_rfl
  have hp : Ybaf.prog.stoodInHeld 29 = false := by kernel_rfl
  simp only [encV, eqV]
  rw [run_neq_struct, show (10000 : Nat) = 9999 + 1 from rfl, run_equalIn_agg w 9999 29 _ _ hS hp]
  simp only [Program.fieldsOf, Ybaf.underlying29]
  go_simp
  cases h1 : x.1.1 == y.1.1 <;> cases h2 : x.1.2 == y.1.2 <;> cases h3 : x.2.toList == y.2.toList <;> simp_all

theorem info29 : (Ybaf.prog.info? 29).map (fun i => (i.zero, i.size, i.bytes)) = some (some (.agg #[.int .u8 0, .int .i64 0, .string ⟨#[]⟩]), 3, 32) := by kernel_rfl
theorem info29' : ∃ i0, Ybaf.prog.info? 29 = some i0 ∧ i0.zero = some (.agg #[.int .u8 0, .int .i64 0, .string ⟨#[]⟩]) ∧ i0.size = 3 ∧ i0.bytes = 32 := by
  have h := info29
  cases hq : Ybaf.prog.info? 29 with
  | none => rw [hq] at h; cases h
  | some i => rw [hq] at h; simp at h; exact ⟨i, rfl, h.1, h.2.1, h.2.2⟩

theorem ValsAt.cells {w : World} {g : Nat} {l : List VV} (h : ValsAt w g 0 l) : ∀ j, j < l.length → ∀ i v, (encV l[j]!)[i]? = some v → w.cell? ⟨g, 0 + j * 3 + i, none⟩ = some v := by
  intro j hj i v hv
  obtain ⟨h0, h1, h2⟩ := h j hj
  generalize l[j]! = p at hv h0 h1 h2
  match i, hv with
  | 0, hv => simp [encV] at hv; subst hv; exact h0
  | 1, hv => simp [encV] at hv; subst hv; exact h1
  | 2, hv => simp [encV] at hv; subst hv; exact h2
  | i + 3, hv => simp [encV] at hv

theorem equal_at (g1 c1 g2 c2 n : Nat) (l : List VV) (w : World) (hn : l.length = n) (h1 : ValsAt w g1 0 l) (h2 : ValsAt w g2 0 l) (hsz : n ≤ 65536) :
    Calls Ybaf.prog 7 #[.slice (some ⟨g1, 0, none⟩) n c1, .slice (some ⟨g2, 0, none⟩) n c2] w fun e w' => e = .returned (.bool true) ∧ ∃ q, w' = w.drewN q := by
  have hcon := AnyQ.slices_Equal Ybaf.equalL 3 Ybaf.isAgg29 Ybaf.sizeOf29 encV encV_len eqV neqV g1 0 n c1 g2 0 n c2 l l w (by omega) (by omega) (by omega) (by omega) h1.cells h2.cells
  refine hcon.mono ?_
  rintro e w' ⟨rfl, q, rfl⟩
  exact ⟨by rw [allEq_self], q, rfl⟩

theorem clone_at (ib icap n : Nat) (vs : List VV) (w : World) (hn : vs.length = n) (hsz : n ≤ 65536) (hI : ValsAt w ib 0 vs) :
    Calls Ybaf.prog 4 #[.slice (some ⟨ib, 0, none⟩) n icap] w fun e w' => ∃ v', e = .returned v' ∧ w'.ownsRow w.heap.size 29 3 v' n (vs.flatMap encV) ∧ v' ≠ .slice none 0 0 ∧ RowKit.Below w.heap.size w w' := by
  obtain ⟨i0, hi, hz0, hz1, hz2⟩ := info29'
  refine (AnyE.slices_Clone Ybaf.cloneL i0 _ 3 32 hi hz0 hz1 hz2 rfl (by omega) Ybaf.sizeOf29 ib 0 n icap (vs.flatMap encV) w (by rw [flat_len encV 3 encV_len, hn]) (by unfold maxLen; omega) (by omega) hI.flat (fun u hu => by obtain ⟨x, _, hx⟩ := List.mem_flatMap.1 hu; exact encV_one x u hx)).mono ?_
  rintro e w' ⟨v', he, ho, hn', hb⟩
  exact ⟨v', he, ho, hn', hb⟩

end Go.Proofs.YbulkdneaFmt
