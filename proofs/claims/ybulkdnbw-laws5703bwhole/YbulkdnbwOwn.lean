/- Rows of items that the call itself makes; '!=' between two items; the sort's, the clone's and the comparison's contracts at this program. -/
import Derived.Test.YbulkdnbwRow
import Derived.Test.YbulkdnbwShelf
import Derived.Laws.StructEq
import Derived.OwnWalk
namespace Go.Proofs.Ybulkdnbw
open Go.RowKit Go.Lib Go.Sort Go.Shelf

theorem flat_get {α : Type} [Inhabited α] (enc : α → List Value) (k : Nat) (hk : ∀ x, (enc x).length = k) : ∀ (l : List α) (t : Nat), t < l.length * k → (l.flatMap enc)[t]? = some ((enc l[t / k]!)[t % k]!)
  | [], t, h => by simp at h
  | x :: r, t, h => by
    have k0 : 0 < k := by
      rcases Nat.eq_zero_or_pos k with e | e
      · rw [e] at h; simp at h
      · exact e
    have hlen := hk x
    rw [List.flatMap_cons]
    by_cases ht : t < k
    · rw [List.getElem?_append_left (by omega), Nat.div_eq_of_lt ht, Nat.mod_eq_of_lt ht, List.getElem?_eq_getElem (by omega)]
      simp only [List.getElem!_cons_zero]
      rw [getElem!_pos (enc x) t (by omega)]
    · obtain ⟨s, rfl⟩ : ∃ s, t = s + k := ⟨t - k, by omega⟩
      rw [List.getElem?_append_right (by omega), hlen, Nat.add_sub_cancel, flat_get enc k hk r s (by rw [List.length_cons, Nat.add_mul] at h; omega), Nat.add_div_right _ k0, Nat.add_mod_right]
      simp

theorem flat_len {α : Type} (enc : α → List Value) (k : Nat) (hk : ∀ x, (enc x).length = k) : ∀ l : List α, (l.flatMap enc).length = l.length * k
  | [] => by simp
  | x :: r => by rw [List.flatMap_cons, List.length_append, hk, flat_len enc k hk r, List.length_cons, Nat.add_mul]; omega

theorem flatK_flat {α : Type} [Inhabited α] (enc : α → List Value) (k : Nat) (hk : ∀ x, (enc x).length = k) (l : List α) : flatK enc k l.toArray = (l.flatMap enc).toArray := by
  refine ext_get! (by simp [flat_len enc k hk]) fun t ht => ?_
  have ht' : t < l.length * k := by simpa using ht
  rw [get_flatK _ _ _ _ (by simpa using ht'), getElem!_pos (l.flatMap enc).toArray t (by simp [flat_len enc k hk]; exact ht')]
  have h := flat_get enc k hk l t ht'
  rw [List.getElem?_eq_getElem (by rw [flat_len enc k hk]; exact ht')] at h
  have h2 := Option.some.inj h
  rw [List.getElem_toArray, h2]
  simp

/-- An owned row of items, as the sort wants it. -/
theorem holdsK_of_owns {w : World} {base g n cap : Nat} {l : List Item} {T : TypeId} (h : w.ownsRow base T 3 (.slice (some ⟨g, 0, none⟩) n cap) n (l.flatMap encI)) (hn : l.length = n) : HoldsK encI 3 w g 0 l.toArray ∧ g < w.heap.size ∧ base ≤ g := by
  rcases h.2 with ⟨e, _⟩ | ⟨g', cap', cur, e, hb, hg, _, _, hcs, ht⟩
  · cases e
  · cases e
    refine ⟨?_, (Array.getElem?_eq_some_iff.1 hg).1, hb⟩
    intro j hj
    have hj' : j < l.length * 3 := by simpa using hj
    have hfl := flat_get encI 3 encI_len l j hj'
    refine ⟨?_, by simp [World.frozen?, hg]⟩
    rw [Nat.zero_add, cell_of_row w g j cur T (0, 0) hg]
    have hh : (cur.toList.take (n * 3))[j]? = some ((encI l[j / 3]!)[j % 3]!) := by rw [ht]; exact hfl
    rw [List.getElem?_take, if_pos (by rw [← hn]; exact hj')] at hh
    rw [get_flatK _ _ _ _ (by simpa using hj')]
    simpa using hh

theorem oneCell_flat (l : List Item) : ∀ u ∈ l.flatMap encI, u.oneCell' = true := by
  intro u hu
  obtain ⟨x, _, hx⟩ := List.mem_flatMap.1 hu
  exact encI_one x u hx

def eqI (x y : Item) : Bool := x.1.1.toList == y.1.1.toList && (x.1.2.toList == y.1.2.toList && x.2 == y.2)
theorem eqI_self (x : Item) : eqI x x = true := by simp [eqI]

set_option maxHeartbeats 1000000 in
theorem neqI : NeqAt Yba.prog 26 (fun x => .agg (encI x).toArray) eqI := by
  refine ⟨fun x y w => ?_, GuardAt.agg _ (by kernel_rfl)⟩
  have u3 := Yba.underlying3
  have a3 := Yba.isAgg3
  have z3 := Yba.sizeOf3
  have u9 := Yba.underlying9
  have a9 := Yba.isAgg9
  have z9 := Yba.sizeOf9
  have hS : Yba.prog.underlying 26 = some (.struct (Yba.prog.fieldsOf 26)) := by kernel_rfl
  have hp : Yba.prog.stoodInHeld 26 = false := by kernel_rfl
  simp only [encI, eqI]
  rw [run_neq_struct, show (10000 : Nat) = 9999 + 1 from rfl, run_equalIn_agg w 9999 26 _ _ hS hp]
  simp only [Program.fieldsOf, Yba.underlying26]
  go_simp
  cases h1 : x.1.1.toList == y.1.1.toList <;> cases h2 : x.1.2.toList == y.1.2.toList <;> cases h3 : x.2 == y.2 <;> simp_all

/-- zzs5703bcmp, as the sort asks it. -/
theorem cmpLays (blk off size : Nat) (w : World) : CmpLays Yba.prog 8 #[] encI 3 cf blk off size w := fun _ _ _ _ x y => cmp_any x.1.1 x.1.2 y.1.1 y.1.2 x.2 y.2 _

def sortI (l : List Item) : List Item := l.mergeSort fun x y => !(ltOf cf) y x

theorem heap_sorted_other (w : World) (g n b : Nat) (d : Array Item) (os : Array Obj) (hb : b < w.heap.size) (hne : b ≠ g) : (sortWorldK encI 3 w g 0 n d os).heap[b]? = w.heap[b]? := by
  unfold sortWorldK
  rw [heap_grow_old _ os (by rw [size_putRowK]; exact hb)]
  unfold putRowK putRow mapBlock
  simp [Array.getElem?_modify, Ne.symm hne, Sort.ahead]
theorem size_sorted (w : World) (g n : Nat) (d : Array Item) (os : Array Obj) : w.heap.size ≤ (sortWorldK encI 3 w g 0 n d os).heap.size := by
  unfold sortWorldK
  rw [Sort.size_grow, size_putRowK]
  exact Nat.le_add_right _ _

/-- slices.SortFunc at a row of items. -/
theorem sort_any (g cap : Nat) (l : List Item) (w : World) (hH : HoldsK encI 3 w g 0 l.toArray) (hg : g < w.heap.size) (hsz : l.length ≤ 65536) :
    Calls Yba.prog 14 #[.slice (some ⟨g, 0, none⟩) l.length cap, .func (.func 8) #[] #[]] w fun e w' => e = .returned (.tuple #[]) ∧ HoldsK encI 3 w' g 0 (sortI l).toArray ∧
      (∀ B, B ≤ g → B ≤ w.heap.size → RowKit.Below B w w') ∧ (∀ b o (d : Array Item), b < w.heap.size → b ≠ g → HoldsK encI 3 w b o d → HoldsK encI 3 w' b o d) ∧ w.heap.size ≤ w'.heap.size := by
  have eg : ∀ args w, (callFunc 8 args).run Yba.prog w = .ok (.enter 8 args) w := enters_of Yba.func8 (by kernel_rfl) rfl
  have hcon := AnyQ.slices_SortFunc_total Yba.sortL 3 Yba.isAgg26 Yba.sizeOf26 encI encI_len encI_one cf cf_cmp.swo 8 #[] g 0 cap l.toArray w eg (cmpLays g 0 _ w) hH hg (by simp; omega) cf_cmp.total
  refine hcon.mono ?_
  rintro e w' ⟨rfl, n, os, rfl⟩
  have hl : (sortI l).toArray.size = l.toArray.size := by simp [sortI]
  refine ⟨rfl, holdsK_sortWorldK encI 3 w g 0 n l.toArray (sortI l).toArray os hg hH hl, ?_, ?_, size_sorted w g n _ os⟩
  · intro B h1 h2
    exact ⟨rfl, rfl, rfl, size_sorted w g n _ os, fun b hb => heap_sorted_other w g n b _ os (by omega) (by omega)⟩
  · intro b o d hb hne hd j hj
    have hh := heap_sorted_other w g n b (sortI l).toArray os hb hne
    exact ⟨(World.cell?_of_block (a := ⟨b, o + j, none⟩) hh).trans (hd j hj).1, (World.frozen?_of_block (a := ⟨b, o + j, none⟩) hh).trans (hd j hj).2⟩

end Go.Proofs.Ybulkdnbw
