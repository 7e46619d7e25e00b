/- What the loops of LawS5703BWhole keep. -/
import Derived.Test.YbulkdnbwPush
namespace Go.Proofs.Ybulkdnbw
open Go.RowKit Go.Lib Go.Sort Go.Shelf

/-- Behind a push, 'hs' as the next push wants it. -/
theorem PU.ph {w0 : World} {B sb g cap k : Nat} {dk : Array Item} {wr : World} (h : PU w0 B sb g cap k dk wr) : PH w0 B sb (.slice (some ⟨g, 0, none⟩) k cap) dk.toList wr := by
  refine ⟨?_, h.box, h.bel, h.hB1, ?_⟩
  · have e : dk.toList.length = k := by simp [h.sz]
    rw [e]; exact h.owns
  · intro e; exact h.ne (Option.some.inj e)

theorem PH.alloc {w0 : World} {B sb : Nat} {v : Value} {l : List Item} {w w' : World} (h : PH w0 B sb v l w) (G : Gr w w') : PH w0 B sb v l w' := by
  have h1 : sb < w.heap.size := (Array.getElem?_eq_some_iff.1 h.box).1
  have h2 := h.hB1
  exact ⟨ownsRow_gr h.own G, by rw [G.below.block sb h1]; exact h.box, h.bel.trans (G.below.mono (by omega)), h.hB1, h.ne⟩

/-- One head more: a heap again, of one item more. -/
theorem push_plain (its : List Item) (k : Nat) (l : List Item) (x : Item) (hk : k < its.length) (hx : its[k]! = x) (hl : l.length = k) (hp : l.Perm (its.take k)) (hH : HeapTo lt l.toArray k) :
    (up lt l.length l.length (l ++ [x]).toArray).toList.length = k + 1 ∧ (up lt l.length l.length (l ++ [x]).toArray).toList.Perm (its.take (k + 1)) ∧ HeapTo lt (up lt l.length l.length (l ++ [x]).toArray) (k + 1) := by
  have hs : (l ++ [x]).toArray.size = k + 1 := by simp [hl]
  have hup := up_perm lt l.length l.length (k + 1) (l ++ [x]).toArray (by omega) (by omega)
  have hsz : (up lt l.length l.length (l ++ [x]).toArray).size = k + 1 := by rw [hup.1, hs]
  have hpp := hup.2.2
  rw [show (up lt l.length l.length (l ++ [x]).toArray).extract 0 (k + 1) = up lt l.length l.length (l ++ [x]).toArray from by rw [← hsz]; exact Array.extract_size, show (l ++ [x]).toArray.extract 0 (k + 1) = (l ++ [x]).toArray from by rw [← hs]; exact Array.extract_size] at hpp
  refine ⟨by simpa using hsz, ?_, ?_⟩
  · have e : its.take (k + 1) = its.take k ++ [x] := by
      rw [List.take_succ_eq_append_getElem hk, ← hx]; simp [hk]
    rw [e]
    exact (show _ from hpp).trans (hp.append_right _)
  · have hH' : HeapTo lt (l ++ [x]).toArray l.length := by
      intro i h1 h2
      have a1 : (l ++ [x]).toArray[i]! = l.toArray[i]! := by
        rw [getElem!_pos (l ++ [x]).toArray i (by simp; omega), getElem!_pos l.toArray i (by simpa using h2)]; simp [List.getElem_append_left h2]
      have a2 : (l ++ [x]).toArray[(i - 1) / 2]! = l.toArray[(i - 1) / 2]! := by
        rw [getElem!_pos (l ++ [x]).toArray ((i - 1) / 2) (by simp; omega), getElem!_pos l.toArray ((i - 1) / 2) (by simp; omega)]; simp [List.getElem_append_left (show (i - 1) / 2 < l.length by omega)]
      rw [a1, a2]; exact hH i h1 (by omega)
    have := push_heap lt_swo (l ++ [x]).toArray l.length (by simp) hH'
    rwa [hl] at this ⊢

/-- The running least. -/
def Least (its : List Item) (k : Nat) (x : Item) : Prop := x ∈ its ∧ ∀ j, j < k → lt its[j]! x = false
theorem Least.zero (its : List Item) (h : 0 < its.length) : Least its 0 its[0]! := ⟨by rw [getElem!_pos its 0 h]; exact List.getElem_mem h, fun j hj => by omega⟩
theorem Least.keep {its : List Item} {k : Nat} {x : Item} (h : Least its k x) (hx : lt its[k]! x = false) : Least its (k + 1) x :=
  ⟨h.1, fun j hj => by
    rcases Nat.lt_or_ge j k with e | e
    · exact h.2 j e
    · obtain rfl : j = k := by omega
      exact hx⟩
theorem Least.take {its : List Item} {k : Nat} {x : Item} (h : Least its k x) (hk : k < its.length) (hx : lt its[k]! x = true) : Least its (k + 1) its[k]! :=
  ⟨by rw [getElem!_pos its k hk]; exact List.getElem_mem hk, fun j hj => by
    rcases Nat.lt_or_ge j k with e | e
    · exact SWO.notlt lt_swo hx (h.2 j e)
    · obtain rfl : j = k := by omega
      exact lt_swo.irrefl _⟩
/-- The root of a heap of all the items is the least. -/
theorem Least.root {its : List Item} {x : Item} {l : List Item} (h : Least its its.length x) (hp : l.Perm its) (h0 : 0 < l.length) (hH : HeapTo lt l.toArray l.length) : l.toArray[0]! = x := by
  have hr := heap_root lt_swo l.toArray l.length hH
  refine lt_total _ _ ?_ ?_
  · have hm : l.toArray[0]! ∈ its := by
      rw [getElem!_pos l.toArray 0 (by simpa using h0)]
      exact hp.mem_iff.1 (by simp)
    obtain ⟨j, hj, e⟩ := List.getElem_of_mem hm
    have := h.2 j hj
    rw [getElem!_pos its j hj, e] at this
    exact this
  · obtain ⟨j, hj, e⟩ := List.getElem_of_mem (hp.mem_iff.2 h.1)
    have := hr j hj
    rw [getElem!_pos l.toArray j (by simpa using hj)] at this
    rw [← e]
    simpa using this

/-- What the second loop keeps. -/
structure WI (w : World) (sb g cap m NB : Nat) (r : Array Item) (x0 wt : Item) (wr : World) : Prop where
  row : HoldsK encH 11 wr g 0 r
  got : HoldsK encH 11 wr NB 0 #[x0]
  wnt : HoldsK encI 3 wr (NB + 1) 0 #[wt]
  hs : wr.cell? ⟨sb, 0, none⟩ = some (.slice (some ⟨g, 0, none⟩) m cap)
  bel : RowKit.Below w.heap.size w wr
  sz : NB + 1 < wr.heap.size
  gN : g < NB
  sN : sb < NB
  wN : w.heap.size ≤ NB

theorem WI.gr {w : World} {sb g cap m NB : Nat} {r : Array Item} {x0 wt : Item} {wr wr' : World} (h : WI w sb g cap m NB r x0 wt wr) (G : Gr wr wr') : WI w sb g cap m NB r x0 wt wr' := by
  have h1 := h.sz
  have h2 := h.gN
  have h3 := h.sN
  have h4 := h.wN
  have h5 := G.le
  exact ⟨G.holdsK (by omega) h.row, G.holdsK (by omega) h.got, G.holdsK (by omega) h.wnt, by rw [G.cell (by show sb < _; omega)]; exact h.hs, h.bel.trans (G.below.mono (by omega)), by omega, h2, h3, h4⟩

theorem WI.set {w : World} {sb g cap m NB : Nat} {r : Array Item} {x0 wt : Item} {wr : World} (h : WI w sb g cap m NB r x0 wt wr) (x : Item) :
    Sem.run Yba.prog (Instr.storeAt 26 (.pointer (some ⟨NB + 1, 0, none⟩)) (.agg (encI x).toArray)) wr = .ok () (wr.setCells (NB + 1) 0 (encI x)) ∧ WI w sb g cap m NB r x0 x (wr.setCells (NB + 1) 0 (encI x)) := by
  have h1 := h.sz
  have h2 := h.gN
  have h3 := h.sN
  have h4 := h.wN
  have s6 := run_storeAt_agg Yba.sizeOf26 (encI_len x) (st_row Yba.prog encI_len encI_one h.wnt 0 (by simp) x)
  have n6 := holdsK_set encI_len h.wnt 0 (by simp) x
  simp only [Nat.zero_mul, Nat.add_zero] at s6 n6
  refine ⟨s6, ⟨holdsK_other (by omega) h.row _, holdsK_other (by omega) h.got _, n6, ?_, below_setCells (by omega) _ _ _ h.bel, by rw [size_setCells]; exact h1, h2, h3, h4⟩⟩
  rw [World.cell?_setCells_out _ _ _ _ _ (fun e _ => absurd e (by show sb ≠ _; omega))]; exact h.hs

theorem one_cells {w : World} {b : Nat} {a c : ByteArray} {s : Int} (h : HoldsK encI 3 w b 0 #[((a, c), s)]) :
    w.cell? ⟨b, 0, none⟩ = some (.string a) ∧ w.cell? ⟨b, 1, none⟩ = some (.string c) ∧ w.cell? ⟨b, 2, none⟩ = some (.int .i64 s) := by
  have h' := fun c hc => (h.cell (i := 0) (c := c) (by simp) hc).1
  exact ⟨h' 0 (by omega), h' 1 (by omega), h' 2 (by omega)⟩

theorem holdsI_new (w : World) (x : Item) (T : TypeId) : HoldsK encI 3 (w.alloc (.cells (encI x).toArray T)) w.heap.size 0 #[x] := by
  intro j hj
  have hj' : j < 3 := by simpa using hj
  refine ⟨?_, by simp⟩
  rw [get_flatK _ _ _ _ (by simpa using hj')]
  have e0 : j / 3 = 0 := by omega
  have e1 : j % 3 = j := by omega
  rw [e0, e1, Nat.zero_add, World.cell?_alloc_new]
  rw [show (#[x] : Array Item)[0]! = x from rfl, getElem!_pos (encI x) j (by rw [encI_len]; exact hj')]
  simp

theorem lt_cf (x y : Item) : lt x y = decide (cf x y < 0) := rfl
end Go.Proofs.Ybulkdnbw
