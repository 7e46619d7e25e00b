/- The monitor's map against a list of peers and offsets: no Go in sight. -/
import Derived.Test.YbulkdndmLook
namespace Go.Proofs.Ybulkdndm
open Go.RowKit Go.Maps

abbrev Peers := List (ByteArray × Int)
/-- All but s. -/
def less (L : Peers) (s : ByteArray) : Peers := L.filter (fun p => decide (p.1 ≠ s))
/-- How many are out of step. -/
def cnt (mx : Int) (L : Peers) : Nat := L.countP (fun p => ex p.2 mx)

theorem less_none {L : Peers} {s : ByteArray} (h : s ∉ L.map Prod.fst) : less L s = L := by
  unfold less
  refine List.filter_eq_self.2 fun p hp => ?_
  have : p.1 ≠ s := fun e => h (e ▸ List.mem_map_of_mem hp)
  simp [this]

theorem mem_less {L : Peers} {s : ByteArray} {p : ByteArray × Int} : p ∈ less L s ↔ p ∈ L ∧ p.1 ≠ s := by
  unfold less; simp

theorem not_mem_less (L : Peers) (s : ByteArray) : s ∉ (less L s).map Prod.fst := by
  intro h
  obtain ⟨p, hp, e⟩ := List.mem_map.1 h
  exact (mem_less.1 hp).2 e

theorem less_perm : ∀ {L : Peers} {s : ByteArray} {v : Int}, (L.map Prod.fst).Nodup → (s, v) ∈ L → L.Perm ((s, v) :: less L s)
  | q :: L, s, v, nd, hm => by
    rw [List.map_cons, List.nodup_cons] at nd
    obtain ⟨hq, nd⟩ := nd
    by_cases e : q.1 = s
    · have hsL : s ∉ L.map Prod.fst := e ▸ hq
      rcases List.mem_cons.1 hm with e2 | h2
      · subst e2
        have : less ((s, v) :: L) s = less L s := by unfold less; simp
        rw [this, less_none hsL]
      · exact absurd (List.mem_map_of_mem h2) hsL
    · have h2 : (s, v) ∈ L := by
        rcases List.mem_cons.1 hm with e2 | h2
        · subst e2; exact absurd rfl e
        · exact h2
      have : less (q :: L) s = q :: less L s := by unfold less; simp [e]
      rw [this]
      exact ((less_perm nd h2).cons q).trans (List.Perm.swap _ _ _)

theorem less_nodup {L : Peers} (nd : (L.map Prod.fst).Nodup) (s : ByteArray) : ((less L s).map Prod.fst).Nodup := by
  unfold less
  exact nd.sublist ((List.filter_sublist).map _)

structure Rel (D : DataW Unit) (L : Peers) : Prop where
  nd : (L.map Prod.fst).Nodup
  hs : ∀ s, Maps.has D (keyL s) = true ↔ s ∈ L.map Prod.fst
  vl : ∀ s v, (s, v) ∈ L → D.atKey (keyL s) (.lit (.int .i64 0)) = .lit (.int .i64 v)
  sz : Maps.size D = L.length

theorem Rel.nil : Rel (.map []) [] := ⟨by simp, fun s => by simp [Maps.has], fun s v h => by simp at h, rfl⟩

theorem Rel.perm {D : DataW Unit} {L L' : Peers} (h : Rel D L) (p : L.Perm L') : Rel D L' :=
  ⟨(p.map _).nodup_iff.1 h.nd, fun s => (h.hs s).trans (p.map _).mem_iff, fun s v hm => h.vl s v (p.mem_iff.2 hm), h.sz.trans p.length_eq⟩

theorem Rel.none {D : DataW Unit} {L : Peers} (h : Rel D L) {s : ByteArray} (hs : s ∉ L.map Prod.fst) : Maps.has D (keyL s) = false := by
  cases e : Maps.has D (keyL s) with
  | false => rfl
  | true => exact absurd ((h.hs s).1 e) hs

theorem Rel.del {D : DataW Unit} {L : Peers} (h : Rel D L) (ht : Tidy D) (s : ByteArray) : Rel (D.del (keyL s)) (less L s) := by
  refine ⟨less_nodup h.nd s, fun t => ?_, fun t v hm => ?_, ?_⟩
  · by_cases e : t = s
    · subst e
      rw [has_del_same]
      constructor
      · intro c; cases c
      · intro c; exact absurd c (not_mem_less L t)
    · rw [has_del_other (fun c => e (keyL_inj c)), h.hs t]
      constructor
      · intro hm
        obtain ⟨p, hp, rfl⟩ := List.mem_map.1 hm
        exact List.mem_map_of_mem (mem_less.2 ⟨hp, e⟩)
      · intro hm
        obtain ⟨p, hp, rfl⟩ := List.mem_map.1 hm
        exact List.mem_map_of_mem (mem_less.1 hp).1
  · obtain ⟨hm1, hm2⟩ := mem_less.1 hm
    rw [atKey_del_other (fun c => hm2 (keyL_inj c))]
    exact h.vl t v hm1
  · have hz := size_del (k := keyL s) ht
    cases e : Maps.has D (keyL s) with
    | true =>
      obtain ⟨p, hp, rfl⟩ := List.mem_map.1 ((h.hs s).1 e)
      have := (less_perm h.nd (v := p.2) hp).length_eq
      rw [e, if_pos rfl, h.sz, this] at hz
      simpa using hz
    | false =>
      rw [e, h.sz] at hz
      rw [less_none (fun c => by rw [(h.hs s).2 c] at e; cases e)]
      simpa using hz

theorem Rel.put {D : DataW Unit} {L : Peers} (h : Rel D L) (ht : Tidy D) {s : ByteArray} (hs : s ∉ L.map Prod.fst) (v : Int) : Rel (D.put (keyL s) (.lit (.int .i64 v))) (L ++ [(s, v)]) := by
  refine ⟨?_, fun t => ?_, fun t u hm => ?_, ?_⟩
  · rw [List.map_append, List.nodup_append]
    refine ⟨h.nd, by simp, fun a ha b hb e => hs ?_⟩
    simp at hb
    rw [← hb, ← e]; exact ha
  · by_cases e : t = s
    · subst e
      rw [has_put_same ht.isMap (by trivial)]
      simp
    · rw [has_put_other (fun c => e (keyL_inj c)), h.hs t]
      simp [e]
  · rcases List.mem_append.1 hm with h1 | h1
    · rw [atKey_put_other (fun c => hs (by rw [← keyL_inj c]; exact List.mem_map_of_mem h1))]
      exact h.vl t u h1
    · simp at h1
      obtain ⟨rfl, rfl⟩ := h1
      exact atKey_put_same ht.isMap (by trivial) _ _
  · rw [size_put ht, h.none hs, h.sz]
    simp

theorem cnt_perm {mx : Int} {L L' : Peers} (p : L.Perm L') : cnt mx L = cnt mx L' := p.countP_eq _
theorem cnt_le (mx : Int) (L : Peers) : cnt mx L ≤ L.length := List.countP_le_length
theorem cnt_app (mx : Int) (L : Peers) (s : ByteArray) (v : Int) : cnt mx (L ++ [(s, v)]) = cnt mx L + (if ex v mx = true then 1 else 0) := by
  unfold cnt
  rw [List.countP_append, List.countP_singleton]
theorem cnt_less {mx : Int} {L : Peers} (nd : (L.map Prod.fst).Nodup) {s : ByteArray} {v : Int} (h : (s, v) ∈ L) : cnt mx L = cnt mx (less L s) + (if ex v mx = true then 1 else 0) := by
  rw [cnt_perm (less_perm nd h)]
  unfold cnt
  rw [List.countP_cons]

theorem erase_perm {α : Type} : ∀ (l : List α) (i : Nat) (h : i < l.length), (l[i] :: l.eraseIdx i).Perm l
  | a :: l, 0, _ => by simp
  | a :: l, i + 1, h => by
    have h' : i < l.length := by simpa using h
    simp only [List.getElem_cons_succ, List.eraseIdx_cons_succ]
    exact (List.Perm.swap _ _ _).trans ((erase_perm l i h').cons a)

/-- The offset exchanged in place: the same peers as taken out and put in again. -/
theorem set_perm {L : Peers} (nd : (L.map Prod.fst).Nodup) {i : Nat} (hi : i < L.length) {s : ByteArray} (hs : (L[i]!).1 = s) (v : Int) : (less L s ++ [(s, v)]).Perm (L.set i (s, v)) := by
  subst hs
  rw [getElem!_pos L i hi]
  have hm : (L[i].1, L[i].2) ∈ L := List.getElem_mem hi
  have h1 := less_perm nd hm
  have h2 : L.Perm (L[i] :: L.eraseIdx i) := (erase_perm L i hi).symm
  have h3 : (less L L[i].1).Perm (L.eraseIdx i) := (h1.symm.trans h2).cons_inv
  refine (List.perm_append_comm.trans ?_)
  refine ((h3.cons (L[i].1, v)).trans ?_)
  have h4 := erase_perm (L.set i (L[i].1, v)) i (by simpa using hi)
  rw [List.getElem_set_self, List.eraseIdx_set_eq] at h4
  exact h4
end Go.Proofs.Ybulkdndm
