/- The steps of LawS5706BWhole's loops. -/
import Derived.Test.YbulkdndmWInv
namespace Go.Proofs.Ybulkdndm
open Go.RowKit Go.Maps

theorem info9 : (Yba.prog.info? 9).map (fun i => (i.zero, i.size, i.bytes)) = some (some (.string ⟨#[]⟩), 1, 16) := by kernel_rfl
theorem info2 : (Yba.prog.info? 2).map (fun i => (i.zero, i.size, i.bytes)) = some (some (.int .i64 0), 1, 8) := by kernel_rfl

theorem not_in {L : Peers} {n : Nat} {s : ByteArray} (hn : L.length = n) (h : ∀ i, i < n → (L[i]!).1 ≠ s) : s ∉ L.map Prod.fst := by
  intro hm
  obtain ⟨p, hp, e⟩ := List.mem_map.1 hm
  obtain ⟨i, hi, hip⟩ := List.getElem_of_mem hp
  refine h i (by omega) ?_
  rw [getElem!_pos L i hi, hip]; exact e

theorem WI.turn {w0 : World} {B sb bm : Nat} {mx : Int} {k N : Nat} {L : Peers} {kv vv : Value} {wr w' : World} (h : WI w0 B sb bm mx k L kv vv wr) (M : MI w' sb bm mx 0 N L) (F : Fr2 sb bm wr w') : WI w0 B sb bm mx N L kv vv w' :=
  ⟨M, h.rows.keep F.block, h.ok, h.bel.trans (F.below h.hs.1 h.hs.2 h.hB), Nat.le_trans h.hB F.size, h.hs⟩

theorem kcells_app (L : Peers) (s : ByteArray) (v : Int) : kcells (L ++ [(s, v)]) = kcells L ++ [.string s] := by unfold kcells; simp
theorem vcells_app (L : Peers) (s : ByteArray) (v : Int) : vcells (L ++ [(s, v)]) = vcells L ++ [.int .i64 v] := by unfold vcells; simp
theorem news1 (w : World) (u : Value) (t : TypeId) : ∀ j x, [u][j]? = some x → (w.alloc (Obj.cells #[u] t)).cell? ((⟨w.heap.size, 0, none⟩ : Addr).add j) = some x := by
  intro j x hj
  match j, hj with
  | 0, hj => simp at hj; subst hj; simp [Addr.add]
theorem one_str (s : ByteArray) : ∀ u ∈ [Value.string s], u.oneCell' = true := by intro u hu; simp at hu; subst hu; rfl
theorem one_int (v : Int) : ∀ u ∈ [Value.int .i64 v], u.oneCell' = true := by intro u hu; simp at hu; subst hu; rfl

/-- Behind both appends. -/
theorem app2 {B sb bm : Nat} {L : Peers} {kv vv : Value} {wr wy wz : World} {s : ByteArray} {v : Int} {g1 c1 g2 c2 n : Nat} (hn : L.length = n) (R : Rows2 wr B sb bm L kv vv) (hsb : sb < wr.heap.size) (hbm : bm < wr.heap.size) (hB : B ≤ wr.heap.size)
    (o1 : wy.ownsRow B 9 1 (.slice (some ⟨g1, 0, none⟩) (n + 1) c1) (n + 1) (kcells L ++ [.string s])) (y1 : (wr.alloc (Obj.cells #[.string s] 9)).grownBy wy kv.ownBlock) (z1 : kv.ownBlock = some g1 ∨ g1 = wr.heap.size + 1) (l1 : g1 < wy.heap.size)
    (o2 : wz.ownsRow B 2 1 (.slice (some ⟨g2, 0, none⟩) (n + 1) c2) (n + 1) (vcells L ++ [.int .i64 v])) (y2 : (wy.alloc (Obj.cells #[.int .i64 v] 2)).grownBy wz vv.ownBlock) (z2 : vv.ownBlock = some g2 ∨ g2 = wy.heap.size + 1) :
    Rows2 wz B sb bm (L ++ [(s, v)]) (.slice (some ⟨g1, 0, none⟩) (n + 1) c1) (.slice (some ⟨g2, 0, none⟩) (n + 1) c2) ∧ RowKit.Below B wr wz ∧ wz.heap[sb]? = wr.heap[sb]? ∧ wz.heap[bm]? = wr.heap[bm]? := by
  subst hn
  have s1 := y1.size
  have s2 := y2.size
  rw [World.size_alloc] at s1 s2
  have keep : ∀ k, k < wr.heap.size → kv.ownBlock ≠ some k → vv.ownBlock ≠ some k → wz.heap[k]? = wr.heap[k]? := by
    intro k hk n1 n2
    rw [y2.block k (by rw [World.size_alloc]; omega) (fun e => n2 e.symm), heap_alloc_old _ _ (by omega), y1.block k (by rw [World.size_alloc]; omega) (fun e => n1 e.symm), heap_alloc_old _ _ hk]
  have k1 : ∀ g, kv.ownBlock = some g → B ≤ g ∧ g < wr.heap.size := R.rk.lt
  have k2 : ∀ g, vv.ownBlock = some g → B ≤ g ∧ g < wr.heap.size := R.rv.lt
  have hne : g1 ≠ g2 := by
    rcases z1 with z1 | z1 <;> rcases z2 with z2 | z2
    · exact fun e => R.kvn g1 z1 (e ▸ z2)
    · have := k1 _ z1; omega
    · have := k2 _ z2; omega
    · omega
  refine ⟨⟨?_, ?_, ?_, ?_, ?_⟩, ⟨y2.os.trans y1.os, y2.tape.trans y1.tape, y2.output.trans y1.output, by omega, fun i hi => ?_⟩, ?_, ?_⟩
  · rw [kcells_app, List.length_append]
    refine (ownsRow_keep o1 fun k e => ?_)
    cases e
    rw [y2.block g1 (by rw [World.size_alloc]; omega) ?_, heap_alloc_old _ _ l1]
    intro e
    rcases z1 with z1 | z1
    · exact R.kvn g1 z1 e.symm
    · have := k2 _ e.symm; omega
  · rw [vcells_app, List.length_append]; exact o2
  · intro g e
    cases e
    show g1 ≠ sb ∧ g1 ≠ bm
    rcases z1 with z1 | z1
    · exact R.kn _ z1
    · omega
  · intro g e
    cases e
    show g2 ≠ sb ∧ g2 ≠ bm
    rcases z2 with z2 | z2
    · exact R.vn _ z2
    · omega
  · intro g e e2
    cases e
    cases e2
    exact hne rfl
  · exact keep i (by omega) (fun e => by have := k1 _ e; omega) (fun e => by have := k2 _ e; omega)
  · exact keep sb hsb (fun e => (R.kn _ e).1 rfl) (fun e => (R.vn _ e).1 rfl)
  · exact keep bm hbm (fun e => (R.kn _ e).2 rfl) (fun e => (R.vn _ e).2 rfl)

theorem Rows2.sep {w : World} {B sb bm : Nat} {L : Peers} {kv vv : Value} (R : Rows2 w B sb bm L kv vv) : vv.ownBlock = none ∨ vv.ownBlock ≠ kv.ownBlock := by
  cases h : vv.ownBlock with
  | none => exact .inl rfl
  | some g => exact .inr fun e => R.kvn g e.symm h

/-- What the loop that makes the rows anew keeps. -/
structure R3 (w4 : World) (sb bm : Nat) (L : Peers) (s : ByteArray) (i : Nat) (kv vv : Value) (wr : World) : Prop where
  rows : Rows2 wr w4.heap.size sb bm (less (L.take i) s) kv vv
  bel : RowKit.Below w4.heap.size w4 wr
theorem R3.zero (w4 : World) (sb bm : Nat) (L : Peers) (s : ByteArray) : R3 w4 sb bm L s 0 (.slice none 0 0) (.slice none 0 0) w4 :=
  ⟨⟨World.ownsRow_nil _ _ _ _, World.ownsRow_nil _ _ _ _, fun g e => (by cases e), fun g e => (by cases e), fun g e => (by cases e)⟩, RowKit.Below.refl _ _⟩
theorem less_len (L : Peers) (i : Nat) (s : ByteArray) : (less (L.take i) s).length ≤ i := by
  have h1 : (less (L.take i) s).length ≤ (L.take i).length := List.length_filter_le _ _
  have h2 : (L.take i).length ≤ i := by rw [List.length_take]; omega
  omega

/-- One peer more. -/
theorem WI.app {w0 : World} {B sb bm : Nat} {mx : Int} {k N : Nat} {L : Peers} {kv vv kv' vv' : Value} {wr w' : World} {s : ByteArray} {v : Int} (h : WI w0 B sb bm mx k L kv vv wr) (M : MI wr sb bm mx 0 N (L ++ [(s, v)])) (hs : s.size ≤ maxLen) (hv : (Lit.int .i64 v).wf = true)
    (r : Rows2 w' B sb bm (L ++ [(s, v)]) kv' vv' ∧ RowKit.Below B wr w' ∧ w'.heap[sb]? = wr.heap[sb]? ∧ w'.heap[bm]? = wr.heap[bm]?) : WI w0 B sb bm mx N (L ++ [(s, v)]) kv' vv' w' :=
  ⟨M.keep r.2.2.1 r.2.2.2, r.1, fun p hp => by
    rcases List.mem_append.1 hp with e | e
    · exact h.ok p e
    · simp at e; subst e; exact ⟨hs, hv⟩, h.bel.trans r.2.1, Nat.le_trans h.hB r.2.1.size, h.hs⟩

/-- The offset stored in place. -/
theorem set_rows {w : World} {B sb bm : Nat} {L : Peers} {kv : Value} {g n c j : Nat} {s : ByteArray} {v : Int} (R : Rows2 w B sb bm L kv (.slice (some ⟨g, 0, none⟩) n c)) (hj : j < L.length) (hs : (L[j]!).1 = s) :
    Rows2 (w.setCell ⟨g, j, none⟩ (.int .i64 v)) B sb bm (L.set j (s, v)) kv (.slice (some ⟨g, 0, none⟩) n c) := by
  refine ⟨?_, ?_, R.kn, R.vn, R.kvn⟩
  · have e : kcells (L.set j (s, v)) = kcells L := by
      unfold kcells
      rw [List.map_set]
      refine List.ext_getElem (by simp) fun i h1 h2 => ?_
      rw [List.getElem_set]
      split
      · rename_i e
        subst e
        rw [getElem!_pos L j hj] at hs
        simp [hs]
      · rfl
    rw [e, List.length_set]
    exact ownsRow_setCell_other R.rk (a := ⟨g, j, none⟩) (fun e => R.kvn _ e rfl) _
  · have e : vcells (L.set j (s, v)) = (vcells L).set j (.int .i64 v) := by unfold vcells; rw [List.map_set]
    rw [e, List.length_set]
    exact set_row R.rv _

theorem WI.store {w0 : World} {B sb bm : Nat} {mx : Int} {k N : Nat} {L : Peers} {kv : Value} {g n c j : Nat} {wr : World} {s : ByteArray} {v : Int} (h : WI w0 B sb bm mx k L kv (.slice (some ⟨g, 0, none⟩) n c) wr) (hj : j < L.length) (hs : (L[j]!).1 = s) (hsz : s.size ≤ maxLen) (hv : (Lit.int .i64 v).wf = true)
    {w' : World} (M : MI w' sb bm mx 0 N (less L s ++ [(s, v)])) (F : Fr2 sb bm wr w') : WI w0 B sb bm mx N (L.set j (s, v)) kv (.slice (some ⟨g, 0, none⟩) n c) (w'.setCell ⟨g, j, none⟩ (.int .i64 v)) := by
  obtain ⟨_, _, _, _, _, r0⟩ := h.mi
  have M2 := M.perm (set_perm r0.nd hj hs v)
  have hn := h.rows.vn g rfl
  refine ⟨M2.keep (Below.heap_setCell _ _ _ _ (Ne.symm hn.1)) (Below.heap_setCell _ _ _ _ (Ne.symm hn.2)), set_rows (h.rows.keep F.block) hj hs, fun p hp => ?_, (h.bel.trans (F.below h.hs.1 h.hs.2 h.hB)).setCell (h.rows.rv.lt g rfl).1 _, ?_, h.hs⟩
  · rcases List.mem_or_eq_of_mem_set hp with e | e
    · exact h.ok p e
    · subst e; exact ⟨hsz, hv⟩
  · have := F.size
    have := h.hB
    simp [World.setCell]; omega

/-- The rows made anew without s. -/
theorem WI.fresh {w0 : World} {B sb bm : Nat} {mx : Int} {k N : Nat} {L : Peers} {kv vv kv' vv' : Value} {wr w4 w' : World} {s : ByteArray} (h : WI w0 B sb bm mx k L kv vv wr) (M : MI w4 sb bm mx 0 N (less L s)) (F : Fr2 sb bm wr w4)
    (R : Rows2 w' w4.heap.size sb bm (less L s) kv' vv') (b : RowKit.Below w4.heap.size w4 w') : WI w0 B sb bm mx N (less L s) kv' vv' w' := by
  have up : ∀ {e n : Nat} {v : Value} {xs : List Value}, w'.ownsRow w4.heap.size e 1 v n xs → w'.ownsRow B e 1 v n xs := by
    intro e n v xs o
    refine ⟨o.1, ?_⟩
    rcases o.2 with hn | ⟨gb, cap, cur, rfl, hb, rest⟩
    · exact .inl hn
    · exact .inr ⟨gb, cap, cur, rfl, Nat.le_trans h.hB (Nat.le_trans F.size hb), rest⟩
  have h1 := F.size
  have h2 := h.hB
  exact ⟨M.keep (b.block _ M.box.lt) (b.block _ M.bm_lt), ⟨up R.rk, up R.rv, R.kn, R.vn, R.kvn⟩, fun p hp => h.ok p (mem_less.1 hp).1, (h.bel.trans (F.below h.hs.1 h.hs.2 h.hB)).trans (b.mono (by omega)), Nat.le_trans (by omega) b.size, h.hs⟩

theorem less_take {L : Peers} {i : Nat} (hi : i < L.length) (s : ByteArray) : less (L.take (i + 1)) s = if (L[i]!).1 = s then less (L.take i) s else less (L.take i) s ++ [((L[i]!).1, (L[i]!).2)] := by
  rw [List.take_succ_eq_append_getElem hi, getElem!_pos L i hi]
  unfold less
  rw [List.filter_append]
  split
  · rename_i e; simp [e]
  · rename_i e; simp [e]

theorem nodup_ne {L : Peers} (nd : (L.map Prod.fst).Nodup) {i j : Nat} (hi : i < L.length) (hj : j < L.length) (hne : i ≠ j) : (L[i]!).1 ≠ (L[j]!).1 := by
  rw [getElem!_pos L i hi, getElem!_pos L j hj]
  intro e
  have h1 : (L.map Prod.fst)[i]'(by simpa using hi) = (L.map Prod.fst)[j]'(by simpa using hj) := by simpa using e
  have h2 := List.pairwise_iff_getElem.1 nd
  rcases Nat.lt_or_gt_of_ne hne with c | c
  · exact h2 i j (by simpa using hi) (by simpa using hj) c h1
  · exact h2 j i (by simpa using hj) (by simpa using hi) c h1.symm
end Go.Proofs.Ybulkdndm
