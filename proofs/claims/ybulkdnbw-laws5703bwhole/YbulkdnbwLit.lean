/- WALK: LawS5703BLiteral. -/
import Derived.Test.YbulkdnbwPop
import Derived.Test.YbulkdnbwSame
import Derived.Test.YbulkdnbwPlain2
import Derived.Deep.AppendLies
import Derived.Deep.RegionLaw
import Derived.BigRegion
namespace Go.Proofs.Ybulkdnbw
open Go.RowKit Go.Lib Go.Sort Go.Shelf

theorem head_at (a c : ByteArray) (s : Int) (w : World) : Calls Yba.prog 6 #[.agg #[.string a, .string c, .int .i64 s]] w fun e w' =>
    e = .returned (.agg #[.string a, .string c, .slice none 0 0, .string ByteArray.empty, .string ByteArray.empty, .pointer none, .int .i64 0, .slice none 0 0, .pointer none, .slice none 0 0, .int .i64 s]) ∧ Gr w w' := head_any a c s w

/-- The head that is to be appended, in its new block. -/
theorem news_head (w : World) (x : Item) (T : TypeId) : ∀ j u, (encH x)[j]? = some u → (w.alloc (.cells (encH x).toArray T)).cell? ((⟨w.heap.size, 0, none⟩ : Addr).add j) = some u := by
  intro j u hu
  rw [Addr.add_lit, Nat.zero_add, World.cell?_alloc_new]
  simpa using hu

theorem Yba.info42 : (Yba.prog.info? 42).map (fun i => (i.zero, i.size, i.bytes)) = some (some (.agg (encH zItem).toArray), 11, 168) := by kernel_rfl
theorem Yba.info42' : ∃ i0, Yba.prog.info? 42 = some i0 ∧ i0.zero = some (.agg (encH zItem).toArray) ∧ i0.size = 11 ∧ i0.bytes = 168 := by
  have h := Yba.info42
  cases hq : Yba.prog.info? 42 with
  | none => rw [hq] at h; cases h
  | some i => rw [hq] at h; simp at h; exact ⟨i, rfl, h.1, h.2.1, h.2.2⟩

set_option maxHeartbeats 400000 in
theorem lit_edge (p : Option Addr) (n cap : Nat) (w : World) (hn : n ≤ maxLen) (h : n = 0 ∨ 65536 < n) :
    Calls Yba.prog 4 #[.slice p n cap] w fun e w' => e = .returned (.bool true) ∧ w' = w := by
  unfold maxLen at hn
  rcases h with h | h
  · subst h
    go_enter Yba.func4, Yba.ntmps4
    go_wp2
    go_ret
    exact ⟨rfl, rfl⟩
  · have h1 : ((n : Int) == 0) = false := beq_eq_false_iff_ne.2 (by omega)
    have h2 : (65536 : Int) < (n : Int) := by omega
    go_enter Yba.func4, Yba.ntmps4
    go_wp2
    go_ret
    exact ⟨rfl, rfl⟩

/-- What the loop that fills 'hs' keeps. -/
structure LI (w : World) (sb : Nat) (its : List Item) (k g cap : Nat) (wr : World) : Prop where
  row : wr.ownsRow w.heap.size 42 11 (.slice (some ⟨g, 0, none⟩) k cap) k ((its.take k).flatMap encH)
  box : wr.heap[sb]? = some (.cells #[.slice (some ⟨g, 0, none⟩) k cap] 24)
  bel : RowKit.Below w.heap.size w wr
  sbw : w.heap.size ≤ sb
  ne : g ≠ sb
  gl : g < wr.heap.size

theorem LI.hs {w : World} {sb : Nat} {its : List Item} {k g cap : Nat} {wr : World} (h : LI w sb its k g cap wr) : wr.cell? ⟨sb, 0, none⟩ = some (.slice (some ⟨g, 0, none⟩) k cap) ∧ wr.frozen? ⟨sb, 0, none⟩ = false ∧ sb < wr.heap.size := by
  refine ⟨?_, ?_, (Array.getElem?_eq_some_iff.1 h.box).1⟩
  · rw [cell_of_row wr sb 0 _ 24 (0, 0) h.box]; rfl
  · simp [World.frozen?, h.box]

theorem LI.grownBox {w : World} {sb : Nat} {its : List Item} {k g cap : Nat} {wr W wy : World} (h : LI w sb its k g cap wr) (G : Gr wr W) (hgrow : W.grownBy wy (some g)) : wy.heap[sb]? = some (.cells #[.slice (some ⟨g, 0, none⟩) k cap] 24) := by
  have h1 := h.hs.2.2
  rw [hgrow.block sb (Nat.lt_of_lt_of_le h1 G.le) (fun e => h.ne (Option.some.inj e).symm), G.below.block sb h1]
  exact h.box

theorem take_flatH (its : List Item) (k : Nat) (h : k < its.length) : (its.take (k + 1)).flatMap encH = (its.take k).flatMap encH ++ encH its[k]! := by
  have e : its.take (k + 1) = its.take k ++ [its[k]!] := by
    rw [List.take_succ_eq_append_getElem h]
    simp [h]
  rw [e, List.flatMap_append]
  simp

theorem grownBy_setCell (w : World) (sb : Nat) (v : Value) : w.grownBy (w.setCell ⟨sb, 0, none⟩ v) (some sb) :=
  ⟨rfl, rfl, rfl, by simp, fun k _ hne => RowKit.Below.heap_setCell w ⟨sb, 0, none⟩ v k (fun e => hne (by rw [e]))⟩

theorem heap_setCell_box (w : World) (sb : Nat) (u v : Value) (T : TypeId) (h : w.heap[sb]? = some (.cells #[u] T)) : (w.setCell ⟨sb, 0, none⟩ v).heap[sb]? = some (.cells #[v] T) := by
  rw [setCell_eq]
  unfold mapBlock
  simp [Array.getElem?_modify, h, onCells]

theorem LI.step {w : World} {sb : Nat} {its : List Item} {k g cap g' cap' : Nat} {wr W wy : World} (h : LI w sb its k g cap wr) (G : Gr wr W) (hgrow : W.grownBy wy (some g))
    (hown : wy.ownsRow w.heap.size 42 11 (.slice (some ⟨g', 0, none⟩) (k + 1) cap') (k + 1) ((its.take k).flatMap encH ++ encH its[k]!)) (hat : some g = some g' ∨ g' = W.heap.size) (hgl : g' < wy.heap.size) (hk : k < its.length) :
    LI w sb its (k + 1) g' cap' (wy.setCell ⟨sb, 0, none⟩ (.slice (some ⟨g', 0, none⟩) (k + 1) cap')) := by
  have h1 := h.hs.2.2
  have h2 := h.ne
  have h3 := G.le
  have h4 := h.bel.size
  have h5 := (h.row.lt g rfl).1
  have hne : g' ≠ sb := by
    rcases hat with e | e
    · rw [← Option.some.inj e]; exact h2
    · omega
  have hb : RowKit.Below w.heap.size w wy := (h.bel.trans (G.below.mono h4)).grown hgrow (by omega) (fun j hj => by cases hj; exact h5)
  refine ⟨?_, heap_setCell_box wy sb _ _ 24 (h.grownBox G hgrow), hb.setCell h.sbw _, h.sbw, hne, by simpa using hgl⟩
  rw [take_flatH its k hk]
  exact hown.kept (grownBy_setCell wy sb _) (.inr (fun e => hne (Option.some.inj e)))

theorem box_cell {w : World} {sb : Nat} {u : Value} {T : TypeId} (h : w.heap[sb]? = some (.cells #[u] T)) : w.cell? ⟨sb, 0, none⟩ = some u ∧ w.frozen? ⟨sb, 0, none⟩ = false := by
  refine ⟨?_, by simp [World.frozen?, h]⟩
  rw [cell_of_row w sb 0 _ T (0, 0) h]; rfl

theorem item_cells {w : World} {ib io : Nat} {its : List Item} (hI : ∀ j u, (its.flatMap encI)[j]? = some u → w.cell? ⟨ib, io + j, none⟩ = some u) (k : Nat) (hk : k < its.length) {a c : ByteArray} {s : Int} (hx : its[k]! = ((a, c), s)) :
    w.cell? ⟨ib, io + k * 3, none⟩ = some (.string a) ∧ w.cell? ⟨ib, io + k * 3 + 1, none⟩ = some (.string c) ∧ w.cell? ⟨ib, io + k * 3 + 2, none⟩ = some (.int .i64 s) := by
  have h := fun (j : Nat) (hj : j < 3) => hI (k * 3 + j) _ (flat_get encI 3 encI_len its (k * 3 + j) (by omega))
  have e : ∀ j, j < 3 → (k * 3 + j) / 3 = k ∧ (k * 3 + j) % 3 = j := fun j hj => by omega
  refine ⟨?_, ?_, ?_⟩
  · have := h 0 (by omega); rw [(e 0 (by omega)).1, (e 0 (by omega)).2, hx] at this; exact this
  · have := h 1 (by omega); rw [(e 1 (by omega)).1, (e 1 (by omega)).2, hx] at this; exact this
  · have := h 2 (by omega); rw [(e 2 (by omega)).1, (e 2 (by omega)).2, hx] at this; exact this

/-- An owned row of heads, as pop wants it. -/
theorem holdsH_of_owns {w : World} {base g n cap : Nat} {l : List Item} {T : TypeId} (h : w.ownsRow base T 11 (.slice (some ⟨g, 0, none⟩) n cap) n (l.flatMap encH)) (hn : l.length = n) : HoldsK encH 11 w g 0 l.toArray ∧ g < w.heap.size ∧ base ≤ g ∧ n ≤ cap := by
  rcases h.2 with ⟨e, _⟩ | ⟨g', cap', cur, e, hb, hg, hcc, _, hcs, ht⟩
  · cases e
  · cases e
    refine ⟨?_, (Array.getElem?_eq_some_iff.1 hg).1, hb, hcc⟩
    intro j hj
    have hj' : j < l.length * 11 := by simpa using hj
    have hfl := flat_get encH 11 encH_len l j hj'
    refine ⟨?_, by simp [World.frozen?, hg]⟩
    rw [Nat.zero_add, cell_of_row w g j cur T (0, 0) hg]
    have hh : (cur.toList.take (n * 11))[j]? = some ((encH l[j / 11]!)[j % 11]!) := by rw [ht]; exact hfl
    rw [List.getElem?_take, if_pos (by rw [← hn]; exact hj')] at hh
    rw [get_flatK _ _ _ _ (by simpa using hj')]
    simpa using hh

set_option maxHeartbeats 4000000 in
set_option maxRecDepth 100000 in
theorem lit_any (ib io icap m : Nat) (its : List Item) (w : World) (hit : its.length = m + 1) (h65 : m + 1 ≤ 65536) (hib : ib < w.heap.size)
    (hI : ∀ j u, (its.flatMap encI)[j]? = some u → w.cell? ⟨ib, io + j, none⟩ = some u) :
    Calls Yba.prog 4 #[.slice (some ⟨ib, io, none⟩) (m + 1) icap] w fun e w' => e = .returned (.bool true) ∧ RowKit.Below w.heap.size w w' := by
  obtain ⟨i0, hi, hz0, hz1, hz2⟩ := Yba.info42'
  have h1 : ((m : Int) + 1 == 0) = false := beq_eq_false_iff_ne.2 (by omega)
  have h2 : decide ((65536 : Int) < (m : Int) + 1) = false := decide_eq_false (by omega)
  have II : Hid (∀ j u, (its.flatMap encI)[j]? = some u → w.cell? ⟨ib, io + j, none⟩ = some u) := hI
  clear hI
  go_enter Yba.func4, Yba.ntmps4
  go_wp2_with (at_make; refine wpList_make_own _ rfl _ _ 24 rfl w.heap.size 42 i0 _ 11 Yba.underlying24 hi hz0 hz1 _ _ _ (m + 1) rfl rfl (by omega) (by rw [hz2]; omega) (by unfold maxLen; omega) (by simp) ?_; intro w0 hown0 hgrow0)
  have L0 : Hid (LI w w0.heap.size its 0 w.heap.size (m + 1) (w0.alloc (Obj.cells #[Value.slice (some { block := w.heap.size, off := 0 }) 0 (m + 1)] 24))) := by
    have b0 : RowKit.Below w.heap.size w w0 := (RowKit.Below.refl _ _).grown hgrow0 (Nat.le_refl _) (fun k h => by cases h)
    have l0 := (hown0.lt w.heap.size rfl).2
    refine ⟨by simpa using hown0.alloc _, heap_alloc_new w0 _, b0.alloc hgrow0.size _, hgrow0.size, by omega, by simp; omega⟩
  obtain ⟨sb, hsb⟩ : ∃ sb, w0.heap.size = sb := ⟨_, rfl⟩
  rw [hsb] at L0 ⊢
  generalize w0.alloc (Obj.cells #[Value.slice (some { block := w.heap.size, off := 0 }) 0 (m + 1)] 24) = W2 at L0 ⊢
  clear hown0 hgrow0 hsb
  go_loopg [20] (m + 1) (fun gg s20 wr => ∃ (k g cap : Nat), s20 = .int .i64 k ∧ k ≤ m + 1 ∧ m + 1 - k ≤ gg ∧ Hid (LI w sb its k g cap wr))
  case atStart => exact ⟨0, _, _, rfl, by omega, by omega, L0⟩
  case round =>
    obtain ⟨k, g, cap, rfl, hk, hg, LR⟩ := hrel
    clear L0
    by_cases hlt : k < m + 1
    · have d1 : (k : Int) < (m : Int) + 1 := by omega
      obtain ⟨⟨⟨a, c⟩, s⟩, hx⟩ : ∃ x, its[k]! = x := ⟨_, rfl⟩
      have HX : Hid (its[k]! = ((a, c), s)) := hx
      have ic := item_cells (w := wr) (fun j u hu => by rw [LR.out.bel.cell (p := ⟨ib, io + j, none⟩) hib]; exact II.out j u hu) k (by omega) hx
      obtain ⟨c0, c1, c2⟩ := ic
      clear hx
      go_wp2_with fail
      have hsl := LR.out.hs.2.2
      have LA : Hid (Gr wr (wr.alloc (Obj.cells #[Value.string a, Value.string c, Value.int IntKind.i64 s] 26))) := (Gr.refl wr).alloc _
      have k3 : (wr.alloc (Obj.cells #[Value.string a, Value.string c, Value.int IntKind.i64 s] 26)).cell? ⟨sb, 0, none⟩ = some (.slice (some ⟨g, 0, none⟩) k cap) := by rw [LA.out.cell (by exact hsl)]; exact LR.out.hs.1
      have f3 : (wr.alloc (Obj.cells #[Value.string a, Value.string c, Value.int IntKind.i64 s] 26)).frozen? ⟨sb, 0, none⟩ = false := by rw [LA.out.frozen (by exact hsl)]; exact LR.out.hs.2.1
      have i0' : (wr.alloc (Obj.cells #[Value.string a, Value.string c, Value.int IntKind.i64 s] 26)).cell? ⟨wr.heap.size, 0, none⟩ = some (.string a) := by simp
      have i1' : (wr.alloc (Obj.cells #[Value.string a, Value.string c, Value.int IntKind.i64 s] 26)).cell? ⟨wr.heap.size, 1, none⟩ = some (.string c) := by simp
      have i2' : (wr.alloc (Obj.cells #[Value.string a, Value.string c, Value.int IntKind.i64 s] 26)).cell? ⟨wr.heap.size, 2, none⟩ = some (.int .i64 s) := by simp
      generalize wr.alloc (Obj.cells #[Value.string a, Value.string c, Value.int IntKind.i64 s] 26) = wI at LA k3 f3 i0' i1' i2' ⊢
      clear c0 c1 c2
      go_region_law (first | (refine step_append_lies _ rfl (.tmp 24) (.tmp 27) 24 rfl w.heap.size 42 i0 _ 11 168 Yba.underlying24 hi hz0 hz1 hz2 rfl (by omega) (.slice (some ⟨g, 0, none⟩) k cap) k _ rfl (ownsRow_gr LR.out.row ((LA.out.drew.trans gx).alloc _)) ⟨wx.heap.size, 0, none⟩ 1 1 (encH ((a, c), s)) rfl rfl (news_head wx ((a, c), s) 42) (encH_one _) (by omega) (by unfold maxLen; omega) (by omega) (Nat.le_trans LR.out.bel.size ((LA.out.drew.trans gx).alloc _).le) _ rfl ?_; intro g' cap' wy hown hgrow hat hgl; have ky := (box_cell (LR.out.grownBox ((LA.out.drew.trans gx).alloc _) hgrow)).1; have fy := (box_cell (LR.out.grownBox ((LA.out.drew.trans gx).alloc _) hgrow)).2) | (go_simp; go_at_call 6; refine (head_at a c s _).mono ?_; rintro e wx ⟨rfl, gx⟩; have kx : wx.cell? ⟨sb, 0, none⟩ = some (.slice (some ⟨g, 0, none⟩) k cap) := (by rw [(LA.out.drew.trans gx).cell (by exact hsl)]; exact LR.out.hs.1); have zx : sb < wx.heap.size := (by have := (LA.out.drew.trans gx).le; omega)))
      all_goals
        have LS : Hid (LI w sb its (k + 1) g' cap' (wy.setCell ⟨sb, 0, none⟩ (.slice (some ⟨g', 0, none⟩) (k + 1) cap'))) := LR.out.step ((LA.out.drew.trans gx).alloc _) hgrow (by rw [HX.out]; exact hown) hat hgl (by omega)
        generalize wy.setCell ⟨sb, 0, none⟩ (.slice (some ⟨g', 0, none⟩) (k + 1) cap') = wz at LS ⊢
        clear hown hgrow hat hgl ky fy kx zx gx
        go_wp2
        go_roundg (m + 1 - (k + 1))
        case measure => omega
        case rel => exact ⟨k + 1, g', cap', by go_num, by omega, by omega, LS⟩
    · have hkm : k = m + 1 := by omega
      subst hkm
      go_wp2_with fail
      have ho := LR.out.row
      rw [List.take_of_length_le (by omega)] at ho
      have hh := holdsH_of_owns ho hit
      refine (pop_any sb g 0 m cap its.toArray wr w.heap.size LR.out.hs.1 LR.out.hs.2.1 hh.1 (by simpa using hit) h65 hh.2.2.2 LR.out.hs.2.2 hh.2.1 (Ne.symm LR.out.ne) LR.out.sbw hh.2.2.1).mono ?_
      rintro e w5 ⟨rfl, r5, c5, f5, b5⟩
      have hsl := LR.out.hs.2.2
      have gsl := hh.2.1
      have bw := LR.out.bel.size
      have gbw := hh.2.2.1
      have B5 : Hid (RowKit.Below w.heap.size w w5) := LR.out.bel.trans b5
      have zw := b5.size
      have R5 : Hid (HoldsK encH 11 w5 g 0 (sift lt m m 0 (its.toArray.setIfInBounds 0 its.toArray[m]!))) := r5
      have hPm := pop_perm lt its.toArray m (by simpa using hit)
      obtain ⟨r, hr⟩ : ∃ r, sift lt m m 0 (its.toArray.setIfInBounds 0 its.toArray[m]!) = r := ⟨_, rfl⟩
      have hrs : m ≤ r.size := by rw [← hr, sift_size lt m m 0 _ (by simp; omega)]; simp; omega
      rw [hr] at R5 hPm
      obtain ⟨x0, hx0⟩ : ∃ x0, its.toArray[0]! = x0 := ⟨_, rfl⟩
      have hx0' : its[0]! = x0 := by rw [← hx0]; simp
      rw [hx0] at hPm ⊢
      have pm : (r.toList.take m ++ [x0]).Perm its := by simpa using hPm
      have PM : Hid ((r.toList.take m ++ [x0]).Perm its) := pm
      have X0 : Hid (its[0]! = x0) := hx0'
      clear ho hh r5 f5 b5 hPm hr hx0 hx0' LR pm
      -- 'got' in its variable
      have s6 := run_storeAt_agg Yba.sizeOf42 (encH_len x0) (st_row Yba.prog encH_len encH_one (holdsK_new w5 zItem 42) 0 (by simp) x0)
      have n6 := holdsK_set encH_len (holdsK_new w5 zItem 42) 0 (by simp) x0
      simp only [Nat.zero_mul, Nat.add_zero] at s6 n6
      have S6 : Hid (_ = _) := s6
      have N6 : Hid (HoldsK encH 11 ((w5.alloc (.cells (encH zItem).toArray 42)).setCells w5.heap.size 0 (encH x0)) w5.heap.size 0 #[x0]) := n6
      have R6 : Hid (HoldsK encH 11 ((w5.alloc (.cells (encH zItem).toArray 42)).setCells w5.heap.size 0 (encH x0)) g 0 r) := holdsK_other (by omega) (Gr.holdsK ((Gr.refl w5).alloc _) (by omega) R5.out) _
      have k6 : ((w5.alloc (.cells (encH zItem).toArray 42)).setCells w5.heap.size 0 (encH x0)).cell? ⟨sb, 0, none⟩ = some (.slice (some ⟨g, 0, none⟩) m cap) := by
        rw [World.cell?_setCells_out _ _ _ _ _ (fun e _ => absurd e (by show sb ≠ _; omega)), ((Gr.refl w5).alloc _).cell (by show sb < _; omega)]; exact c5
      have B6 : Hid (RowKit.Below w.heap.size w ((w5.alloc (.cells (encH zItem).toArray 42)).setCells w5.heap.size 0 (encH x0))) := below_setCells (by omega) _ _ _ (B5.out.alloc (by omega) _)
      have z6 : ((w5.alloc (.cells (encH zItem).toArray 42)).setCells w5.heap.size 0 (encH x0)).heap.size = w5.heap.size + 1 := by rw [size_setCells]; simp
      clear s6 n6 c5
      go_wp2_with (refine wpList_store 42 (.tmp 6) (.tmp 30) rfl rfl rfl ⟨w5.heap.size, 0, none⟩ rfl _ rfl (by exact S6.out) ?_)
      have I6 : Hid (∀ j u, (its.flatMap encI)[j]? = some u → ((w5.alloc (.cells (encH zItem).toArray 42)).setCells w5.heap.size 0 (encH x0)).cell? ⟨ib, io + j, none⟩ = some u) := fun j u hu => by
        rw [B6.out.cell (p := ⟨ib, io + j, none⟩) hib]; exact II.out j u hu
      obtain ⟨NB, hNB⟩ : ∃ NB, w5.heap.size = NB := ⟨_, rfl⟩
      rw [hNB] at N6 R6 k6 B6 z6 I6 ⊢
      generalize (w5.alloc (.cells (encH zItem).toArray 42)).setCells NB 0 (encH x0) = W6 at N6 R6 k6 B6 z6 I6 ⊢
      clear R5 B5 S6 II
      obtain ⟨⟨a, c⟩, s⟩ := x0
      obtain ⟨c0, c1, c2⟩ := item_cells I6.out 0 (by omega) X0.out
      simp only [Nat.zero_mul, Nat.add_zero] at c0 c1 c2
      have h6 : ib < W6.heap.size := by omega
      have C0 := fun n os => cell_grown (w := W6) h6 c0 n os
      have C1 := fun n os => cell_grown (w := W6) h6 c1 n os
      have C2 := fun n os => cell_grown (w := W6) h6 c2 n os
      clear c0 c1 c2
      have l6 : Hid (∀ w, (∃ p : GrownBy, w = grow (W6.drewN p.n) p.os) → Sem.run Yba.prog (Instr.loadAt 42 (.pointer (some ⟨NB, 0, none⟩))) w = .ok (.agg (encH ((a, c), s)).toArray) w) := by
        rintro w' ⟨p, rfl⟩
        have := run_loadAt_agg Yba.isAgg42 Yba.sizeOf42 (ld_row Yba.prog encH_len (Gr.holdsK ((Gr.refl W6).grown p.n p.os) (by omega) N6.out) 0 (by simp))
        simpa using this
      refine wp_region_quiet_grown (by kernel_rfl) (by kernel_rfl) ?_
      refine wpQuiet_load 42 (.tmp 6) rfl rfl ⟨NB, 0, none⟩ rfl _ l6.out ?_
      quiet_step ((go_at_call 9; refine grown_gr (key_at ((a, c), s) _)))
      iterate 5 (quiet_step (fail))
      refine wpQuiet_load_g 42 (.tmp 6) rfl rfl ⟨NB, 0, none⟩ rfl _ l6.out ?_
      quiet_step ((go_at_call 10; refine grown_gr (plain_at ((a, c), s) _)))
      iterate 2 (quiet_step (fail))
      refine wpQuiet_nil ?_
      rintro w' ⟨⟨nq, osq⟩, rfl⟩
      have G7 : Hid (Gr W6 (grow (W6.drewN nq) osq)) := (Gr.refl W6).grown nq osq
      clear C0 C1 C2 l6
      generalize grow (W6.drewN nq) osq = W7 at G7 ⊢
      have k7 : W7.cell? ⟨sb, 0, none⟩ = some (.slice (some ⟨g, 0, none⟩) m cap) := by rw [G7.out.cell (by show sb < _; omega)]; exact k6
      have l7 := run_loadAt_agg Yba.isAgg42 Yba.sizeOf42 (ld_row Yba.prog encH_len (Gr.holdsK G7.out (by omega) N6.out) 0 (by simp))
      rw [show (#[((a, c), s)] : Array Item)[0]! = ((a, c), s) from rfl, Nat.zero_mul, Nat.add_zero] at l7
      have L7 : Hid (_ = _) := l7
      clear l7
      go_wp2_with (refine wpList_load 42 (.tmp 6) rfl rfl ⟨NB, 0, none⟩ rfl _ L7.out ?_)
      have z7 := G7.out.le
      refine (same_any g 0 cap m r ((a, c), s) ib io icap its _ (Gr.holdsK G7.out (by omega) R6.out) hrs (by omega) hit (by omega) (fun j u hu => by rw [G7.out.cell (by exact h6)]; exact I6.out j u hu) h65 PM.out).mono ?_
      rintro e w8 ⟨rfl, b8⟩
      go_wp2
      go_ret
      exact ⟨rfl, (B6.out.trans (G7.out.below.mono (by omega))).trans (b8.mono (by omega))⟩
end Go.Proofs.Ybulkdnbw
