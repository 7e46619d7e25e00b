/- WALK: (*heads).push. -/
import Derived.Test.YbulkdnbwPushInv
namespace Go.Proofs.Ybulkdnbw
open Go.RowKit Go.Lib Go.Sort Go.Shelf

/-- 'hs' ahead of a push: its variable holds v, a row of the call's own that holds l (nil where there is none). -/
structure PH (w0 : World) (B sb : Nat) (v : Value) (l : List Item) (w : World) : Prop where
  own : w.ownsRow B 42 11 v l.length (l.flatMap encH)
  box : w.heap[sb]? = some (.cells #[v] 24)
  bel : RowKit.Below B w0 w
  hB1 : B ≤ sb
  ne : v.ownBlock ≠ some sb

theorem news_push (w : World) (A : Obj) (x : Item) : ∀ j u, (encH x)[j]? = some u → (((w.alloc A).alloc (.cells (encH x).toArray 42)).drew).cell? ((⟨w.heap.size + 1, 0, none⟩ : Addr).add j) = some u := by
  intro j u hu
  have := news_head (w.alloc A) x 42 j u hu
  rw [World.size_alloc] at this
  exact this

theorem PH.box_after {w0 : World} {B sb : Nat} {v : Value} {l : List Item} {w W wy : World} (h : PH w0 B sb v l w) (G : Gr w W) (hgrow : W.grownBy wy v.ownBlock) : wy.heap[sb]? = some (.cells #[v] 24) := by
  have h1 : sb < w.heap.size := (Array.getElem?_eq_some_iff.1 h.box).1
  rw [hgrow.block sb (Nat.lt_of_lt_of_le h1 G.le) (fun e => h.ne e.symm), G.below.block sb h1]
  exact h.box

set_option maxHeartbeats 16000000 in
set_option maxRecDepth 100000 in
theorem push_any (w0 : World) (B sb : Nat) (v : Value) (l : List Item) (a c : ByteArray) (s : Int) (w : World) (h : PH w0 B sb v l w) (hl : l.length + 1 ≤ 65536) :
    Calls Yba.prog 5 #[.pointer (some ⟨sb, 0, none⟩), .agg #[.string a, .string c, .slice none 0 0, .string ByteArray.empty, .string ByteArray.empty, .pointer none, .int .i64 0, .slice none 0 0, .pointer none, .slice none 0 0, .int .i64 s]] w fun e w' =>
      e = .returned (.tuple #[]) ∧ ∃ g cap, PU w0 B sb g cap (l.length + 1) (up lt l.length l.length (l ++ [((a, c), s)]).toArray) w' := by
  obtain ⟨i0, hi, hz0, hz1, hz2⟩ := Yba.info42'
  have hsl : sb < w.heap.size := (Array.getElem?_eq_some_iff.1 h.box).1
  have PP : Hid (PH w0 B sb v l w) := h
  clear h
  go_enter Yba.func5, Yba.ntmps5
  go_wp2_with fail
  have LA : Hid (Gr w (w.alloc (Obj.cells (encH ((a, c), s)).toArray 42))) := (Gr.refl w).alloc _
  have k3 : w.cell? ⟨sb, 0, none⟩ = some v := (box_cell PP.out.box).1
  have f3 : w.frozen? ⟨sb, 0, none⟩ = false := (box_cell PP.out.box).2
  go_region_law (first | (refine step_append_lies _ rfl (.tmp 9) (.tmp 11) 24 rfl B 42 i0 _ 11 168 Yba.underlying24 hi hz0 hz1 hz2 rfl (by omega) v l.length _ rfl (ownsRow_gr PP.out.own (((LA.out).alloc _).drew)) ⟨w.heap.size + 1, 0, none⟩ 1 1 (encH ((a, c), s)) rfl rfl (news_push w _ ((a, c), s)) (encH_one _) (by omega) (by unfold maxLen; omega) (by omega) (by have := PP.out.hB1; simp; omega) _ rfl ?_; intro g' cap' wy hown hgrow hat hgl; have ky := (box_cell (PP.out.box_after (((LA.out).alloc _).drew) hgrow)).1; have fy := (box_cell (PP.out.box_after (((LA.out).alloc _).drew) hgrow)).2))
  all_goals
    have hne' : g' ≠ sb := by
      rcases hat with e | e
      · intro e2; exact PP.out.ne (by rw [e, e2])
      · have : ((w.alloc (Obj.cells (encH ((a, c), s)).toArray 42)).alloc (Obj.cells (encH ((a, c), s)).toArray 42)).drew.heap.size = w.heap.size + 2 := by simp
        intro e2
        have e3 : g' = w.heap.size + 2 := e.trans this
        omega
    have hbelY : RowKit.Below B w0 wy := (PP.out.bel.trans ((((LA.out).alloc _).drew).below.mono (by have := PP.out.hB1; omega))).grown hgrow (by have := PP.out.hB1; simp; omega) (fun j hj => (PP.out.own.lt j hj).1)
    have P3 : Hid (PU w0 B sb g' cap' (l.length + 1) (l ++ [((a, c), s)]).toArray (wy.setCell ⟨sb, 0, none⟩ (.slice (some ⟨g', 0, none⟩) (l.length + 1) cap'))) := PU.of_append v (PP.out.box_after (((LA.out).alloc _).drew) hgrow) hown rfl hne' PP.out.hB1 hbelY
    have hs3 : (wy.setCell ⟨sb, 0, none⟩ (.slice (some ⟨g', 0, none⟩) (l.length + 1) cap')).cell? ⟨sb, 0, none⟩ = some (.slice (some ⟨g', 0, none⟩) (l.length + 1) cap') := P3.out.hs.1
    generalize wy.setCell ⟨sb, 0, none⟩ (.slice (some ⟨g', 0, none⟩) (l.length + 1) cap') = W3 at P3 hs3 ⊢
    clear hown hgrow hat hgl ky fy hbelY hne' k3 f3 LA PP
    go_wp2_with fail
    clear hs3
    go_loopg [4] (l.length) (fun gg si wr => ∃ (i f : Nat) (dk : Array Item), si = .int .i64 i ∧ i ≤ l.length ∧ i ≤ f ∧ i ≤ gg ∧ Hid (PU w0 B sb g' cap' (l.length + 1) dk wr) ∧ Hid (up lt l.length l.length (l ++ [((a, c), s)]).toArray = up lt f i dk))
    case atStart => exact ⟨l.length, l.length, _, by go_num, by omega, by omega, by omega, P3, rfl⟩
    case round =>
      obtain ⟨i, f, dk, rfl, hil, hif, hig, PR, HE⟩ := hrel
      clear P3
      have hds := PR.out.sz
      by_cases c1 : 0 < i
      · have d1 : (0 : Int) < (i : Int) := by omega
        have p1 : (0 : Int) ≤ ((i : Int) - 1) / 2 := by omega
        have p2 : ((i : Int) - 1) / 2 < (l.length : Int) + 1 := by omega
        have p3 : (i : Int) < (l.length : Int) + 1 := by omega
        have hsr := PR.out.hs.1
        have LS : Hid (∀ (v : Bool) (x y : Int), x = (i : Int) → y = (((i - 1) / 2 : Nat) : Int) → lt dk[i]! dk[(i - 1) / 2]! = v → Calls Yba.prog 12 #[.slice (some ⟨g', 0, none⟩) (l.length + 1) cap', .int .i64 x, .int .i64 y] wr fun e w' => e = .returned (.bool v) ∧ Gr wr w') := by
          intro v x y hx hy hv
          exact less_at g' 0 (l.length + 1) cap' dk i ((i - 1) / 2) _ _ _ _ PR.out.row PR.out.hs.2.2.2 (by omega) (by omega) (by omega) hx hy hv
        go_wp2_with fail
        cases t1 : lt dk[i]! dk[(i - 1) / 2]! with
        | true =>
          have T1 : Hid (_ = _) := t1
          clear t1
          refine (LS.out _ _ _ (by omega) (by omega) T1.out).mono ?_
          rintro e wB ⟨rfl, gB⟩
          have PB : Hid (PU w0 B sb g' cap' (l.length + 1) dk wB) := PR.out.gr gB
          have hsB := PB.out.hs.1
          clear gB hsr PR
          go_wp2_with fail
          obtain ⟨cI, cJ, la, lb, sa, sj, nn⟩ := PB.out.swap i ((i - 1) / 2) (by omega) (by omega)
          simp only [Nat.zero_add] at la lb sa sj nn
          have LA : Hid (∀ n, _) := la
          have LB : Hid (∀ n, _) := lb
          have SA : Hid (∀ n, _) := sa
          have SJ : Hid (∀ n, _) := sj
          have NN : Hid (∀ n, _) := nn
          clear la lb sa sj nn
          have e1 : (((i : Int) - 1) / 2).toNat = (i - 1) / 2 := by omega
          refine wp_region_any (by kernel_rfl) ?_
          refine wpAny_take (i := 7) (v := .int .i64 (((i : Int) - 1) / 2)) rfl (by kernel_rfl) (by kernel_rfl) (by kernel_rfl) (fun _ _ _ h => h) (Or.inl ⟨by rfl, fun w => rfl⟩) ?_
          refine wpAny_seq_at (C := fun w' => ∃ n, w' = wB.drewN n) 7 12 20 (by decide) (by kernel_rfl) ⟨1, rfl⟩ ?_
          simp only [List.take_succ_cons, List.take_zero, List.drop_succ_cons, List.drop_zero, List.cons_append, List.nil_append]
          iterate 12 (quiet_step (fail))
          refine wpQuiet_load 42 _ rfl rfl ⟨g', (i - 1) / 2 * 11, none⟩ rfl cJ.toArray (fun w hw => by obtain ⟨n, rfl⟩ := hw; exact LA.out n) ?_
          iterate 5 (quiet_step (fail))
          refine wpQuiet_load 42 _ rfl rfl ⟨g', i * 11, none⟩ rfl cI.toArray (fun w hw => by obtain ⟨n, rfl⟩ := hw; exact LB.out n) ?_
          refine wpQuiet_nil ?_
          rintro w' ⟨n, rfl⟩
          go_wp2_with (first | (refine wpList_store 42 (.tmp 51) (.tmp 44) rfl rfl rfl _ rfl _ rfl (SA.out n) ?_) | (refine wpList_store 42 (.tmp 52) (.tmp 50) rfl rfl rfl _ rfl _ rfl (SJ.out n) ?_))
          go_roundg ((i - 1) / 2)
          case measure => omega
          case rel => exact ⟨(i - 1) / 2, f - 1, swp dk i ((i - 1) / 2), by go_num, by omega, by omega, Nat.le_refl _, NN.out n, (show Hid _ from HE.out.trans (up_go lt f i dk c1 T1.out (by omega)))⟩
        | false =>
          have T1 : Hid (_ = _) := t1
          clear t1
          refine (LS.out _ _ _ (by omega) (by omega) T1.out).mono ?_
          rintro e wB ⟨rfl, gB⟩
          have PB : Hid (PU w0 B sb g' cap' (l.length + 1) dk wB) := PR.out.gr gB
          have hsB := PB.out.hs.1
          clear gB hsr PR
          go_wp2_with fail
          go_end0
          refine ⟨rfl, g', cap', ?_⟩
          rw [HE.out, up_stop lt f i dk (fun h => by rw [T1.out] at h; exact absurd h.2 (by decide))]
          exact PB.out
      · have d1 : decide ((0 : Int) < (i : Int)) = false := decide_eq_false (by omega)
        go_wp2_with fail
        go_end0
        refine ⟨rfl, g', cap', ?_⟩
        rw [HE.out, up_stop lt f i dk (fun h => c1 h.1)]
        exact PR.out
end Go.Proofs.Ybulkdnbw
