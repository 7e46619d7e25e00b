/- WALK: zzs5703bsame. -/
import Derived.Test.YbulkdnbwOwn
import Derived.Deep.LoopGhost
namespace Go.Proofs.Ybulkdnbw
open Go.RowKit Go.Lib Go.Sort Go.Shelf

theorem plain_at (x : Item) (w : World) : Calls Yba.prog 10 #[.agg (encH x).toArray] w fun e w' => e = .returned (.bool true) ∧ Gr w w' := plain_any x.1.1 x.1.2 x.2 w
theorem key_at (x : Item) (w : World) : Calls Yba.prog 9 #[.agg (encH x).toArray] w fun e w' => e = .returned (.agg #[.string x.1.1, .string x.1.2, .int .i64 x.2]) ∧ Gr w w' := key_any x.1.1 x.1.2 x.2 w

theorem Yba.info26 : (Yba.prog.info? 26).map (fun i => (i.zero, i.size, i.bytes)) = some (some (.agg #[.string ⟨#[]⟩, .string ⟨#[]⟩, .int .i64 0]), 3, 40) := by kernel_rfl

theorem Yba.info26' : ∃ i0, Yba.prog.info? 26 = some i0 ∧ i0.zero = some (.agg #[.string ⟨#[]⟩, .string ⟨#[]⟩, .int .i64 0]) ∧ i0.size = 3 ∧ i0.bytes = 40 := by
  have h := Yba.info26
  cases hq : Yba.prog.info? 26 with
  | none => rw [hq] at h; cases h
  | some i => rw [hq] at h; simp at h; exact ⟨i, rfl, h.1, h.2.1, h.2.2⟩

theorem below_holds {B : Nat} {w w' : World} (h : RowKit.Below B w w') {α : Type} [Inhabited α] {enc : α → List Value} {k b o : Nat} {d : Array α} (hb : b < B) (hd : HoldsK enc k w b o d) : HoldsK enc k w' b o d := fun j hj =>
  ⟨(h.cell (p := ⟨b, o + j, none⟩) hb).trans (hd j hj).1, (h.frozen (p := ⟨b, o + j, none⟩) hb).trans (hd j hj).2⟩

theorem take_flat (dh : Array Item) (k : Nat) (h : k < dh.size) : (dh.toList.take (k + 1)).flatMap encI = (dh.toList.take k).flatMap encI ++ [.string dh[k]!.1.1, .string dh[k]!.1.2, .int .i64 dh[k]!.2] := by
  have e : dh.toList.take (k + 1) = dh.toList.take k ++ [dh[k]!] := by
    rw [List.take_succ_eq_append_getElem (by simpa using h)]
    simp [h]
  rw [e, List.flatMap_append]
  simp [encI]

theorem ownsRow_gr {w w' : World} {base T size n : Nat} {v : Value} {xs : List Value} (h : w.ownsRow base T size v n xs) (g : Gr w w') : w'.ownsRow base T size v n xs :=
  h.kept (row := none) ⟨g.below.os, g.below.tape, g.below.output, g.le, fun j hj _ => g.below.block j hj⟩ (by cases v.ownBlock <;> simp)
theorem ownsRow_below {w w' : World} {base T size n : Nat} {v : Value} {xs : List Value} (h : w.ownsRow base T size v n xs) (g : RowKit.Below w.heap.size w w') : w'.ownsRow base T size v n xs :=
  h.kept (row := none) ⟨g.os, g.tape, g.output, g.size, fun j hj _ => g.block j hj⟩ (by cases v.ownBlock <;> simp)

theorem sort_at (g cap n : Nat) (l : List Item) (w : World) (hn : l.length = n) (hH : HoldsK encI 3 w g 0 l.toArray) (hg : g < w.heap.size) (hsz : n ≤ 65536) :
    Calls Yba.prog 14 #[.slice (some ⟨g, 0, none⟩) n cap, .func (.func 8) #[] #[]] w fun e w' => e = .returned (.tuple #[]) ∧ HoldsK encI 3 w' g 0 (sortI l).toArray ∧
      (∀ B, B ≤ g → B ≤ w.heap.size → RowKit.Below B w w') ∧ (∀ b o (d : Array Item), b < w.heap.size → b ≠ g → HoldsK encI 3 w b o d → HoldsK encI 3 w' b o d) ∧ w.heap.size ≤ w'.heap.size := by
  subst hn
  exact sort_any g cap l w hH hg hsz

theorem allEq_self : ∀ l : List Item, Lib.allEq eqI l l = true
  | [] => rfl
  | x :: l => by simp [Lib.allEq, eqI_self, allEq_self l]

theorem equal_at (g1 c1 g2 c2 n : Nat) (l : List Item) (w : World) (hn : l.length = n) (h1 : HoldsK encI 3 w g1 0 l.toArray) (h2 : HoldsK encI 3 w g2 0 l.toArray) (hsz : n ≤ 65536) :
    Calls Yba.prog 15 #[.slice (some ⟨g1, 0, none⟩) n c1, .slice (some ⟨g2, 0, none⟩) n c2] w fun e w' => e = .returned (.bool true) ∧ Gr w w' := by
  have cellsOf : ∀ g, HoldsK encI 3 w g 0 l.toArray → ∀ j, j < l.length → ∀ i v, (encI l[j]!)[i]? = some v → w.cell? ⟨g, 0 + j * 3 + i, none⟩ = some v := by
    intro g h j hj i v hv
    have := HoldsK.cells h encI_len (i := j) (by simpa using hj) i v (by simpa using hv)
    rwa [Addr.add_lit] at this
  have hcon := AnyQ.slices_Equal Yba.equalL 3 Yba.isAgg26 Yba.sizeOf26 encI encI_len eqI neqI g1 0 n c1 g2 0 n c2 l l w (by omega) (by omega) (by omega) (by omega) (cellsOf g1 h1) (cellsOf g2 h2)
  refine hcon.mono ?_
  rintro e w' ⟨rfl, q, rfl⟩
  exact ⟨by rw [allEq_self], ⟨q, #[], by rw [grow_empty]⟩⟩

theorem clone_at (ib io icap n : Nat) (its : List Item) (w : World) (hn : its.length = n) (hsz : n ≤ 65536) (hI : ∀ j u, (its.flatMap encI)[j]? = some u → w.cell? ⟨ib, io + j, none⟩ = some u) :
    Calls Yba.prog 13 #[.slice (some ⟨ib, io, none⟩) n icap] w fun e w' => ∃ v', e = .returned v' ∧ w'.ownsRow w.heap.size 26 3 v' n (its.flatMap encI) ∧ RowKit.Below w.heap.size w w' := by
  obtain ⟨i0, hi, hz0, hz1, hz2⟩ := Yba.info26'
  refine (AnyE.slices_Clone Yba.cloneL i0 _ 3 40 hi hz0 hz1 hz2 rfl (by omega) Yba.sizeOf26 ib io n icap (its.flatMap encI) w (by rw [flat_len encI 3 encI_len, hn]) (by unfold maxLen; omega) (by omega) hI (oneCell_flat its)).mono ?_
  rintro e w' ⟨v', he, ho, _, hb⟩
  exact ⟨v', he, ho, hb⟩

theorem sort_perm {l l' : List Item} (h : l.Perm l') : sortI l = sortI l' := by
  have tr : ∀ a b c : Item, (!(ltOf cf) b a) = true → (!(ltOf cf) c b) = true → (!(ltOf cf) c a) = true := by
    intro a b c h1 h2
    have := cf_cmp.swo.ntrans c b a (by simpa using h2) (by simpa using h1)
    simp [this]
  have to : ∀ a b : Item, ((!(ltOf cf) b a) || (!(ltOf cf) a b)) = true := by
    intro a b
    cases h1 : ltOf cf a b with
    | false => simp
    | true =>
      cases h2 : ltOf cf b a with
      | false => simp
      | true => have := cf_cmp.swo.trans a b a h1 h2; rw [cf_cmp.swo.irrefl] at this; cases this
  refine List.Perm.eq_of_pairwise (le := fun x y => (!(ltOf cf) y x) = true) ?_ ?_ ?_ (((List.mergeSort_perm _ _).trans h).trans (List.mergeSort_perm _ _).symm)
  · intro a b _ _ h1 h2
    exact cf_cmp.total a b (by simpa using h2) (by simpa using h1)
  · exact List.pairwise_mergeSort tr to l
  · exact List.pairwise_mergeSort tr to l'

theorem ownsRow_some {w : World} {base T size n : Nat} {v : Value} {xs : List Value} (h : w.ownsRow base T size v n xs) (hn : 0 < n) : ∃ g cap, v = .slice (some ⟨g, 0, none⟩) n cap := by
  rcases h.2 with ⟨_, e⟩ | ⟨g, cap, cur, e, _⟩
  · omega
  · exact ⟨g, cap, e⟩

set_option maxHeartbeats 4000000 in
set_option maxRecDepth 100000 in
theorem same_any (hb ho hcap m : Nat) (dh : Array Item) (x0 : Item) (ib io icap : Nat) (its : List Item) (w : World)
    (hH : HoldsK encH 11 w hb ho dh) (hm : m ≤ dh.size) (hbw : hb < w.heap.size) (hit : its.length = m + 1) (hib : ib < w.heap.size)
    (hI : ∀ j u, (its.flatMap encI)[j]? = some u → w.cell? ⟨ib, io + j, none⟩ = some u) (h65 : m + 1 ≤ 65536) (hP : (dh.toList.take m ++ [x0]).Perm its) :
    Calls Yba.prog 11 #[.slice (some ⟨hb, ho, none⟩) m hcap, .agg (encH x0).toArray, .slice (some ⟨ib, io, none⟩) (m + 1) icap] w fun e w' => e = .returned (.bool true) ∧ RowKit.Below w.heap.size w w' := by
  obtain ⟨i0, hi, hz0, hz1, hz2⟩ := Yba.info26'
  have q1 : ((m : Int) + 1 != (m : Int) + 1) = false := by simp
  go_enter Yba.func11, Yba.ntmps11
  go_wp2_with (at_make; refine wpList_make_own _ rfl _ _ 22 rfl (w.heap.size + 1) 26 i0 _ 3 Yba.underlying22 hi hz0 hz1 _ _ _ (m + 1) rfl rfl (by omega) (by rw [hz2]; omega) (by unfold maxLen; omega) (by simp) ?_; intro w0 hown0 hgrow0)
  have B0 : Hid (RowKit.Below (w.heap.size + 1) (w.alloc (.cells (encH x0).toArray 42)) w0) := (RowKit.Below.refl _ _).grown hgrow0 (by simp) (fun k h => by cases h)
  have o0 : w0.ownsRow (w.heap.size + 1) 26 3 (.slice (some ⟨w.heap.size + 1, 0, none⟩) 0 (m + 1)) 0 [] := by simpa using hown0
  have O0 : Hid (w0.ownsRow (w.heap.size + 1) 26 3 (.slice (some ⟨w.heap.size + 1, 0, none⟩) 0 (m + 1)) 0 []) := o0
  have H1 : Hid (HoldsK encH 11 (w.alloc (.cells (encH x0).toArray 42)) hb ho dh) := Gr.holdsK ((Gr.refl w).alloc _) hbw hH
  have X1 : Hid (HoldsK encH 11 (w.alloc (.cells (encH x0).toArray 42)) w.heap.size 0 #[x0]) := holdsK_new w x0 42
  have I1 : Hid (∀ j u, (its.flatMap encI)[j]? = some u → (w.alloc (.cells (encH x0).toArray 42)).cell? ⟨ib, io + j, none⟩ = some u) := fun j u hu => by
    rw [((Gr.refl w).alloc _).cell (by exact hib)]; exact hI j u hu
  have Bw : Hid (RowKit.Below w.heap.size w (w.alloc (.cells (encH x0).toArray 42))) := (RowKit.Below.refl _ _).alloc (Nat.le_refl _) _
  have Z1 : Hid ((w.alloc (.cells (encH x0).toArray 42)).heap.size = w.heap.size + 1) := (by simp : _ = _)
  clear hgrow0 hown0 hI hH o0
  generalize w.alloc (.cells (encH x0).toArray 42) = W1 at B0 H1 X1 I1 Bw Z1
  go_loopg [7, 8] m (fun g s7 s8 wr => ∃ (k : Nat), s8 = .int .i64 k ∧ k ≤ m ∧ m - k ≤ g ∧ Hid (wr.ownsRow (w.heap.size + 1) 26 3 s7 k ((dh.toList.take k).flatMap encI)) ∧ Hid (RowKit.Below (w.heap.size + 1) W1 wr))
  case atStart => exact ⟨0, rfl, by omega, by omega, O0, B0⟩
  case round =>
    obtain ⟨k, rfl, hk, hg, OR, BR⟩ := hrel
    clear O0 B0
    by_cases hlt : k < m
    · have d1 : (k : Int) < (m : Int) := by omega
      have la := run_loadAt_agg Yba.isAgg42 Yba.sizeOf42 (ld_row Yba.prog encH_len (below_holds BR.out (by omega) H1.out) k (by omega))
      have LA : Hid (_ = _) := la
      clear la
      go_wp2_with (refine wpList_load 42 (.tmp 27) rfl rfl ⟨hb, ho + k * 11, none⟩ rfl _ LA.out ?_)
      refine (plain_at _ _).mono ?_
      rintro e w2 ⟨rfl, g2⟩
      have zr : Hid (w.heap.size + 1 ≤ wr.heap.size) := by have := BR.out.size; rw [Z1.out] at this; exact this
      have B2 : Hid (RowKit.Below (w.heap.size + 1) W1 w2) := BR.out.trans (g2.below.mono zr.out)
      have lb := run_loadAt_agg Yba.isAgg42 Yba.sizeOf42 (ld_row Yba.prog encH_len (below_holds B2.out (by omega) H1.out) k (by omega))
      have LB : Hid (_ = _) := lb
      clear lb
      go_wp2_with (refine wpList_load 42 (.tmp 34) rfl rfl ⟨hb, ho + k * 11, none⟩ rfl _ LB.out ?_)
      refine (key_at _ _).mono ?_
      rintro e w3 ⟨rfl, g3⟩
      have G3 : Hid (Gr wr w3) := Gr.trans g2 g3
      have zr3 : w.heap.size + 1 ≤ w3.heap.size := Nat.le_trans zr.out G3.out.le
      have O3 : Hid (w3.ownsRow (w.heap.size + 1) 26 3 u7 k ((dh.toList.take k).flatMap encI)) := ownsRow_gr OR.out G3.out
      have B3 : Hid (RowKit.Below (w.heap.size + 1) W1 w3) := BR.out.trans (G3.out.below.mono zr.out)
      clear g2 g3 LA LB B2 OR BR
      go_wp2_with (at_builtin; refine wpList_append_own _ rfl (.tmp 31) (.tmp 37) 22 rfl (w.heap.size + 1) 26 i0 _ 3 40 Yba.underlying22 hi hz0 hz1 hz2 rfl (by omega) u7 k _ rfl (O3.out.alloc _) ⟨w3.heap.size, 0, none⟩ 1 1 [.string dh[k]!.1.1, .string dh[k]!.1.2, .int .i64 dh[k]!.2] rfl ?qc1 ?qc2 ?qc3 ?qc4 ?qc5 ?qc6 ?_)
      case qc1 => rfl
      case qc2 =>
        intro j u hu
        rw [Addr.add_lit, Nat.zero_add]
        match j, hu with
        | 0, hu => simpa using hu
        | 1, hu => simpa using hu
        | 2, hu => simpa using hu
        | j + 3, hu => simp at hu
      case qc3 =>
        intro u hu
        simp only [List.mem_cons, List.not_mem_nil, or_false] at hu
        rcases hu with rfl | rfl | rfl <;> rfl
      case qc4 => unfold maxLen; omega
      case qc5 => omega
      case qc6 => simp; omega
      intro v4 w4 hown4 hgrow4 hnil4
      have O4 : Hid (w4.ownsRow (w.heap.size + 1) 26 3 v4 (k + 1) ((dh.toList.take (k + 1)).flatMap encI)) := by rw [take_flat dh k (by omega)]; exact hown4
      have B4 : Hid (RowKit.Below (w.heap.size + 1) W1 w4) := (B3.out.alloc zr3 _).grown hgrow4 (by simp; omega) (fun j hj => (O3.out.lt j hj).1)
      clear hown4 hgrow4 hnil4 O3 B3 zr3
      go_wp2_with fail
      go_roundg (m - (k + 1))
      case measure => omega
      case rel => exact ⟨k + 1, by go_num, by omega, by omega, O4, B4⟩
    · have hkm : k = m := by omega
      subst hkm
      have lx := run_loadAt_agg Yba.isAgg42 Yba.sizeOf42 (ld_row Yba.prog encH_len (below_holds BR.out (by omega) X1.out) 0 (by simp))
      rw [show (#[x0] : Array Item)[0]! = x0 from rfl, Nat.zero_mul, Nat.add_zero] at lx
      have LX : Hid (_ = _) := lx
      clear lx
      go_wp2_with (refine wpList_load 42 (.tmp 4) rfl rfl ⟨w.heap.size, 0, none⟩ rfl _ LX.out ?_)
      refine (key_at _ _).mono ?_
      rintro e w3 ⟨rfl, g3⟩
      have G3 : Hid (Gr wr w3) := g3
      have zr : Hid (w.heap.size + 1 ≤ wr.heap.size) := by have := BR.out.size; rw [Z1.out] at this; exact this
      have zr3 : w.heap.size + 1 ≤ w3.heap.size := Nat.le_trans zr.out G3.out.le
      have O3 : Hid (w3.ownsRow (w.heap.size + 1) 26 3 u7 k ((dh.toList.take k).flatMap encI)) := ownsRow_gr OR.out G3.out
      have B3 : Hid (RowKit.Below (w.heap.size + 1) W1 w3) := BR.out.trans (G3.out.below.mono zr.out)
      clear g3 LX OR BR
      go_wp2_with (at_builtin; refine wpList_append_own _ rfl (.tmp 39) (.tmp 42) 22 rfl (w.heap.size + 1) 26 i0 _ 3 40 Yba.underlying22 hi hz0 hz1 hz2 rfl (by omega) u7 k _ rfl (O3.out.alloc _) ⟨w3.heap.size, 0, none⟩ 1 1 [.string x0.1.1, .string x0.1.2, .int .i64 x0.2] rfl ?qc1 ?qc2 ?qc3 ?qc4 ?qc5 ?qc6 ?_)
      case qc1 => rfl
      case qc2 =>
        intro j u hu
        rw [Addr.add_lit, Nat.zero_add]
        match j, hu with
        | 0, hu => simpa using hu
        | 1, hu => simpa using hu
        | 2, hu => simpa using hu
        | j + 3, hu => simp at hu
      case qc3 =>
        intro u hu
        simp only [List.mem_cons, List.not_mem_nil, or_false] at hu
        rcases hu with rfl | rfl | rfl <;> rfl
      case qc4 => unfold maxLen; omega
      case qc5 => omega
      case qc6 => simp; omega
      intro v4 w4 hown4 hgrow4 hnil4
      have O4 : Hid (w4.ownsRow (w.heap.size + 1) 26 3 v4 (k + 1) ((dh.toList.take k ++ [x0]).flatMap encI)) := by
        rw [List.flatMap_append]; exact hown4
      have B4 : Hid (RowKit.Below (w.heap.size + 1) W1 w4) := (B3.out.alloc zr3 _).grown hgrow4 (by simp; omega) (fun j hj => (O3.out.lt j hj).1)
      clear hown4 hgrow4 hnil4 O3 B3 zr3
      obtain ⟨g4, c4, hv4⟩ := ownsRow_some O4.out (by omega)
      subst hv4
      go_wp2_with fail
      have I4 : ∀ j u, (its.flatMap encI)[j]? = some u → w4.cell? ⟨ib, io + j, none⟩ = some u := fun j u hu => by
        rw [B4.out.cell (p := ⟨ib, io + j, none⟩) (by show ib < _; omega)]; exact I1.out j u hu
      refine (clone_at ib io icap (k + 1) its _ hit h65 I4).mono ?_
      rintro e w5 ⟨v5, rfl, own5, bel5⟩
      clear I4
      have z4 : w.heap.size + 1 ≤ w4.heap.size := by have := B4.out.size; rw [Z1.out] at this; exact this
      have hl4 : (dh.toList.take k ++ [x0]).length = k + 1 := by simp; omega
      have hh4 := holdsK_of_owns (ownsRow_below O4.out bel5) hl4
      obtain ⟨g5, c5, hv5⟩ := ownsRow_some own5 (by omega)
      subst hv5
      have hh5 := holdsK_of_owns own5 hit
      have A4 : Hid (HoldsK encI 3 w5 g4 0 (dh.toList.take k ++ [x0]).toArray) := hh4.1
      have A5 : Hid (HoldsK encI 3 w5 g5 0 its.toArray) := hh5.1
      have n4 : g4 < w4.heap.size := (holdsK_of_owns O4.out hl4).2.1
      have n5 : w4.heap.size ≤ g5 := hh5.2.2
      have m4 : w.heap.size + 1 ≤ g4 := hh4.2.2
      have m5 : g5 < w5.heap.size := hh5.2.1
      have z5 : w4.heap.size ≤ w5.heap.size := bel5.size
      have B5 : Hid (RowKit.Below w.heap.size w w5) := (Bw.out.trans (B4.out.mono (by omega))).trans (bel5.mono (by omega))
      clear hh4 hh5 own5 bel5 O4 B4 I1 X1 H1
      go_wp2_with fail
      refine (sort_at g4 c4 (k + 1) _ _ hl4 A4.out (by omega) h65).mono ?_
      rintro e w6 ⟨rfl, s6, b6, k6, z6⟩
      have A6 : Hid (HoldsK encI 3 w6 g4 0 (sortI (dh.toList.take k ++ [x0])).toArray) := s6
      have A7 : Hid (HoldsK encI 3 w6 g5 0 its.toArray) := k6 g5 0 _ m5 (by omega) A5.out
      have B6 : Hid (RowKit.Below w.heap.size w w6) := B5.out.trans (b6 _ (by omega) (by omega))
      clear s6 b6 k6 A4 A5 B5
      go_wp2_with fail
      refine (sort_at g5 c5 (k + 1) _ _ hit A7.out (by omega) h65).mono ?_
      rintro e w7 ⟨rfl, s7, b7, k7, z7⟩
      have A8 : Hid (HoldsK encI 3 w7 g5 0 (sortI its).toArray) := s7
      have A9 : Hid (HoldsK encI 3 w7 g4 0 (sortI its).toArray) := by have := k7 g4 0 _ (by omega) (by omega) A6.out; rwa [sort_perm hP] at this
      have B7 : Hid (RowKit.Below w.heap.size w w7) := B6.out.trans (b7 _ (by omega) (by omega))
      clear s7 b7 k7 A6 A7 B6
      go_wp2_with fail
      refine (equal_at g4 c4 g5 c5 (k + 1) (sortI its) _ (by simp [sortI, hit]) A9.out A8.out h65).mono ?_
      rintro e w8 ⟨rfl, g8⟩
      go_wp2
      go_ret
      exact ⟨rfl, B7.out.trans (g8.below.mono (by omega))⟩
end Go.Proofs.Ybulkdnbw
