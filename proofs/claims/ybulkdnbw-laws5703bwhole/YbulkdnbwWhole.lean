/- WALK: LawS5703BWhole. -/
import Derived.Test.YbulkdnbwWholeInv
namespace Go.Proofs.Ybulkdnbw
open Go.RowKit Go.Lib Go.Sort Go.Shelf

theorem i64_fit (n : Int) (h : -9223372036854775808 ≤ n ∧ n ≤ 9223372036854775807) : IntKind.i64.wrap n = n := by rw [IntKind.wrap_i64]; omega

set_option maxHeartbeats 400000 in
theorem whole_edge (p : Option Addr) (n cap : Nat) (w : World) (hn : n ≤ maxLen) (h : n = 0 ∨ 65536 < n) :
    Calls Yba.prog 3 #[.slice p n cap] w fun e w' => e = .returned (.bool true) ∧ w' = w := by
  unfold maxLen at hn
  rcases h with h | h
  · subst h
    go_enter Yba.func3, Yba.ntmps3
    go_wp2
    go_ret
    exact ⟨rfl, rfl⟩
  · have h1 : ((n : Int) == 0) = false := beq_eq_false_iff_ne.2 (by omega)
    have h2 : (65536 : Int) < (n : Int) := by omega
    go_enter Yba.func3, Yba.ntmps3
    go_wp2
    go_ret
    exact ⟨rfl, rfl⟩

set_option maxHeartbeats 4000000 in
set_option maxRecDepth 100000 in
theorem whole_any (ib io icap m : Nat) (its : List Item) (w : World) (hit : its.length = m + 1) (h65 : m + 1 ≤ 65536) (hib : ib < w.heap.size)
    (hI : ∀ j u, (its.flatMap encI)[j]? = some u → w.cell? ⟨ib, io + j, none⟩ = some u) :
    Calls Yba.prog 3 #[.slice (some ⟨ib, io, none⟩) (m + 1) icap] w fun e w' => e = .returned (.bool true) ∧ RowKit.Below w.heap.size w w' := by
  have h1 : ((m : Int) + 1 == 0) = false := beq_eq_false_iff_ne.2 (by omega)
  have h2 : decide ((65536 : Int) < (m : Int) + 1) = false := decide_eq_false (by omega)
  have II : Hid (∀ j u, (its.flatMap encI)[j]? = some u → w.cell? ⟨ib, io + j, none⟩ = some u) := hI
  clear hI
  go_enter Yba.func3, Yba.ntmps3
  go_wp2_with fail
  have L0 : Hid (PH w w.heap.size w.heap.size (.slice none 0 0) [] (w.alloc (Obj.cells #[Value.slice none 0 0] 24))) :=
    ⟨⟨rfl, .inl ⟨rfl, rfl⟩⟩, heap_alloc_new w _, (RowKit.Below.refl _ _).alloc (Nat.le_refl _) _, Nat.le_refl _, by simp [Value.ownBlock]⟩
  obtain ⟨sb, hsb⟩ : ∃ sb, w.heap.size = sb := ⟨_, rfl⟩
  have hsb' : sb ≤ w.heap.size := by omega
  have hsb'' : w.heap.size ≤ sb := by omega
  rw [hsb] at L0 ⊢
  generalize w.alloc (Obj.cells #[Value.slice none 0 0] 24) = W2 at L0 ⊢
  clear hsb
  go_loopg [21] (m + 1) (fun gg s21 wr => ∃ (k : Nat) (v : Value) (l : List Item), s21 = .int .i64 k ∧ k ≤ m + 1 ∧ m + 1 - k ≤ gg ∧ Hid (PH w sb sb v l wr) ∧ Hid (l.length = k ∧ l.Perm (its.take k) ∧ HeapTo lt l.toArray k))
  case atStart => exact ⟨0, _, [], rfl, by omega, by omega, L0, (show Hid _ from ⟨rfl, by simp, fun i h1 h2 => by omega⟩)⟩
  case round =>
    obtain ⟨k, v, l, rfl, hk, hg, LR, PL⟩ := hrel
    clear L0
    by_cases hlt : k < m + 1
    · have d1 : (k : Int) < (m : Int) + 1 := by omega
      obtain ⟨⟨⟨a, c⟩, s⟩, hx⟩ : ∃ x, its[k]! = x := ⟨_, rfl⟩
      have HX : Hid (its[k]! = ((a, c), s)) := hx
      have ic := item_cells (w := wr) (fun j u hu => by rw [LR.out.bel.cell (p := ⟨ib, io + j, none⟩) (by show ib < sb; omega)]; exact II.out j u hu) k (by omega) hx
      obtain ⟨c0, c1, c2⟩ := ic
      clear hx
      go_wp2_with fail
      have LA : Hid (Gr wr (wr.alloc (Obj.cells #[Value.string a, Value.string c, Value.int IntKind.i64 s] 26))) := (Gr.refl wr).alloc _
      generalize wr.alloc (Obj.cells #[Value.string a, Value.string c, Value.int IntKind.i64 s] 26) = wI at LA ⊢
      clear c0 c1 c2
      refine (head_at a c s _).mono ?_
      rintro e wx ⟨rfl, gx⟩
      have GX : Hid (Gr wr wx) := LA.out.trans gx
      clear gx LA
      go_wp2_with fail
      refine (push_any w sb sb v l a c s _ (LR.out.alloc GX.out) (by have := PL.out.1; omega)).mono ?_
      rintro e wp ⟨rfl, g', cap', pp⟩
      have PP : Hid (PU w sb sb g' cap' (l.length + 1) _ wp) := pp
      clear pp
      have QQ := push_plain its k l ((a, c), s) (by omega) HX.out PL.out.1 PL.out.2.1 PL.out.2.2
      have QH : Hid (_ ∧ _) := QQ
      clear QQ
      go_wp2
      go_roundg (m + 1 - (k + 1))
      case measure => omega
      case rel => exact ⟨k + 1, _, _, by go_num, by omega, by omega, PP.out.ph, QH⟩
    · have hkm : k = m + 1 := by omega
      subst hkm
      go_wp2_with fail
      have hll := PL.out.1
      have hpl := PL.out.2.1
      rw [List.take_of_length_le (by omega)] at hpl
      have hH := PL.out.2.2
      have ho := LR.out.own
      rw [hll] at ho
      obtain ⟨g, cap, rfl⟩ := ownsRow_some ho (by omega)
      have hh := holdsH_of_owns ho hll
      have hne : sb ≠ g := fun e => LR.out.ne (by rw [e]; rfl)
      have hbx := box_cell LR.out.box
      have hsl : sb < wr.heap.size := (Array.getElem?_eq_some_iff.1 LR.out.box).1
      refine (pop_any sb g 0 m cap l.toArray wr sb hbx.1 hbx.2 hh.1 (by simpa using hll) h65 hh.2.2.2 hsl hh.2.1 hne (Nat.le_refl _) hh.2.2.1).mono ?_
      rintro e w5 ⟨rfl, r5, c5, f5, b5⟩
      have gsl := hh.2.1
      have bw := LR.out.bel.size
      have gbw := hh.2.2.1
      have B5 : Hid (RowKit.Below w.heap.size w w5) := (LR.out.bel.trans b5).mono (by omega)
      have zw := b5.size
      have R5 : Hid (HoldsK encH 11 w5 g 0 (sift lt m m 0 (l.toArray.setIfInBounds 0 l.toArray[m]!))) := r5
      have hPm := pop_perm lt l.toArray m (by simpa using hll)
      have hHp := pop_heap lt_swo l.toArray m (by simpa using hll) hH
      obtain ⟨r, hr⟩ : ∃ r, sift lt m m 0 (l.toArray.setIfInBounds 0 l.toArray[m]!) = r := ⟨_, rfl⟩
      have hrs : m ≤ r.size := by rw [← hr, sift_size lt m m 0 _ (by simp; omega)]; simp; omega
      rw [hr] at R5 hPm hHp
      obtain ⟨x0, hx0⟩ : ∃ x0, l.toArray[0]! = x0 := ⟨_, rfl⟩
      rw [hx0] at hPm ⊢
      have pm : (r.toList.take m ++ [x0]).Perm its := (by simpa using hPm : (r.toList.take m ++ [x0]).Perm l).trans hpl
      have PM : Hid ((r.toList.take m ++ [x0]).Perm its) := pm
      have HP : Hid (HeapTo lt r m) := hHp
      have XR : Hid (∀ x, Least its its.length x → x0 = x) := fun x hx => by
        rw [← hx0]
        exact hx.root hpl (by omega) (by rw [hll]; exact hH)
      clear ho hh r5 f5 b5 hPm hr hx0 LR pm hHp hpl hH PL hbx hll
      -- 'got' in its variable
      have s6 := run_storeAt_agg Yba.sizeOf42 (encH_len x0) (st_row Yba.prog encH_len encH_one (holdsK_new w5 zItem 42) 0 (by simp) x0)
      have n6 := holdsK_set encH_len (holdsK_new w5 zItem 42) 0 (by simp) x0
      simp only [Nat.zero_mul, Nat.add_zero] at s6 n6
      have r6 : HoldsK encH 11 ((w5.alloc (.cells (encH zItem).toArray 42)).setCells w5.heap.size 0 (encH x0)) g 0 r := holdsK_other (by omega) (Gr.holdsK ((Gr.refl w5).alloc _) (by omega) R5.out) _
      have k6 : ((w5.alloc (.cells (encH zItem).toArray 42)).setCells w5.heap.size 0 (encH x0)).cell? ⟨sb, 0, none⟩ = some (.slice (some ⟨g, 0, none⟩) m cap) := by
        rw [World.cell?_setCells_out _ _ _ _ _ (fun e _ => absurd e (by show sb ≠ _; omega)), ((Gr.refl w5).alloc _).cell (by show sb < _; omega)]; exact c5
      have b6 : RowKit.Below w.heap.size w ((w5.alloc (.cells (encH zItem).toArray 42)).setCells w5.heap.size 0 (encH x0)) := below_setCells (by omega) _ _ _ (B5.out.alloc (by omega) _)
      have z6 : ((w5.alloc (.cells (encH zItem).toArray 42)).setCells w5.heap.size 0 (encH x0)).heap.size = w5.heap.size + 1 := by rw [size_setCells]; simp
      obtain ⟨W6, hW6⟩ : ∃ W6, (w5.alloc (.cells (encH zItem).toArray 42)).setCells w5.heap.size 0 (encH x0) = W6 := ⟨_, rfl⟩
      rw [hW6] at s6 r6 k6 b6 z6
      have n6' : HoldsK encH 11 W6 w5.heap.size 0 #[x0] := by rw [← hW6]; exact n6
      have S6 : Hid (_ = _) := s6
      have N6 : Hid (HoldsK encH 11 W6 w5.heap.size 0 #[x0]) := n6'
      have R6 : Hid (HoldsK encH 11 W6 g 0 r) := r6
      have K6 : Hid (_ = _) := k6
      have B6 : Hid (RowKit.Below w.heap.size w W6) := b6
      clear s6 n6 n6' r6 k6 b6 c5 hW6
      obtain ⟨⟨⟨a, c⟩, s⟩, hy⟩ : ∃ x, its[0]! = x := ⟨_, rfl⟩
      have ic := item_cells (w := W6) (fun j u hu => by rw [B6.out.cell (p := ⟨ib, io + j, none⟩) hib]; exact II.out j u hu) 0 (by omega) hy
      simp only [Nat.zero_mul, Nat.add_zero] at ic
      obtain ⟨c0, c1, c2⟩ := ic
      have HY : Hid (its[0]! = ((a, c), s)) := hy
      clear hy
      go_wp2_with (refine wpList_store 42 (.tmp 6) (.tmp 29) rfl rfl rfl ⟨w5.heap.size, 0, none⟩ rfl _ rfl (by exact S6.out) ?_)
      obtain ⟨NB, hNB⟩ : ∃ NB, w5.heap.size = NB := ⟨_, rfl⟩
      rw [hNB] at N6 z6 ⊢
      have J7 : Hid (WI w sb g cap m NB r x0 ((a, c), s) (W6.alloc (Obj.cells #[Value.string a, Value.string c, Value.int IntKind.i64 s] 26))) := by
        have G := (Gr.refl W6).alloc (Obj.cells #[Value.string a, Value.string c, Value.int IntKind.i64 s] 26)
        have hn := holdsI_new W6 ((a, c), s) 26
        rw [z6] at hn
        exact ⟨G.holdsK (by omega) R6.out, G.holdsK (by omega) N6.out, hn, by rw [G.cell (by show sb < _; omega)]; exact K6.out, B6.out.trans (G.below.mono (by omega)), by rw [World.size_alloc]; omega, by omega, by omega, by omega⟩
      generalize W6.alloc (Obj.cells #[Value.string a, Value.string c, Value.int IntKind.i64 s] 26) = W7 at J7 ⊢
      have LZ : Hid (Least its 0 ((a, c), s)) := (by have := Least.zero its (by omega); rwa [HY.out] at this : Least its 0 ((a, c), s))
      clear R5 B5 S6 N6 R6 K6 B6 z6 c0 c1 c2 HY
      go_loopg [35] (m + 1) (fun gg s35 wr => ∃ (k : Nat) (wt : Item), s35 = .int .i64 k ∧ k ≤ m + 1 ∧ m + 1 - k ≤ gg ∧ Hid (WI w sb g cap m NB r x0 wt wr) ∧ Hid (Least its k wt))
      case atStart => exact ⟨0, _, rfl, by omega, by omega, J7, LZ⟩
      case round =>
        obtain ⟨k, ⟨⟨a', c'⟩, s'⟩, rfl, hk, hg, JR, LK⟩ := hrel
        clear J7 LZ
        by_cases hlt : k < m + 1
        · have d1 : (k : Int) < (m : Int) + 1 := by omega
          obtain ⟨⟨⟨a, c⟩, s⟩, hx⟩ : ∃ x, its[k]! = x := ⟨_, rfl⟩
          have HX : Hid (its[k]! = ((a, c), s)) := hx
          have ic := item_cells (w := wr) (fun j u hu => by rw [JR.out.bel.cell (p := ⟨ib, io + j, none⟩) hib]; exact II.out j u hu) k (by omega) hx
          obtain ⟨c0, c1, c2⟩ := ic
          obtain ⟨q0, q1, q2⟩ := one_cells JR.out.wnt
          clear hx
          have GA : Hid (Gr wr (wr.alloc (Obj.cells #[Value.string a, Value.string c, Value.int IntKind.i64 s] 26))) := (Gr.refl wr).alloc _
          have zN := JR.out.sz
          go_wp2_with fail
          have n0 : (wr.alloc (Obj.cells #[Value.string a, Value.string c, Value.int IntKind.i64 s] 26)).cell? ⟨wr.heap.size, 0, none⟩ = some (.string a) := by simp
          have n1 : (wr.alloc (Obj.cells #[Value.string a, Value.string c, Value.int IntKind.i64 s] 26)).cell? ⟨wr.heap.size, 1, none⟩ = some (.string c) := by simp
          have n2 : (wr.alloc (Obj.cells #[Value.string a, Value.string c, Value.int IntKind.i64 s] 26)).cell? ⟨wr.heap.size, 2, none⟩ = some (.int .i64 s) := by simp
          have n3 : wr.heap.size < (wr.alloc (Obj.cells #[Value.string a, Value.string c, Value.int IntKind.i64 s] 26)).heap.size := by simp
          generalize wr.alloc (Obj.cells #[Value.string a, Value.string c, Value.int IntKind.i64 s] 26) = wA at GA n0 n1 n2 n3 ⊢
          clear c0 c1 c2 q0 q1 q2
          refine (cmp_any a c a' c' s s' _).mono ?_
          rintro e wB ⟨rfl, gB⟩
          have gB' : Gr wA wB := gB
          have JB : Hid (WI w sb g cap m NB r x0 ((a', c'), s') wB) := JR.out.gr (GA.out.trans gB')
          have y0 : wB.cell? ⟨wr.heap.size, 0, none⟩ = some (.string a) := by rw [gB'.cell (by exact n3)]; exact n0
          have y1 : wB.cell? ⟨wr.heap.size, 1, none⟩ = some (.string c) := by rw [gB'.cell (by exact n3)]; exact n1
          have y2 : wB.cell? ⟨wr.heap.size, 2, none⟩ = some (.int .i64 s) := by rw [gB'.cell (by exact n3)]; exact n2
          clear n0 n1 n2 n3 gB gB' GA JR
          cases t1 : lt ((a, c), s) ((a', c'), s') with
          | true =>
            have hc : cf ((a, c), s) ((a', c'), s') < 0 := by rw [lt_cf] at t1; simpa using t1
            obtain ⟨st, sj⟩ := JB.out.set ((a, c), s)
            have ST : Hid (_ = _) := st
            have SJ : Hid (WI w sb g cap m NB r x0 ((a, c), s) (wB.setCells (NB + 1) 0 (encI ((a, c), s)))) := sj
            clear st sj
            have LT : Hid (Least its (k + 1) ((a, c), s)) := (by have := LK.out.take (by omega) (by rw [HX.out]; exact t1); rwa [HX.out] at this : Least its (k + 1) ((a, c), s))
            clear t1
            generalize wB.setCells (NB + 1) 0 (encI ((a, c), s)) = wC at ST SJ
            go_wp2_with (refine wpList_store 26 (.tmp 7) (.tmp 43) rfl rfl rfl ⟨NB + 1, 0, none⟩ rfl _ rfl (by exact ST.out) ?_)
            go_roundg (m + 1 - (k + 1))
            case measure => omega
            case rel => exact ⟨k + 1, _, by go_num, by omega, by omega, SJ, LT⟩
          | false =>
            have hc : decide (cf ((a, c), s) ((a', c'), s') < 0) = false := by rw [← lt_cf]; exact t1
            have LT : Hid (Least its (k + 1) ((a', c'), s')) := LK.out.keep (by rw [HX.out]; exact t1)
            clear t1
            go_wp2_with fail
            go_roundg (m + 1 - (k + 1))
            case measure => omega
            case rel => exact ⟨k + 1, _, by go_num, by omega, by omega, JB, LT⟩
        · have hkm : k = m + 1 := by omega
          subst hkm
          have hx0 : x0 = ((a', c'), s') := XR.out _ (by rw [hit]; exact LK.out)
          subst hx0
          clear XR LK
          go_wp2_with fail
          obtain ⟨c0, c1, c2⟩ := one_cells JR.out.wnt
          have zN := JR.out.sz
          have C0 := fun n os => cell_grown (w := wr) zN c0 n os
          have C1 := fun n os => cell_grown (w := wr) zN c1 n os
          have C2 := fun n os => cell_grown (w := wr) zN c2 n os
          clear c0 c1 c2
          have l6 : Hid (∀ w, (∃ p : GrownBy, w = grow (wr.drewN p.n) p.os) → Sem.run Yba.prog (Instr.loadAt 42 (.pointer (some ⟨NB, 0, none⟩))) w = .ok (.agg (encH ((a', c'), s')).toArray) w) := by
            rintro w' ⟨p, rfl⟩
            have := run_loadAt_agg Yba.isAgg42 Yba.sizeOf42 (ld_row Yba.prog encH_len (Gr.holdsK ((Gr.refl wr).grown p.n p.os) (by omega) JR.out.got) 0 (by simp))
            simpa using this
          refine wp_region_quiet_grown (by kernel_rfl) (by kernel_rfl) ?_
          refine wpQuiet_load 42 (.tmp 6) rfl rfl ⟨NB, 0, none⟩ rfl _ l6.out ?_
          quiet_step ((go_at_call 9; refine grown_gr (key_at ((a', c'), s') _)))
          iterate 3 (quiet_step (fail))
          refine wpQuiet_load_g 42 (.tmp 6) rfl rfl ⟨NB, 0, none⟩ rfl _ l6.out ?_
          quiet_step ((go_at_call 10; refine grown_gr (plain_at ((a', c'), s') _)))
          iterate 2 (quiet_step (fail))
          refine wpQuiet_nil ?_
          rintro w' ⟨⟨nq, osq⟩, rfl⟩
          have J8 : Hid (WI w sb g cap m NB r ((a', c'), s') ((a', c'), s') (grow (wr.drewN nq) osq)) := JR.out.gr ((Gr.refl wr).grown nq osq)
          clear C0 C1 C2 l6 JR zN
          generalize grow (wr.drewN nq) osq = W8 at J8 ⊢
          go_wp2_with fail
          go_loopg [10] (m + 1) (fun gg s10 wr => ∃ (i : Nat), s10 = .int .i64 i ∧ 1 ≤ i ∧ i ≤ m + 1 ∧ m + 1 - i ≤ gg ∧ Hid (WI w sb g cap m NB r ((a', c'), s') ((a', c'), s') wr))
          case atStart => exact ⟨1, rfl, by omega, by omega, by omega, J8⟩
          case round =>
            obtain ⟨i, rfl, hi1, him, hg, JS⟩ := hrel
            clear J8
            have k9 := JS.out.hs
            have zN := JS.out.sz
            have zg := JS.out.gN
            have zs := JS.out.sN
            by_cases hlt : i < m
            · have d1 : (i : Int) < (m : Int) := by omega
              go_wp2_with fail
              obtain ⟨⟨⟨a1, c1⟩, s1⟩, e1⟩ : ∃ x, r[i]! = x := ⟨_, rfl⟩
              obtain ⟨⟨⟨a2, c2⟩, s2⟩, e2⟩ : ∃ x, r[(i - 1) / 2]! = x := ⟨_, rfl⟩
              have hc : decide (cf ((a1, c1), s1) ((a2, c2), s2) < 0) = false := by
                have := HP.out i hi1 hlt
                rw [e1, e2, lt_cf] at this
                exact this
              have la : Hid (∀ w, (∃ p : GrownBy, w = grow (wr.drewN p.n) p.os) → Sem.run Yba.prog (Instr.loadAt 42 (.pointer (some ⟨g, i * 11, none⟩))) w = .ok (.agg (encH ((a1, c1), s1)).toArray) w) := by
                rintro w' ⟨p, rfl⟩
                have := run_loadAt_agg Yba.isAgg42 Yba.sizeOf42 (ld_row Yba.prog encH_len (Gr.holdsK ((Gr.refl wr).grown p.n p.os) (by omega) JS.out.row) i (by omega))
                rw [e1, Nat.zero_add] at this
                exact this
              have lb : Hid (∀ w, (∃ p : GrownBy, w = grow (wr.drewN p.n) p.os) → Sem.run Yba.prog (Instr.loadAt 42 (.pointer (some ⟨g, (i - 1) / 2 * 11, none⟩))) w = .ok (.agg (encH ((a2, c2), s2)).toArray) w) := by
                rintro w' ⟨p, rfl⟩
                have := run_loadAt_agg Yba.isAgg42 Yba.sizeOf42 (ld_row Yba.prog encH_len (Gr.holdsK ((Gr.refl wr).grown p.n p.os) (by omega) JS.out.row) ((i - 1) / 2) (by omega))
                rw [e2, Nat.zero_add] at this
                exact this
              have K9 := fun n os => cell_grown (w := wr) (show sb < wr.heap.size by omega) k9 n os
              have e7 : IntKind.i64.wrap ((IntKind.i64.wrap ((i : Int) - 1)).tdiv 2) = ((i : Int) - 1) / 2 := by
                rw [i64_fit ((i : Int) - 1) (by omega), Int.tdiv_eq_ediv_of_nonneg (by omega), i64_fit _ (by omega)]
              have d3 : (((i : Int) - 1) / 2).toNat = (i - 1) / 2 := by omega
              have d4 : (0 : Int) ≤ ((i : Int) - 1) / 2 := by omega
              have d5 : ((i : Int) - 1) / 2 < (m : Int) := by omega
              clear e1 e2 k9
              refine wp_region_quiet_grown (by kernel_rfl) (by kernel_rfl) ?_
              iterate 3 (quiet_step (fail))
              refine wpQuiet_load 42 (.tmp 62) rfl rfl ⟨g, i * 11, none⟩ rfl _ la.out ?_
              quiet_step ((go_at_call 9; refine grown_gr (key_at ((a1, c1), s1) _)))
              iterate 5 (quiet_step (fail))
              refine wpQuiet_load 42 (.tmp 69) rfl rfl ⟨g, (i - 1) / 2 * 11, none⟩ rfl _ lb.out ?_
              quiet_step ((go_at_call 9; refine grown_gr (key_at ((a2, c2), s2) _)))
              quiet_step ((go_at_call 8; refine grown_gr (cmp_any a1 c1 a2 c2 s1 s2 _)))
              quiet_step (fail)
              refine wpQuiet_nil ?_
              rintro w' ⟨⟨nq, osq⟩, rfl⟩
              have J9 : Hid (WI w sb g cap m NB r ((a', c'), s') ((a', c'), s') (grow (wr.drewN nq) osq)) := JS.out.gr ((Gr.refl wr).grown nq osq)
              clear la lb K9 JS
              generalize grow (wr.drewN nq) osq = W9 at J9 ⊢
              go_wp2_with fail
              go_roundg (m + 1 - (i + 1))
              case measure => omega
              case rel => exact ⟨i + 1, by go_num, by omega, by omega, by omega, J9⟩
            · have d1 : decide ((i : Int) < (m : Int)) = false := decide_eq_false (by omega)
              have l7 := run_loadAt_agg Yba.isAgg42 Yba.sizeOf42 (ld_row Yba.prog encH_len JS.out.got 0 (by simp))
              rw [show (#[((a', c'), s')] : Array Item)[0]! = ((a', c'), s') from rfl, Nat.zero_mul, Nat.add_zero] at l7
              have L7 : Hid (_ = _) := l7
              clear l7
              go_wp2_with (refine wpList_load 42 (.tmp 6) rfl rfl ⟨NB, 0, none⟩ rfl _ L7.out ?_)
              have zb := JS.out.bel.size
              refine (same_any g 0 cap m r ((a', c'), s') ib io icap its _ JS.out.row hrs (by omega) hit (by omega) (fun j u hu => by rw [JS.out.bel.cell (p := ⟨ib, io + j, none⟩) hib]; exact II.out j u hu) h65 PM.out).mono ?_
              rintro e w8 ⟨rfl, b8⟩
              go_wp2
              go_ret
              exact ⟨rfl, JS.out.bel.trans (b8.mono (by omega))⟩
end Go.Proofs.Ybulkdnbw
