/- WALK: (*heads).pop. -/
import Derived.Test.YbulkdnbwPopInv
namespace Go.Proofs.Ybulkdnbw
open Go.RowKit Go.Lib Go.Sort

set_option maxHeartbeats 16000000 in
set_option maxRecDepth 100000 in
theorem pop_any (sb blk off m cap : Nat) (d : Array Item) (w : World) (B : Nat)
    (hs0 : w.cell? ⟨sb, 0, none⟩ = some (.slice (some ⟨blk, off, none⟩) (m + 1) cap)) (hf0 : w.frozen? ⟨sb, 0, none⟩ = false)
    (hH : HoldsK encH 11 w blk off d) (hd : d.size = m + 1) (hm : m + 1 ≤ 65536) (hcap : m + 1 ≤ cap) (hsb : sb < w.heap.size) (hblk : blk < w.heap.size) (hne : sb ≠ blk) (hB1 : B ≤ sb) (hB2 : B ≤ blk) :
    Calls Yba.prog 7 #[.pointer (some ⟨sb, 0, none⟩)] w fun e w' => e = .returned (.agg (encH d[0]!).toArray) ∧
      HoldsK encH 11 w' blk off (sift lt m m 0 (d.setIfInBounds 0 d[m]!)) ∧ w'.cell? ⟨sb, 0, none⟩ = some (.slice (some ⟨blk, off, none⟩) m cap) ∧ w'.frozen? ⟨sb, 0, none⟩ = false ∧ RowKit.Below B w w' := by
  obtain ⟨⟨⟨a, c⟩, s⟩, hx⟩ : ∃ x, d[0]! = x := ⟨_, rfl⟩
  have hcs := holds_cells hH (i := 0) (by omega) hx
  simp only [Nat.zero_mul, Nat.add_zero] at hcs
  obtain ⟨q0, q1, q2, q3, q4, q5, q6, q7, q8, q9, q10⟩ := hcs
  rw [hx]
  go_enter Yba.func7, Yba.ntmps7
  go_wp2_with fail
  go_region
  go_wp2_with fail
  clear q0 q1 q2 q3 q4 q5 q6 q7 q8 q9 q10
  generalize hW1 : ((w.alloc _).alloc _).drew = W1
  have G1 : Hid (Gr w W1) := by rw [← hW1]; exact (((Gr.refl w).alloc _).alloc _).drew
  have R1 : Hid (HoldsK encH 11 W1 w.heap.size 0 #[zItem]) := by
    rw [← hW1]; exact Gr.holdsK (w := w.alloc (.cells (encH zItem).toArray 42)) (((Gr.refl _).alloc _).drew) (by simp) (holdsK_new w zItem 42)
  have X1 : Hid (HoldsK encH 11 W1 (w.heap.size + 1) 0 #[((a, c), s)]) := by
    rw [← hW1]
    have := holdsK_new (w.alloc (.cells (encH zItem).toArray 42)) ((a, c), s) 42
    rw [World.size_alloc] at this
    exact this
  have z1 : W1.heap.size = w.heap.size + 2 := by rw [← hW1]; simp
  have H1 : Hid (HoldsK encH 11 W1 blk off d) := G1.out.holdsK hblk hH
  have hs1 : W1.cell? ⟨sb, 0, none⟩ = some (.slice (some ⟨blk, off, none⟩) (m + 1) cap) := by rw [G1.out.cell hsb]; exact hs0
  have hf1 : W1.frozen? ⟨sb, 0, none⟩ = false := by rw [G1.out.frozen hsb]; exact hf0
  have Z1 : Hid (W1.heap.size = w.heap.size + 2) := z1
  clear hW1 hH hs0 hf0 z1
  -- (*hs)[0] = (*hs)[last]
  have l2 := fun n => run_loadAt_agg Yba.isAgg42 Yba.sizeOf42 (ld_row Yba.prog (W := W1.drewN n) encH_len (show HoldsK encH 11 (W1.drewN n) blk off d from H1.out) m (by omega))
  have s2 := fun n => run_storeAt_agg Yba.sizeOf42 (encH_len d[m]!) (st_row Yba.prog (W := W1.drewN n) encH_len encH_one (show HoldsK encH 11 (W1.drewN n) blk off d from H1.out) 0 (by omega) d[m]!)
  have N2 := fun n => holdsK_set (W := W1.drewN n) encH_len (show HoldsK encH 11 (W1.drewN n) blk off d from H1.out) 0 (by omega) d[m]!
  simp only [Nat.zero_mul, Nat.add_zero] at s2 N2
  have N3 : Hid (∀ n, HoldsK encH 11 ((W1.drewN n).setCells blk off (encH d[m]!)) blk off (d.setIfInBounds 0 d[m]!)) := N2
  have L2 : Hid (∀ n, Sem.run Yba.prog (Instr.loadAt 42 (Value.pointer (some ⟨blk, off + m * 11, none⟩))) (W1.drewN n) = Result.ok (Value.agg (encH d[m]!).toArray) (W1.drewN n)) := l2
  have S2 : Hid (∀ n, Sem.run Yba.prog (Instr.storeAt 42 (Value.pointer (some ⟨blk, off, none⟩)) (Value.agg (encH d[m]!).toArray)) (W1.drewN n) = Result.ok () ((W1.drewN n).setCells blk off (encH d[m]!))) := s2
  clear N2 l2 s2
  generalize encH d[m]! = cM at L2 S2 N3
  have b2 : (m : Int) < (m : Int) + 1 := by omega
  refine wp_region_drawn_tail 10 (by kernel_rfl) (by kernel_rfl) ?_
  simp only [List.take_succ_cons, List.take_zero, List.drop_succ_cons, List.drop_zero]
  quiet_step (fail)
  quiet_step (fail)
  quiet_step (fail)
  quiet_step (fail)
  quiet_step (fail)
  quiet_step (fail)
  quiet_step (fail)
  quiet_step (fail)
  refine wpQuiet_load 42 _ rfl rfl ⟨blk, off + m * 11, none⟩ rfl cM.toArray (fun w hw => by obtain ⟨n, rfl⟩ := hw; exact L2.out n) ?_
  quiet_step (fail)
  refine wpQuiet_nil ?_
  intro w' hw'
  obtain ⟨nq, hw''⟩ := hw'
  subst hw''
  refine wpList_store 42 _ _ rfl rfl rfl ⟨blk, off, none⟩ rfl _ rfl (S2.out nq) ?_
  have hs2 : ((W1.drewN nq).setCells blk off cM).cell? ⟨sb, 0, none⟩ = some (.slice (some ⟨blk, off, none⟩) (m + 1) cap) := by
    rw [World.cell?_setCells_out blk _ _ _ _ (fun e _ => absurd e hne)]; exact hs1
  have hf2 : ((W1.drewN nq).setCells blk off cM).frozen? ⟨sb, 0, none⟩ = false := by rw [World.frozen?_setCells]; exact hf1
  have P3 : Hid (PI w B sb blk off m cap ((a, c), s) (d.setIfInBounds 0 d[m]!) (((W1.drewN nq).setCells blk off cM).setCell ⟨sb, 0, none⟩ (.slice (some ⟨blk, off, none⟩) m cap))) := by
    have z := Z1.out
    have bw := G1.out.below
    refine ⟨holdsK_setCell (Ne.symm hne) (N3.out nq) _, holdsK_setCell (by show _ ≠ sb; omega) (holdsK_other (by omega) (show HoldsK encH 11 (W1.drewN nq) _ 0 #[zItem] from R1.out) _) _,
      holdsK_setCell (by show _ ≠ sb; omega) (holdsK_other (by omega) (show HoldsK encH 11 (W1.drewN nq) _ 0 #[((a, c), s)] from X1.out) _) _, ?_, ?_, ?_, ?_, hsb, hblk, hne, hB1, hB2⟩
    · exact World.cell?_setCell_same _ _ _ hs2
    · rw [World.frozen?_setCell]; exact hf2
    · refine RowKit.Below.setCell (below_setCells hB2 _ _ _ ?_) hB1 _
      have := bw.mono (B' := B) (by omega)
      exact ⟨this.os, this.tape, this.output, this.size, this.block⟩
    · have : ((W1.drewN nq).setCells blk off cM).heap.size = w.heap.size + 2 := by rw [size_setCells]; exact z
      simp [this]
  clear hs1 hf1 H1 N3 R1 X1 Z1 G1 L2 S2
  generalize (W1.drewN nq).setCells blk off cM = W2 at hs2 hf2 P3 ⊢
  clear hx b2
  have bm : (m : Int) ≤ (m : Int) + 1 := by omega
  have bc : (m : Int) ≤ (cap : Int) := by omega
  go_wp2_with fail
  generalize W2.setCell ⟨sb, 0, none⟩ (.slice (some ⟨blk, off, none⟩) m cap) = W3 at P3 ⊢
  clear hs2 hf2
  go_loopg [5] (m + 1) (fun g si wr => ∃ (i f : Nat) (dk : Array Item), si = .int .i64 i ∧ dk.size = m + 1 ∧ i ≤ m ∧ m - i ≤ f ∧ m + 1 - i ≤ g ∧ Hid (PI w B sb blk off m cap ((a, c), s) dk wr) ∧ Hid (sift lt m m 0 (d.setIfInBounds 0 d[m]!) = sift lt m f i dk))
  case atStart => exact ⟨0, m, _, rfl, by simpa using hd, by omega, by omega, by omega, P3, rfl⟩
  case round =>
    obtain ⟨i, f, dk, rfl, hds, him, hfm, hg, PR, HE⟩ := hrel
    clear P3
    have p1 : (0 : Int) ≤ 2 * (i : Int) + 1 := by omega
    have p2 : (0 : Int) ≤ 2 * (i : Int) + 2 := by omega
    have e1 : (2 * (i : Int) + 1).toNat = 2 * i + 1 := by omega
    have e2 : (2 * (i : Int) + 2).toNat = 2 * i + 2 := by omega
    by_cases c1 : 2 * i + 1 < m
    · cases t1 : lt dk[2 * i + 1]! dk[i]! with
      | true =>
        by_cases c2 : 2 * i + 2 < m
        · cases t2 : lt dk[2 * i + 2]! dk[2 * i + 1]! with
          | true =>
            have e1 : pick1 lt m i dk = 2 * i + 1 := by unfold pick1; rw [if_pos ⟨c1, t1⟩]
            have e2 : pick2 lt m i dk = 2 * i + 2 := by unfold pick2; rw [e1, if_pos ⟨c2, t2⟩]
            have E2 : Hid (pick2 lt m i dk = 2 * i + 2) := e2
            clear e1 e2
            have d1 : 2 * (i : Int) + 1 < (m : Int) := by omega
            have d2 : 2 * (i : Int) + 2 < (m : Int) := by omega
            have T1 : Hid (_ = _) := t1
            clear t1
            have T2 : Hid (_ = _) := t2
            clear t2
            go_wp2_with fail
            have PA : Hid (PI w B sb blk off m cap ((a, c), s) dk (wr.alloc (Obj.cells #[Value.int IntKind.i64 (2 * (i : Int) + 1), Value.int IntKind.i64 (2 * (i : Int) + 2)] 3))) := PR.out.gr ((Gr.refl _).alloc _)
            have hsA := PA.out.hs
            have x0 : (wr.alloc (Obj.cells #[Value.int IntKind.i64 (2 * (i : Int) + 1), Value.int IntKind.i64 (2 * (i : Int) + 2)] 3)).cell? ⟨wr.heap.size, 0, none⟩ = some (.int .i64 (2 * (i : Int) + 1)) := by simp
            have x1 : (wr.alloc (Obj.cells #[Value.int IntKind.i64 (2 * (i : Int) + 1), Value.int IntKind.i64 (2 * (i : Int) + 2)] 3)).cell? ⟨wr.heap.size, 1, none⟩ = some (.int .i64 (2 * (i : Int) + 2)) := by simp
            have ZA : Hid (wr.heap.size < (wr.alloc (Obj.cells #[Value.int IntKind.i64 (2 * (i : Int) + 1), Value.int IntKind.i64 (2 * (i : Int) + 2)] 3)).heap.size) := (by simp : _ < _)
            generalize wr.alloc (Obj.cells #[Value.int IntKind.i64 (2 * (i : Int) + 1), Value.int IntKind.i64 (2 * (i : Int) + 2)] 3) = wA at PA hsA x0 x1 ZA ⊢
            refine wp_loop_rounds 3 ?_
            rw [rounds_succ]
            go_wp2_with fail
            refine (less_at blk off m cap dk (2 * i + 1) i _ _ _ _ (by exact PA.out.row) (by have := PA.out.sz; have := PA.out.blkw; omega) (by omega) (by omega) (by omega) (by omega) (by omega) T1.out).mono ?_
            rintro e wB ⟨rfl, gB⟩
            have PB : Hid (PI w B sb blk off m cap ((a, c), s) dk wB) := PA.out.gr gB
            have hsB := PB.out.hs
            have y1 : wB.cell? ⟨wr.heap.size, 1, none⟩ = some (.int .i64 (2 * (i : Int) + 2)) := by rw [gB.cell (by exact ZA.out)]; exact x1
            clear gB x0 x1 hsA ZA PA
            go_wp2_with fail
            rw [rounds_succ]
            go_wp2_with fail
            refine (less_at blk off m cap dk (2 * i + 2) (2 * i + 1) _ _ _ _ (by exact PB.out.row) (by have := PB.out.sz; have := PB.out.blkw; omega) (by omega) (by omega) (by omega) (by omega) (by omega) T2.out).mono ?_
            rintro e wC ⟨rfl, gC⟩
            have PC : Hid (PI w B sb blk off m cap ((a, c), s) dk wC) := PB.out.gr gC
            have hsC := PC.out.hs
            clear gC hsB PB y1
            go_wp2_with fail
            rw [rounds_succ]
            have im : i < m := by omega
            go_wp2_with fail
            obtain ⟨cI, cJ, la, lb, sa, sj, nn⟩ := PC.out.swap i (2 * i + 2) (by omega) (by omega)
            have LA : Hid (∀ n, _) := la
            have LB : Hid (∀ n, _) := lb
            have SA : Hid (∀ n, _) := sa
            have SJ : Hid (∀ n, _) := sj
            have NN : Hid (∀ n, _) := nn
            clear la lb sa sj nn
            refine wp_region_any (by kernel_rfl) ?_
            refine wpAny_take (i := 7) (v := .int .i64 (2 * (i : Int) + 2)) rfl (by kernel_rfl) (by kernel_rfl) (by kernel_rfl) (fun _ _ _ h => h) (Or.inl ⟨by rfl, fun w => rfl⟩) ?_
            refine wpAny_seq_at (C := fun w' => ∃ n, w' = wC.drewN n) 7 12 20 (by decide) (by kernel_rfl) ⟨1, rfl⟩ ?_
            simp only [List.take_succ_cons, List.take_zero, List.drop_succ_cons, List.drop_zero, List.cons_append, List.nil_append]
            iterate 12 (quiet_step (fail))
            refine wpQuiet_load 42 _ rfl rfl ⟨blk, off + (2 * i + 2) * 11, none⟩ rfl cJ.toArray (fun w hw => by obtain ⟨n, rfl⟩ := hw; exact LA.out n) ?_
            iterate 5 (quiet_step (fail))
            refine wpQuiet_load 42 _ rfl rfl ⟨blk, off + i * 11, none⟩ rfl cI.toArray (fun w hw => by obtain ⟨n, rfl⟩ := hw; exact LB.out n) ?_
            refine wpQuiet_nil ?_
            rintro w' ⟨n, rfl⟩
            go_wp2_with (first | (refine wpList_store 42 (.tmp 86) (.tmp 79) rfl rfl rfl _ rfl _ rfl (SA.out n) ?_) | (refine wpList_store 42 (.tmp 87) (.tmp 85) rfl rfl rfl _ rfl _ rfl (SJ.out n) ?_))
            go_roundg (m + 1 - (2 * i + 2))
            case measure => omega
            case rel => exact ⟨2 * i + 2, f - 1, swp dk i (2 * i + 2), by go_num, by simp [swp, hds], by omega, by omega, Nat.le_refl _, NN.out n, (show Hid _ from HE.out.trans (sift_go lt m f i (2 * i + 2) dk E2.out (by omega) (by omega)))⟩
          | false =>
            have e1 : pick1 lt m i dk = 2 * i + 1 := by unfold pick1; rw [if_pos ⟨c1, t1⟩]
            have e2 : pick2 lt m i dk = 2 * i + 1 := by unfold pick2; rw [e1, if_neg (fun h => by rw [t2] at h; exact absurd h.2 (by decide))]
            have E2 : Hid (pick2 lt m i dk = 2 * i + 1) := e2
            clear e1 e2
            have d1 : 2 * (i : Int) + 1 < (m : Int) := by omega
            have d2 : 2 * (i : Int) + 2 < (m : Int) := by omega
            have T1 : Hid (_ = _) := t1
            clear t1
            have T2 : Hid (_ = _) := t2
            clear t2
            go_wp2_with fail
            have PA : Hid (PI w B sb blk off m cap ((a, c), s) dk (wr.alloc (Obj.cells #[Value.int IntKind.i64 (2 * (i : Int) + 1), Value.int IntKind.i64 (2 * (i : Int) + 2)] 3))) := PR.out.gr ((Gr.refl _).alloc _)
            have hsA := PA.out.hs
            have x0 : (wr.alloc (Obj.cells #[Value.int IntKind.i64 (2 * (i : Int) + 1), Value.int IntKind.i64 (2 * (i : Int) + 2)] 3)).cell? ⟨wr.heap.size, 0, none⟩ = some (.int .i64 (2 * (i : Int) + 1)) := by simp
            have x1 : (wr.alloc (Obj.cells #[Value.int IntKind.i64 (2 * (i : Int) + 1), Value.int IntKind.i64 (2 * (i : Int) + 2)] 3)).cell? ⟨wr.heap.size, 1, none⟩ = some (.int .i64 (2 * (i : Int) + 2)) := by simp
            have ZA : Hid (wr.heap.size < (wr.alloc (Obj.cells #[Value.int IntKind.i64 (2 * (i : Int) + 1), Value.int IntKind.i64 (2 * (i : Int) + 2)] 3)).heap.size) := (by simp : _ < _)
            generalize wr.alloc (Obj.cells #[Value.int IntKind.i64 (2 * (i : Int) + 1), Value.int IntKind.i64 (2 * (i : Int) + 2)] 3) = wA at PA hsA x0 x1 ZA ⊢
            refine wp_loop_rounds 3 ?_
            rw [rounds_succ]
            go_wp2_with fail
            refine (less_at blk off m cap dk (2 * i + 1) i _ _ _ _ (by exact PA.out.row) (by have := PA.out.sz; have := PA.out.blkw; omega) (by omega) (by omega) (by omega) (by omega) (by omega) T1.out).mono ?_
            rintro e wB ⟨rfl, gB⟩
            have PB : Hid (PI w B sb blk off m cap ((a, c), s) dk wB) := PA.out.gr gB
            have hsB := PB.out.hs
            have y1 : wB.cell? ⟨wr.heap.size, 1, none⟩ = some (.int .i64 (2 * (i : Int) + 2)) := by rw [gB.cell (by exact ZA.out)]; exact x1
            clear gB x0 x1 hsA ZA PA
            go_wp2_with fail
            rw [rounds_succ]
            go_wp2_with fail
            refine (less_at blk off m cap dk (2 * i + 2) (2 * i + 1) _ _ _ _ (by exact PB.out.row) (by have := PB.out.sz; have := PB.out.blkw; omega) (by omega) (by omega) (by omega) (by omega) (by omega) T2.out).mono ?_
            rintro e wC ⟨rfl, gC⟩
            have PC : Hid (PI w B sb blk off m cap ((a, c), s) dk wC) := PB.out.gr gC
            have hsC := PC.out.hs
            clear gC hsB PB y1
            go_wp2_with fail
            rw [rounds_succ]
            have im : i < m := by omega
            go_wp2_with fail
            obtain ⟨cI, cJ, la, lb, sa, sj, nn⟩ := PC.out.swap i (2 * i + 1) (by omega) (by omega)
            have LA : Hid (∀ n, _) := la
            have LB : Hid (∀ n, _) := lb
            have SA : Hid (∀ n, _) := sa
            have SJ : Hid (∀ n, _) := sj
            have NN : Hid (∀ n, _) := nn
            clear la lb sa sj nn
            refine wp_region_any (by kernel_rfl) ?_
            refine wpAny_take (i := 7) (v := .int .i64 (2 * (i : Int) + 1)) rfl (by kernel_rfl) (by kernel_rfl) (by kernel_rfl) (fun _ _ _ h => h) (Or.inl ⟨by rfl, fun w => rfl⟩) ?_
            refine wpAny_seq_at (C := fun w' => ∃ n, w' = wC.drewN n) 7 12 20 (by decide) (by kernel_rfl) ⟨1, rfl⟩ ?_
            simp only [List.take_succ_cons, List.take_zero, List.drop_succ_cons, List.drop_zero, List.cons_append, List.nil_append]
            iterate 12 (quiet_step (fail))
            refine wpQuiet_load 42 _ rfl rfl ⟨blk, off + (2 * i + 1) * 11, none⟩ rfl cJ.toArray (fun w hw => by obtain ⟨n, rfl⟩ := hw; exact LA.out n) ?_
            iterate 5 (quiet_step (fail))
            refine wpQuiet_load 42 _ rfl rfl ⟨blk, off + i * 11, none⟩ rfl cI.toArray (fun w hw => by obtain ⟨n, rfl⟩ := hw; exact LB.out n) ?_
            refine wpQuiet_nil ?_
            rintro w' ⟨n, rfl⟩
            go_wp2_with (first | (refine wpList_store 42 (.tmp 86) (.tmp 79) rfl rfl rfl _ rfl _ rfl (SA.out n) ?_) | (refine wpList_store 42 (.tmp 87) (.tmp 85) rfl rfl rfl _ rfl _ rfl (SJ.out n) ?_))
            go_roundg (m + 1 - (2 * i + 1))
            case measure => omega
            case rel => exact ⟨2 * i + 1, f - 1, swp dk i (2 * i + 1), by go_num, by simp [swp, hds], by omega, by omega, Nat.le_refl _, NN.out n, (show Hid _ from HE.out.trans (sift_go lt m f i (2 * i + 1) dk E2.out (by omega) (by omega)))⟩
        ·
          have e1 : pick1 lt m i dk = 2 * i + 1 := by unfold pick1; rw [if_pos ⟨c1, t1⟩]
          have e2 : pick2 lt m i dk = 2 * i + 1 := by unfold pick2; rw [e1, if_neg (fun h => c2 h.1)]
          have E2 : Hid (pick2 lt m i dk = 2 * i + 1) := e2
          clear e1 e2
          have d1 : 2 * (i : Int) + 1 < (m : Int) := by omega
          have d2 : decide (2 * (i : Int) + 2 < (m : Int)) = false := decide_eq_false (by omega)
          have T1 : Hid (_ = _) := t1
          clear t1
          go_wp2_with fail
          have PA : Hid (PI w B sb blk off m cap ((a, c), s) dk (wr.alloc (Obj.cells #[Value.int IntKind.i64 (2 * (i : Int) + 1), Value.int IntKind.i64 (2 * (i : Int) + 2)] 3))) := PR.out.gr ((Gr.refl _).alloc _)
          have hsA := PA.out.hs
          have x0 : (wr.alloc (Obj.cells #[Value.int IntKind.i64 (2 * (i : Int) + 1), Value.int IntKind.i64 (2 * (i : Int) + 2)] 3)).cell? ⟨wr.heap.size, 0, none⟩ = some (.int .i64 (2 * (i : Int) + 1)) := by simp
          have x1 : (wr.alloc (Obj.cells #[Value.int IntKind.i64 (2 * (i : Int) + 1), Value.int IntKind.i64 (2 * (i : Int) + 2)] 3)).cell? ⟨wr.heap.size, 1, none⟩ = some (.int .i64 (2 * (i : Int) + 2)) := by simp
          have ZA : Hid (wr.heap.size < (wr.alloc (Obj.cells #[Value.int IntKind.i64 (2 * (i : Int) + 1), Value.int IntKind.i64 (2 * (i : Int) + 2)] 3)).heap.size) := (by simp : _ < _)
          generalize wr.alloc (Obj.cells #[Value.int IntKind.i64 (2 * (i : Int) + 1), Value.int IntKind.i64 (2 * (i : Int) + 2)] 3) = wA at PA hsA x0 x1 ZA ⊢
          refine wp_loop_rounds 3 ?_
          rw [rounds_succ]
          go_wp2_with fail
          refine (less_at blk off m cap dk (2 * i + 1) i _ _ _ _ (by exact PA.out.row) (by have := PA.out.sz; have := PA.out.blkw; omega) (by omega) (by omega) (by omega) (by omega) (by omega) T1.out).mono ?_
          rintro e wB ⟨rfl, gB⟩
          have PB : Hid (PI w B sb blk off m cap ((a, c), s) dk wB) := PA.out.gr gB
          have hsB := PB.out.hs
          have y1 : wB.cell? ⟨wr.heap.size, 1, none⟩ = some (.int .i64 (2 * (i : Int) + 2)) := by rw [gB.cell (by exact ZA.out)]; exact x1
          clear gB x0 x1 hsA ZA PA
          go_wp2_with fail
          rw [rounds_succ]
          go_wp2_with fail
          rw [rounds_succ]
          have im : i < m := by omega
          go_wp2_with fail
          obtain ⟨cI, cJ, la, lb, sa, sj, nn⟩ := PB.out.swap i (2 * i + 1) (by omega) (by omega)
          have LA : Hid (∀ n, _) := la
          have LB : Hid (∀ n, _) := lb
          have SA : Hid (∀ n, _) := sa
          have SJ : Hid (∀ n, _) := sj
          have NN : Hid (∀ n, _) := nn
          clear la lb sa sj nn
          refine wp_region_any (by kernel_rfl) ?_
          refine wpAny_take (i := 7) (v := .int .i64 (2 * (i : Int) + 1)) rfl (by kernel_rfl) (by kernel_rfl) (by kernel_rfl) (fun _ _ _ h => h) (Or.inl ⟨by rfl, fun w => rfl⟩) ?_
          refine wpAny_seq_at (C := fun w' => ∃ n, w' = wB.drewN n) 7 12 20 (by decide) (by kernel_rfl) ⟨1, rfl⟩ ?_
          simp only [List.take_succ_cons, List.take_zero, List.drop_succ_cons, List.drop_zero, List.cons_append, List.nil_append]
          iterate 12 (quiet_step (fail))
          refine wpQuiet_load 42 _ rfl rfl ⟨blk, off + (2 * i + 1) * 11, none⟩ rfl cJ.toArray (fun w hw => by obtain ⟨n, rfl⟩ := hw; exact LA.out n) ?_
          iterate 5 (quiet_step (fail))
          refine wpQuiet_load 42 _ rfl rfl ⟨blk, off + i * 11, none⟩ rfl cI.toArray (fun w hw => by obtain ⟨n, rfl⟩ := hw; exact LB.out n) ?_
          refine wpQuiet_nil ?_
          rintro w' ⟨n, rfl⟩
          go_wp2_with (first | (refine wpList_store 42 (.tmp 86) (.tmp 79) rfl rfl rfl _ rfl _ rfl (SA.out n) ?_) | (refine wpList_store 42 (.tmp 87) (.tmp 85) rfl rfl rfl _ rfl _ rfl (SJ.out n) ?_))
          go_roundg (m + 1 - (2 * i + 1))
          case measure => omega
          case rel => exact ⟨2 * i + 1, f - 1, swp dk i (2 * i + 1), by go_num, by simp [swp, hds], by omega, by omega, Nat.le_refl _, NN.out n, (show Hid _ from HE.out.trans (sift_go lt m f i (2 * i + 1) dk E2.out (by omega) (by omega)))⟩
      | false =>
        by_cases c2 : 2 * i + 2 < m
        · cases t2 : lt dk[2 * i + 2]! dk[i]! with
          | true =>
            have e1 : pick1 lt m i dk = i := by unfold pick1; rw [if_neg (fun h => by rw [t1] at h; exact absurd h.2 (by decide))]
            have e2 : pick2 lt m i dk = 2 * i + 2 := by unfold pick2; rw [e1, if_pos ⟨c2, t2⟩]
            have E2 : Hid (pick2 lt m i dk = 2 * i + 2) := e2
            clear e1 e2
            have d1 : 2 * (i : Int) + 1 < (m : Int) := by omega
            have d2 : 2 * (i : Int) + 2 < (m : Int) := by omega
            have T1 : Hid (_ = _) := t1
            clear t1
            have T2 : Hid (_ = _) := t2
            clear t2
            go_wp2_with fail
            have PA : Hid (PI w B sb blk off m cap ((a, c), s) dk (wr.alloc (Obj.cells #[Value.int IntKind.i64 (2 * (i : Int) + 1), Value.int IntKind.i64 (2 * (i : Int) + 2)] 3))) := PR.out.gr ((Gr.refl _).alloc _)
            have hsA := PA.out.hs
            have x0 : (wr.alloc (Obj.cells #[Value.int IntKind.i64 (2 * (i : Int) + 1), Value.int IntKind.i64 (2 * (i : Int) + 2)] 3)).cell? ⟨wr.heap.size, 0, none⟩ = some (.int .i64 (2 * (i : Int) + 1)) := by simp
            have x1 : (wr.alloc (Obj.cells #[Value.int IntKind.i64 (2 * (i : Int) + 1), Value.int IntKind.i64 (2 * (i : Int) + 2)] 3)).cell? ⟨wr.heap.size, 1, none⟩ = some (.int .i64 (2 * (i : Int) + 2)) := by simp
            have ZA : Hid (wr.heap.size < (wr.alloc (Obj.cells #[Value.int IntKind.i64 (2 * (i : Int) + 1), Value.int IntKind.i64 (2 * (i : Int) + 2)] 3)).heap.size) := (by simp : _ < _)
            generalize wr.alloc (Obj.cells #[Value.int IntKind.i64 (2 * (i : Int) + 1), Value.int IntKind.i64 (2 * (i : Int) + 2)] 3) = wA at PA hsA x0 x1 ZA ⊢
            refine wp_loop_rounds 3 ?_
            rw [rounds_succ]
            go_wp2_with fail
            refine (less_at blk off m cap dk (2 * i + 1) i _ _ _ _ (by exact PA.out.row) (by have := PA.out.sz; have := PA.out.blkw; omega) (by omega) (by omega) (by omega) (by omega) (by omega) T1.out).mono ?_
            rintro e wB ⟨rfl, gB⟩
            have PB : Hid (PI w B sb blk off m cap ((a, c), s) dk wB) := PA.out.gr gB
            have hsB := PB.out.hs
            have y1 : wB.cell? ⟨wr.heap.size, 1, none⟩ = some (.int .i64 (2 * (i : Int) + 2)) := by rw [gB.cell (by exact ZA.out)]; exact x1
            clear gB x0 x1 hsA ZA PA
            go_wp2_with fail
            rw [rounds_succ]
            go_wp2_with fail
            refine (less_at blk off m cap dk (2 * i + 2) (i) _ _ _ _ (by exact PB.out.row) (by have := PB.out.sz; have := PB.out.blkw; omega) (by omega) (by omega) (by omega) (by omega) (by omega) T2.out).mono ?_
            rintro e wC ⟨rfl, gC⟩
            have PC : Hid (PI w B sb blk off m cap ((a, c), s) dk wC) := PB.out.gr gC
            have hsC := PC.out.hs
            clear gC hsB PB y1
            go_wp2_with fail
            rw [rounds_succ]
            have im : i < m := by omega
            go_wp2_with fail
            obtain ⟨cI, cJ, la, lb, sa, sj, nn⟩ := PC.out.swap i (2 * i + 2) (by omega) (by omega)
            have LA : Hid (∀ n, _) := la
            have LB : Hid (∀ n, _) := lb
            have SA : Hid (∀ n, _) := sa
            have SJ : Hid (∀ n, _) := sj
            have NN : Hid (∀ n, _) := nn
            clear la lb sa sj nn
            refine wp_region_any (by kernel_rfl) ?_
            refine wpAny_take (i := 7) (v := .int .i64 (2 * (i : Int) + 2)) rfl (by kernel_rfl) (by kernel_rfl) (by kernel_rfl) (fun _ _ _ h => h) (Or.inl ⟨by rfl, fun w => rfl⟩) ?_
            refine wpAny_seq_at (C := fun w' => ∃ n, w' = wC.drewN n) 7 12 20 (by decide) (by kernel_rfl) ⟨1, rfl⟩ ?_
            simp only [List.take_succ_cons, List.take_zero, List.drop_succ_cons, List.drop_zero, List.cons_append, List.nil_append]
            iterate 12 (quiet_step (fail))
            refine wpQuiet_load 42 _ rfl rfl ⟨blk, off + (2 * i + 2) * 11, none⟩ rfl cJ.toArray (fun w hw => by obtain ⟨n, rfl⟩ := hw; exact LA.out n) ?_
            iterate 5 (quiet_step (fail))
            refine wpQuiet_load 42 _ rfl rfl ⟨blk, off + i * 11, none⟩ rfl cI.toArray (fun w hw => by obtain ⟨n, rfl⟩ := hw; exact LB.out n) ?_
            refine wpQuiet_nil ?_
            rintro w' ⟨n, rfl⟩
            go_wp2_with (first | (refine wpList_store 42 (.tmp 86) (.tmp 79) rfl rfl rfl _ rfl _ rfl (SA.out n) ?_) | (refine wpList_store 42 (.tmp 87) (.tmp 85) rfl rfl rfl _ rfl _ rfl (SJ.out n) ?_))
            go_roundg (m + 1 - (2 * i + 2))
            case measure => omega
            case rel => exact ⟨2 * i + 2, f - 1, swp dk i (2 * i + 2), by go_num, by simp [swp, hds], by omega, by omega, Nat.le_refl _, NN.out n, (show Hid _ from HE.out.trans (sift_go lt m f i (2 * i + 2) dk E2.out (by omega) (by omega)))⟩
          | false =>
            have e1 : pick1 lt m i dk = i := by unfold pick1; rw [if_neg (fun h => by rw [t1] at h; exact absurd h.2 (by decide))]
            have e2 : pick2 lt m i dk = i := by unfold pick2; rw [e1, if_neg (fun h => by rw [t2] at h; exact absurd h.2 (by decide))]
            have E2 : Hid (pick2 lt m i dk = i) := e2
            clear e1 e2
            have d1 : 2 * (i : Int) + 1 < (m : Int) := by omega
            have d2 : 2 * (i : Int) + 2 < (m : Int) := by omega
            have T1 : Hid (_ = _) := t1
            clear t1
            have T2 : Hid (_ = _) := t2
            clear t2
            go_wp2_with fail
            have PA : Hid (PI w B sb blk off m cap ((a, c), s) dk (wr.alloc (Obj.cells #[Value.int IntKind.i64 (2 * (i : Int) + 1), Value.int IntKind.i64 (2 * (i : Int) + 2)] 3))) := PR.out.gr ((Gr.refl _).alloc _)
            have hsA := PA.out.hs
            have x0 : (wr.alloc (Obj.cells #[Value.int IntKind.i64 (2 * (i : Int) + 1), Value.int IntKind.i64 (2 * (i : Int) + 2)] 3)).cell? ⟨wr.heap.size, 0, none⟩ = some (.int .i64 (2 * (i : Int) + 1)) := by simp
            have x1 : (wr.alloc (Obj.cells #[Value.int IntKind.i64 (2 * (i : Int) + 1), Value.int IntKind.i64 (2 * (i : Int) + 2)] 3)).cell? ⟨wr.heap.size, 1, none⟩ = some (.int .i64 (2 * (i : Int) + 2)) := by simp
            have ZA : Hid (wr.heap.size < (wr.alloc (Obj.cells #[Value.int IntKind.i64 (2 * (i : Int) + 1), Value.int IntKind.i64 (2 * (i : Int) + 2)] 3)).heap.size) := (by simp : _ < _)
            generalize wr.alloc (Obj.cells #[Value.int IntKind.i64 (2 * (i : Int) + 1), Value.int IntKind.i64 (2 * (i : Int) + 2)] 3) = wA at PA hsA x0 x1 ZA ⊢
            refine wp_loop_rounds 3 ?_
            rw [rounds_succ]
            go_wp2_with fail
            refine (less_at blk off m cap dk (2 * i + 1) i _ _ _ _ (by exact PA.out.row) (by have := PA.out.sz; have := PA.out.blkw; omega) (by omega) (by omega) (by omega) (by omega) (by omega) T1.out).mono ?_
            rintro e wB ⟨rfl, gB⟩
            have PB : Hid (PI w B sb blk off m cap ((a, c), s) dk wB) := PA.out.gr gB
            have hsB := PB.out.hs
            have y1 : wB.cell? ⟨wr.heap.size, 1, none⟩ = some (.int .i64 (2 * (i : Int) + 2)) := by rw [gB.cell (by exact ZA.out)]; exact x1
            clear gB x0 x1 hsA ZA PA
            go_wp2_with fail
            rw [rounds_succ]
            go_wp2_with fail
            refine (less_at blk off m cap dk (2 * i + 2) (i) _ _ _ _ (by exact PB.out.row) (by have := PB.out.sz; have := PB.out.blkw; omega) (by omega) (by omega) (by omega) (by omega) (by omega) T2.out).mono ?_
            rintro e wC ⟨rfl, gC⟩
            have PC : Hid (PI w B sb blk off m cap ((a, c), s) dk wC) := PB.out.gr gC
            have hsC := PC.out.hs
            clear gC hsB PB y1
            go_wp2_with fail
            rw [rounds_succ]
            obtain ⟨cT, hcT, lT, sT, vT, rT, cellT, fzT, belT⟩ := PC.out.ret (by omega)
            have LT : Hid (_ = _) := lT
            have ST : Hid (_ = _) := sT
            have VT : Hid (_ = _) := vT
            have CT : Hid (_ = _) := cellT
            have FT : Hid (_ = _) := fzT
            clear lT sT vT hcT cellT fzT
            go_wp2_with (refine wpList_load 42 (.tmp 3) rfl rfl ⟨w.heap.size + 1, 0, none⟩ rfl _ LT.out ?_; refine wpList_store 42 (.tmp 2) (.tmp 65) rfl rfl rfl ⟨w.heap.size, 0, none⟩ rfl _ rfl ST.out ?_)
            refine bodyPost_ret (v := .agg (encH ((a, c), s)).toArray) (results_cell_load Yba.results7 _ _ ⟨w.heap.size, 0, none⟩ _ rfl VT.out) rfl ⟨rfl, ?_, CT.out, FT.out, belT⟩
            rw [HE.out, sift_stop lt m f i dk E2.out]
            exact rT
        ·
          have e1 : pick1 lt m i dk = i := by unfold pick1; rw [if_neg (fun h => by rw [t1] at h; exact absurd h.2 (by decide))]
          have e2 : pick2 lt m i dk = i := by unfold pick2; rw [e1, if_neg (fun h => c2 h.1)]
          have E2 : Hid (pick2 lt m i dk = i) := e2
          clear e1 e2
          have d1 : 2 * (i : Int) + 1 < (m : Int) := by omega
          have d2 : decide (2 * (i : Int) + 2 < (m : Int)) = false := decide_eq_false (by omega)
          have T1 : Hid (_ = _) := t1
          clear t1
          go_wp2_with fail
          have PA : Hid (PI w B sb blk off m cap ((a, c), s) dk (wr.alloc (Obj.cells #[Value.int IntKind.i64 (2 * (i : Int) + 1), Value.int IntKind.i64 (2 * (i : Int) + 2)] 3))) := PR.out.gr ((Gr.refl _).alloc _)
          have hsA := PA.out.hs
          have x0 : (wr.alloc (Obj.cells #[Value.int IntKind.i64 (2 * (i : Int) + 1), Value.int IntKind.i64 (2 * (i : Int) + 2)] 3)).cell? ⟨wr.heap.size, 0, none⟩ = some (.int .i64 (2 * (i : Int) + 1)) := by simp
          have x1 : (wr.alloc (Obj.cells #[Value.int IntKind.i64 (2 * (i : Int) + 1), Value.int IntKind.i64 (2 * (i : Int) + 2)] 3)).cell? ⟨wr.heap.size, 1, none⟩ = some (.int .i64 (2 * (i : Int) + 2)) := by simp
          have ZA : Hid (wr.heap.size < (wr.alloc (Obj.cells #[Value.int IntKind.i64 (2 * (i : Int) + 1), Value.int IntKind.i64 (2 * (i : Int) + 2)] 3)).heap.size) := (by simp : _ < _)
          generalize wr.alloc (Obj.cells #[Value.int IntKind.i64 (2 * (i : Int) + 1), Value.int IntKind.i64 (2 * (i : Int) + 2)] 3) = wA at PA hsA x0 x1 ZA ⊢
          refine wp_loop_rounds 3 ?_
          rw [rounds_succ]
          go_wp2_with fail
          refine (less_at blk off m cap dk (2 * i + 1) i _ _ _ _ (by exact PA.out.row) (by have := PA.out.sz; have := PA.out.blkw; omega) (by omega) (by omega) (by omega) (by omega) (by omega) T1.out).mono ?_
          rintro e wB ⟨rfl, gB⟩
          have PB : Hid (PI w B sb blk off m cap ((a, c), s) dk wB) := PA.out.gr gB
          have hsB := PB.out.hs
          have y1 : wB.cell? ⟨wr.heap.size, 1, none⟩ = some (.int .i64 (2 * (i : Int) + 2)) := by rw [gB.cell (by exact ZA.out)]; exact x1
          clear gB x0 x1 hsA ZA PA
          go_wp2_with fail
          rw [rounds_succ]
          go_wp2_with fail
          rw [rounds_succ]
          obtain ⟨cT, hcT, lT, sT, vT, rT, cellT, fzT, belT⟩ := PB.out.ret (by omega)
          have LT : Hid (_ = _) := lT
          have ST : Hid (_ = _) := sT
          have VT : Hid (_ = _) := vT
          have CT : Hid (_ = _) := cellT
          have FT : Hid (_ = _) := fzT
          clear lT sT vT hcT cellT fzT
          go_wp2_with (refine wpList_load 42 (.tmp 3) rfl rfl ⟨w.heap.size + 1, 0, none⟩ rfl _ LT.out ?_; refine wpList_store 42 (.tmp 2) (.tmp 65) rfl rfl rfl ⟨w.heap.size, 0, none⟩ rfl _ rfl ST.out ?_)
          refine bodyPost_ret (v := .agg (encH ((a, c), s)).toArray) (results_cell_load Yba.results7 _ _ ⟨w.heap.size, 0, none⟩ _ rfl VT.out) rfl ⟨rfl, ?_, CT.out, FT.out, belT⟩
          rw [HE.out, sift_stop lt m f i dk E2.out]
          exact rT
    · have c2 : ¬ 2 * i + 2 < m := by omega
      have e1 : pick1 lt m i dk = i := by unfold pick1; rw [if_neg (fun h => c1 h.1)]
      have e2 : pick2 lt m i dk = i := by unfold pick2; rw [e1, if_neg (fun h => c2 h.1)]
      have E2 : Hid (pick2 lt m i dk = i) := e2
      clear e1 e2
      have d1 : decide (2 * (i : Int) + 1 < (m : Int)) = false := decide_eq_false (by omega)
      have d2 : decide (2 * (i : Int) + 2 < (m : Int)) = false := decide_eq_false (by omega)
      go_wp2_with fail
      have PA : Hid (PI w B sb blk off m cap ((a, c), s) dk (wr.alloc (Obj.cells #[Value.int IntKind.i64 (2 * (i : Int) + 1), Value.int IntKind.i64 (2 * (i : Int) + 2)] 3))) := PR.out.gr ((Gr.refl _).alloc _)
      have hsA := PA.out.hs
      have x0 : (wr.alloc (Obj.cells #[Value.int IntKind.i64 (2 * (i : Int) + 1), Value.int IntKind.i64 (2 * (i : Int) + 2)] 3)).cell? ⟨wr.heap.size, 0, none⟩ = some (.int .i64 (2 * (i : Int) + 1)) := by simp
      have x1 : (wr.alloc (Obj.cells #[Value.int IntKind.i64 (2 * (i : Int) + 1), Value.int IntKind.i64 (2 * (i : Int) + 2)] 3)).cell? ⟨wr.heap.size, 1, none⟩ = some (.int .i64 (2 * (i : Int) + 2)) := by simp
      have ZA : Hid (wr.heap.size < (wr.alloc (Obj.cells #[Value.int IntKind.i64 (2 * (i : Int) + 1), Value.int IntKind.i64 (2 * (i : Int) + 2)] 3)).heap.size) := (by simp : _ < _)
      generalize wr.alloc (Obj.cells #[Value.int IntKind.i64 (2 * (i : Int) + 1), Value.int IntKind.i64 (2 * (i : Int) + 2)] 3) = wA at PA hsA x0 x1 ZA ⊢
      refine wp_loop_rounds 3 ?_
      rw [rounds_succ]
      go_wp2_with fail
      rw [rounds_succ]
      go_wp2_with fail
      rw [rounds_succ]
      obtain ⟨cT, hcT, lT, sT, vT, rT, cellT, fzT, belT⟩ := PA.out.ret (by omega)
      have LT : Hid (_ = _) := lT
      have ST : Hid (_ = _) := sT
      have VT : Hid (_ = _) := vT
      have CT : Hid (_ = _) := cellT
      have FT : Hid (_ = _) := fzT
      clear lT sT vT hcT cellT fzT
      go_wp2_with (refine wpList_load 42 (.tmp 3) rfl rfl ⟨w.heap.size + 1, 0, none⟩ rfl _ LT.out ?_; refine wpList_store 42 (.tmp 2) (.tmp 65) rfl rfl rfl ⟨w.heap.size, 0, none⟩ rfl _ rfl ST.out ?_)
      refine bodyPost_ret (v := .agg (encH ((a, c), s)).toArray) (results_cell_load Yba.results7 _ _ ⟨w.heap.size, 0, none⟩ _ rfl VT.out) rfl ⟨rfl, ?_, CT.out, FT.out, belT⟩
      rw [HE.out, sift_stop lt m f i dk E2.out]
      exact rT
end Go.Proofs.Ybulkdnbw
