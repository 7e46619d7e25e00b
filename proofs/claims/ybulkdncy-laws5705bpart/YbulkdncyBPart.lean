/- WALK: LawS5705BPart. -/
import Derived.Test.YbulkdncyEnter1
import Derived.OpenShut
namespace Go.Proofs.Ybulkdncy
open Go.RowKit

theorem tadd (d : Int) (w : World) (h1 : -9223372036854775808 ≤ d) (h2 : d ≤ 9223372036854775807) : Calls Yba.prog 6 #[.agg #[.int .u64 0, .int .i64 0, .pointer none], .int .i64 d] w fun e w' => e = .returned (.agg #[.int .u64 (d % 1000000000), .int .i64 (d / 1000000000), .pointer none]) ∧ Fr (fun _ => False) w w' := by
  refine (add_any 0 0 d w (by omega) (by omega) (by omega) (by omega) h1 h2).mono ?_
  rintro e w' ⟨rfl, rfl⟩
  exact ⟨by simp, ((Fr.refl _ w).alloc _ _).alloc _ _⟩

set_option maxHeartbeats 4000000 in
set_option maxRecDepth 100000 in
theorem bpart_any (a0 a1 a2 a3 a4 a5 a6 a7 a8 a9 st : Int) (w1 : (Lit.int .i64 a1).wf = true) (w3 : (Lit.int .u32 a3).wf = true) (w5 : (Lit.int .i64 a5).wf = true) (w8 : (Lit.int .u8 a8).wf = true) (w9 : (Lit.int .i64 a9).wf = true) (w : World) (hst : a8 % 3 = st) :
    Calls Yba.prog 4 #[.int .i64 a0, .int .i64 a1, .int .i64 a2, .int .u32 a3, .int .i64 a4, .int .i64 a5, .int .i64 a6, .int .i64 a7, .int .u8 a8, .int .i64 a9] w fun e w' => e = .returned (.bool true) ∧ Grown w w' := by
  obtain ⟨p1, q1⟩ := bounds_i64 w1
  obtain ⟨p5, q5⟩ := bounds_i64 w5
  obtain ⟨p9, q9⟩ := bounds_i64 w9
  obtain ⟨p3, q3⟩ := bounds_u32 w3
  obtain ⟨p8, q8⟩ := bounds_u8 w8
  have T1 : Hid (∀ d w, -9223372036854775808 ≤ d → d ≤ 9223372036854775807 → Calls Yba.prog 6 #[.agg #[.int .u64 0, .int .i64 0, .pointer none], .int .i64 d] w fun e w' => e = .returned (.agg #[.int .u64 (d % 1000000000), .int .i64 (d / 1000000000), .pointer none]) ∧ Fr (fun _ => False) w w') := tadd
  obtain ⟨n9, e9⟩ : ∃ n9, a9 % 1000000000 = n9 := ⟨_, rfl⟩
  obtain ⟨s9, g9⟩ : ∃ s9, a9 / 1000000000 = s9 := ⟨_, rfl⟩
  obtain ⟨n5, e5⟩ : ∃ n5, a5 % 1000000000 = n5 := ⟨_, rfl⟩
  obtain ⟨s5, g5⟩ : ∃ s5, a5 / 1000000000 = s5 := ⟨_, rfl⟩
  have T9 := T1.out a9
  rw [e9, g9] at T9
  have T5 := T1.out a5
  rw [e5, g5] at T5
  have H9 : Hid (∀ w, _) := fun w => T9 w p9 q9
  have H5 : Hid (∀ w, _) := fun w => T5 w p5 q5
  clear T9 T5 T1
  have b9 : 0 ≤ n9 ∧ n9 < 1000000000 ∧ -1099511627776 ≤ s9 ∧ s9 ≤ 1099511627776 := by omega
  have b5 : 0 ≤ n5 ∧ n5 < 1000000000 ∧ -1099511627776 ≤ s5 ∧ s5 ≤ 1099511627776 := by omega
  have B9 : Hid (_ ∧ _) := b9
  have B5 : Hid (_ ∧ _) := b5
  clear e9 g9 e5 g5 b9 b5
  go_enter Yba.func4, Yba.ntmps4
  go_wp2_with fail
  have fA : Fr (fun _ => False) w (w.alloc (Obj.cells #[Value.int IntKind.i64 0] 3)) := (Fr.refl _ w).alloc _ _
  have hA : (w.alloc (Obj.cells #[Value.int IntKind.i64 0] 3)).heap[w.heap.size]? = some (.cells #[.int .i64 0] 3) := (MapKept.heap_alloc w _).1
  obtain ⟨b1, hb1⟩ : ∃ b1, w.heap.size = b1 := ⟨_, rfl⟩
  rw [hb1] at hA ⊢
  generalize w.alloc (Obj.cells #[Value.int IntKind.i64 0] 3) = wA at fA hA ⊢
  refine (H9.out _).mono ?_
  rintro e wB ⟨rfl, fB⟩
  have hB := (fB.block b1 (row_lt hA) (fun e => e)).trans hA
  have FB : Hid (Fr (fun _ => False) w wB) := fA.trans fB
  have HB : Hid (_ = _) := hB
  clear fA fB hA hB
  go_wp2_with fail
  have fC : Fr (fun _ => False) w (wB.alloc (Obj.cells #[Value.int IntKind.u64 n9, Value.int IntKind.i64 s9, Value.pointer none] 27)) := FB.out.alloc _ _
  have hC1 : (wB.alloc (Obj.cells #[Value.int IntKind.u64 n9, Value.int IntKind.i64 s9, Value.pointer none] 27)).heap[b1]? = some (.cells #[.int .i64 0] 3) := (heap_alloc_old _ _ _ (row_lt HB.out)).trans HB.out
  have hC2 : (wB.alloc (Obj.cells #[Value.int IntKind.u64 n9, Value.int IntKind.i64 s9, Value.pointer none] 27)).heap[wB.heap.size]? = some (.cells #[.int .u64 n9, .int .i64 s9, .pointer none] 27) := (MapKept.heap_alloc wB _).1
  have n12 : b1 < wB.heap.size := row_lt HB.out
  obtain ⟨b2, hb2⟩ : ∃ b2, wB.heap.size = b2 := ⟨_, rfl⟩
  rw [hb2] at hC2 n12 ⊢
  generalize wB.alloc (Obj.cells #[Value.int IntKind.u64 n9, Value.int IntKind.i64 s9, Value.pointer none] 27) = wC at fC hC1 hC2 ⊢
  clear FB HB hb2
  refine (H5.out _).mono ?_
  rintro e wD ⟨rfl, fD⟩
  have FD : Hid (Fr (fun _ => False) w wD) := fC.trans fD
  have HD1 : Hid (wD.heap[b1]? = _) := (fD.block b1 (row_lt hC1) (fun e => e)).trans hC1
  have HD2 : Hid (wD.heap[b2]? = _) := (fD.block b2 (row_lt hC2) (fun e => e)).trans hC2
  clear fC fD hC1 hC2
  go_wp2_with fail
  have fE : Fr (fun _ => False) w ((wD.alloc (.cells #[.int .u64 n5, .int .i64 s5, .pointer none] 27)).alloc (.cells (brk a0 a1 a2 (.func (.func 12) #[] #[.pointer (some ⟨b1, 0, none⟩), .pointer (some ⟨b2, 0, none⟩)]) 0 0 n5 s5 a6 a7) 46)) := (FD.out.alloc _ _).alloc _ _
  have z1 := row_lt HD1.out
  have z2 := row_lt HD2.out
  have hE1 : ((wD.alloc (.cells #[.int .u64 n5, .int .i64 s5, .pointer none] 27)).alloc (.cells (brk a0 a1 a2 (.func (.func 12) #[] #[.pointer (some ⟨b1, 0, none⟩), .pointer (some ⟨b2, 0, none⟩)]) 0 0 n5 s5 a6 a7) 46)).heap[b1]? = some (.cells #[.int .i64 0] 3) := by
    rw [heap_alloc_old _ _ _ (by rw [World.size_alloc]; omega), heap_alloc_old _ _ _ z1]; exact HD1.out
  have hE2 : ((wD.alloc (.cells #[.int .u64 n5, .int .i64 s5, .pointer none] 27)).alloc (.cells (brk a0 a1 a2 (.func (.func 12) #[] #[.pointer (some ⟨b1, 0, none⟩), .pointer (some ⟨b2, 0, none⟩)]) 0 0 n5 s5 a6 a7) 46)).heap[b2]? = some (.cells #[.int .u64 n9, .int .i64 s9, .pointer none] 27) := by
    rw [heap_alloc_old _ _ _ (by rw [World.size_alloc]; omega), heap_alloc_old _ _ _ z2]; exact HD2.out
  have hE3 : ((wD.alloc (.cells #[.int .u64 n5, .int .i64 s5, .pointer none] 27)).alloc (.cells (brk a0 a1 a2 (.func (.func 12) #[] #[.pointer (some ⟨b1, 0, none⟩), .pointer (some ⟨b2, 0, none⟩)]) 0 0 n5 s5 a6 a7) 46)).heap[wD.heap.size]? = some (.cells #[.int .u64 n5, .int .i64 s5, .pointer none] 27) := by
    rw [heap_alloc_old _ _ _ (by rw [World.size_alloc]; omega)]; exact (MapKept.heap_alloc wD _).1
  have hE : ((wD.alloc (.cells #[.int .u64 n5, .int .i64 s5, .pointer none] 27)).alloc (.cells (brk a0 a1 a2 (.func (.func 12) #[] #[.pointer (some ⟨b1, 0, none⟩), .pointer (some ⟨b2, 0, none⟩)]) 0 0 n5 s5 a6 a7) 46)).heap[wD.heap.size + 1]? = some (.cells (brk a0 a1 a2 (.func (.func 12) #[] #[.pointer (some ⟨b1, 0, none⟩), .pointer (some ⟨b2, 0, none⟩)]) 0 0 n5 s5 a6 a7) 46) := by
    have := (MapKept.heap_alloc (wD.alloc (.cells #[.int .u64 n5, .int .i64 s5, .pointer none] 27)) (.cells (brk a0 a1 a2 (.func (.func 12) #[] #[.pointer (some ⟨b1, 0, none⟩), .pointer (some ⟨b2, 0, none⟩)]) 0 0 n5 s5 a6 a7) 46)).1
    rw [World.size_alloc] at this
    exact this
  have zw : w.heap.size ≤ wD.heap.size := FD.out.size
  obtain ⟨b3, hb3⟩ : ∃ b3, wD.heap.size = b3 := ⟨_, rfl⟩
  rw [hb3] at hE3 hE z1 z2 zw ⊢
  change Calls Yba.prog 7 #[Value.pointer (some ⟨b3 + 1, 6, none⟩), Value.int IntKind.u64 a3] ((wD.alloc (.cells #[.int .u64 n5, .int .i64 s5, .pointer none] 27)).alloc (.cells (brk a0 a1 a2 (.func (.func 12) #[] #[.pointer (some ⟨b1, 0, none⟩), .pointer (some ⟨b2, 0, none⟩)]) 0 0 n5 s5 a6 a7) 46)) _
  generalize (wD.alloc (.cells #[.int .u64 n5, .int .i64 s5, .pointer none] 27)).alloc (.cells (brk a0 a1 a2 (.func (.func 12) #[] #[.pointer (some ⟨b1, 0, none⟩), .pointer (some ⟨b2, 0, none⟩)]) 0 0 n5 s5 a6 a7) 46) = wE at fE hE1 hE2 hE3 hE ⊢
  obtain ⟨b, hb⟩ : ∃ b, b3 + 1 = b := ⟨_, rfl⟩
  rw [hb] at hE ⊢
  clear FD HD1 HD2 hb3
  refine (store64_any b 6 _ a3 _ (row_cell hE 6).1 (row_cell hE 6).2).mono ?_
  rintro e wF ⟨rfl, rfl⟩
  go_wp2_with fail
  have hF := heap_set_own _ b 6 (.int .u64 a3) _ _ hE
  refine (storeI_any b 7 _ a4 _ (row_cell hF 7).1 (row_cell hF 7).2).mono ?_
  rintro e wG ⟨rfl, rfl⟩
  have nb1 : b ≠ b1 := by omega
  have nb2 : b ≠ b2 := by omega
  have nb3 : b ≠ b3 := by omega
  have HG : Hid (((wE.setCell ⟨b, 6, none⟩ (.int .u64 a3)).setCell ⟨b, 7, none⟩ (.int .i64 a4)).heap[b]? = some (.cells (brk a0 a1 a2 (.func (.func 12) #[] #[.pointer (some ⟨b1, 0, none⟩), .pointer (some ⟨b2, 0, none⟩)]) a3 a4 n5 s5 a6 a7) 46)) := heap_set_own _ b 7 (.int .i64 a4) _ _ hF
  have HG1 : Hid (((wE.setCell ⟨b, 6, none⟩ (.int .u64 a3)).setCell ⟨b, 7, none⟩ (.int .i64 a4)).heap[b1]? = some (.cells #[.int .i64 0] 3)) := ((heap_set_other _ _ _ _ _ (Ne.symm nb1)).trans (heap_set_other _ _ _ _ _ (Ne.symm nb1))).trans hE1
  have HG2 : Hid (((wE.setCell ⟨b, 6, none⟩ (.int .u64 a3)).setCell ⟨b, 7, none⟩ (.int .i64 a4)).heap[b2]? = some (.cells #[.int .u64 n9, .int .i64 s9, .pointer none] 27)) := ((heap_set_other _ _ _ _ _ (Ne.symm nb2)).trans (heap_set_other _ _ _ _ _ (Ne.symm nb2))).trans hE2
  have HG3 : Hid (((wE.setCell ⟨b, 6, none⟩ (.int .u64 a3)).setCell ⟨b, 7, none⟩ (.int .i64 a4)).heap[b3]? = some (.cells #[.int .u64 n5, .int .i64 s5, .pointer none] 27)) := ((heap_set_other _ _ _ _ _ (Ne.symm nb3)).trans (heap_set_other _ _ _ _ _ (Ne.symm nb3))).trans hE3
  have FG : Hid (Fr (fun j => j = b ∨ j = b1) w ((wE.setCell ⟨b, 6, none⟩ (.int .u64 a3)).setCell ⟨b, 7, none⟩ (.int .i64 a4))) := ((fE.mono (fun j hj => hj.elim)).set 6 _ (Or.inl rfl)).set 7 _ (Or.inl rfl)
  generalize (wE.setCell ⟨b, 6, none⟩ (.int .u64 a3)).setCell ⟨b, 7, none⟩ (.int .i64 a4) = wH at HG HG1 HG2 HG3 FG ⊢
  clear fE hE hF hE1 hE2 hE3
  go_wp2_with fail
  refine (next_any a3 st _ p3 (by omega) (by omega) (by omega)).mono ?_
  rintro e wI ⟨rfl, rfl⟩
  obtain ⟨P, hP⟩ : ∃ P, nx a3 st = P := ⟨_, rfl⟩
  rw [hP]
  go_wp2_with fail
  by_cases c1 : st = 1
  · subst c1
    refine (enter_1 b b1 b2 a0 a1 a2 a3 a4 n5 s5 a6 a7 0 n9 s9 _ HG.out p3 (by omega) HG1.out HG2.out nb1 nb2 (by omega) (by omega) (by omega) B9.out.1 B9.out.2.1 B9.out.2.2.1 B9.out.2.2.2 p1 q1).mono ?_
    rintro e wI ⟨rfl, hI, hI1, fI⟩
    rw [hP] at hI
    have hI2 := (fI.block b2 (row_lt HG2.out) (fun e => by rcases e with e | e <;> omega)).trans HG2.out
    have GI : Hid (Grown w wI) := (FG.out.trans fI).grown w (Grown.refl w) (fun j hj => by rcases hj with e | e <;> omega)
    obtain ⟨k0, k1, k2, -, k6, k7, k8, k9, k10, k11, k12, -⟩ := brk_cells hI
    obtain ⟨NN, hNN⟩ : ∃ NN, (n9 + a1) % 1000000000 = NN := ⟨_, rfl⟩
    obtain ⟨EE, hEE⟩ : ∃ EE, s9 + (n9 + a1) / 1000000000 = EE := ⟨_, rfl⟩
    have bN : 0 ≤ NN ∧ NN < 1000000000 := by omega
    have TA := fun w => add_any n9 s9 a1 w B9.out.1 B9.out.2.1 B9.out.2.2.1 B9.out.2.2.2 p1 q1
    rw [hNN] at k8
    rw [hEE] at k9
    simp only [hNN, hEE] at TA
    have HA : Hid (∀ w, _) := TA
    clear TA hNN hEE
    have m1 := (row_cell hI1 0).1
    have j0 := (row_cell hI2 0).1
    have j1 := (row_cell hI2 1).1
    have j2 := (row_cell hI2 2).1
    simp at m1 j0 j1 j2
    have lb := row_lt hI
    have lb1 := row_lt hI1
    have lb2 := row_lt hI2
    clear HG HG1 HG2 HG3 FG fI hI hI1 hI2
    go_wp2_with fail
    refine (loadI_any b 7 0 _ k7).mono ?_
    rintro e wJ ⟨rfl, rfl⟩
    go_wp2_with fail
    refine (load64_any b 6 P _ k6).mono ?_
    rintro e wJ ⟨rfl, rfl⟩
    go_wp2_with fail
    go_region_law (first | (go_simp; go_at_call 6; refine (HA.out _).mono ?_; rintro e wz ⟨rfl, rfl⟩) | (go_simp; go_at_call 15; refine (equal_any NN EE _ bN.1 bN.2).mono ?_; rintro e wz ⟨rfl, rfl⟩))
    all_goals
      go_wp2
      go_ret
      exact ⟨rfl, ((((GI.out.alloc _ _).alloc _ _).alloc _ _).alloc _ _).drew⟩
  · have cst : st = 0 ∨ st = 2 := by omega
    have d1 : (st == 1) = false := beq_eq_false_iff_ne.2 c1
    refine (enter_ne b st a0 a1 a2 _ a3 a4 n5 s5 a6 a7 _ HG.out p3 (by omega) cst).mono ?_
    rintro e wI ⟨rfl, hI, fI⟩
    rw [hP] at hI
    have hI1 := (fI.block b1 (row_lt HG1.out) (fun e => by omega)).trans HG1.out
    have hI3 := (fI.block b3 (row_lt HG3.out) (fun e => by omega)).trans HG3.out
    have GI : Hid (Grown w wI) := (FG.out.trans (fI.mono (fun j hj => Or.inl hj))).grown w (Grown.refl w) (fun j hj => by rcases hj with e | e <;> omega)
    obtain ⟨k0, k1, k2, -, k6, k7, k8, k9, k10, k11, k12, -⟩ := brk_cells hI
    have m1 := (row_cell hI1 0).1
    have j0 := (row_cell hI3 0).1
    have j1 := (row_cell hI3 1).1
    have j2 := (row_cell hI3 2).1
    simp at m1 j0 j1 j2
    have lb := row_lt hI
    have lb1 := row_lt hI1
    have lb3 := row_lt hI3
    clear HG HG1 HG2 HG3 FG fI hI hI1 hI3
    go_wp2_with fail
    refine (loadI_any b 7 0 _ k7).mono ?_
    rintro e wJ ⟨rfl, rfl⟩
    go_wp2_with fail
    refine (load64_any b 6 P _ k6).mono ?_
    rintro e wJ ⟨rfl, rfl⟩
    go_wp2_with fail
    clear cst c1 d1 hP k0 k1 k2 k6 k7 k11 k12 nb1 nb2 nb3
    go_region_law (first | (go_simp; go_at_call 15; refine (equal_any n5 s5 _ B5.out.1 B5.out.2.1).mono ?_; rintro e wz ⟨rfl, rfl⟩))
    all_goals
      go_wp2
      go_ret
      exact ⟨rfl, ((GI.out.alloc _ _).alloc _ _).drew⟩
end Go.Proofs.Ybulkdncy
