/- WALK: LawS5705AWhole. -/
import Derived.Test.YbulkdncyAW0
import Derived.OpenShut
namespace Go.Proofs.Ybulkdncy
open Go.RowKit


set_option maxHeartbeats 4000000 in
set_option maxRecDepth 100000 in
theorem awhole_go (a0 a1 a2 a3 a4 a5 a6 a7 a8 a9 g st : Int) (w0 : (Lit.int .u64 a0).wf = true) (w1 : (Lit.int .u8 a1).wf = true) (w2 : (Lit.int .i64 a2).wf = true) (w3 : (Lit.int .i64 a3).wf = true) (w : World) (hg : a0 % 4611686018427387904 = g) (hlt : ¬ a2 < a3) (hst : st = 1) (hc : a1 % 4 = 1 ∨ a1 % 4 = 3) :
    Calls Yba.prog 3 #[.int .u64 a0, .int .u8 a1, .int .i64 a2, .int .i64 a3, .int .i64 a4, .int .i64 a5, .int .i64 a6, .int .i64 a7, .int .i64 a8, .int .i64 a9] w fun e w' => e = .returned (.bool true) ∧ Grown w w' := by
  obtain ⟨p0, q0⟩ := bounds_u64 w0
  obtain ⟨p1, q1⟩ := bounds_u8 w1
  obtain ⟨p2, q2⟩ := bounds_i64 w2
  obtain ⟨p3, q3⟩ := bounds_i64 w3
  have e1 := and62 a0 p0 (by omega)
  rw [hg] at e1
  have g0 : 0 ≤ g := by omega
  have g1 : g < 4611686018427387904 := by omega
  clear hg w0 w1 w2 w3
  have eO := or4 g st g0 (by omega) (by omega) (by omega)
  obtain ⟨PH, hPH⟩ : ∃ PH, g * 4 + st = PH := ⟨_, rfl⟩
  rw [hPH] at eO
  have bP : 0 ≤ PH ∧ PH < 18446744073709551616 ∧ PH % 4 = st := by omega
  have BP : Hid (_ ∧ _) := bP
  have TA := time_add a3
  obtain ⟨n5, e5⟩ : ∃ n5, a3 % 1000000000 = n5 := ⟨_, rfl⟩
  obtain ⟨s5, g5⟩ : ∃ s5, a3 / 1000000000 = s5 := ⟨_, rfl⟩
  rw [e5, g5] at TA
  have H5 : Hid (∀ w, _) := fun w => TA w p3 q3
  clear TA bP
  have E5 : Hid (_ = _) := e5
  have G5 : Hid (_ = _) := g5
  have d1 : a3 ≤ a2 := by omega
  obtain ⟨Q, hQ⟩ : ∃ Q, (g + 1) * 4 % 18446744073709551616 = Q := ⟨_, rfl⟩
  have y0 : 0 ≤ Q := by omega
  have y1 : Q ≤ 18446744073709551612 := by omega
  have u1 : IntKind.u64.wrap ((g + 1) * 4) = Q := by rw [IntKind.wrap_u64]; exact hQ
  have NX : Hid (nx PH 2 = Q + 2) := (by unfold nx; omega : nx PH 2 = Q + 2)
  clear e5 g5 hPH hQ
  subst hst
  rcases hc with c | c
  all_goals
    go_enter Yba.func3, Yba.ntmps3
    go_wp2_with fail
    have fA : Fr (fun _ => False) w ((w.alloc (Obj.cells #[Value.int IntKind.i64 a2] 2)).alloc (Obj.cells #[Value.int IntKind.i64 0] 3)) := ((Fr.refl _ w).alloc _ _).alloc _ _
    have hA2 : ((w.alloc (Obj.cells #[Value.int IntKind.i64 a2] 2)).alloc (Obj.cells #[Value.int IntKind.i64 0] 3)).heap[w.heap.size]? = some (.cells #[.int .i64 a2] 2) := (heap_alloc_old _ _ _ (by rw [World.size_alloc]; omega)).trans (MapKept.heap_alloc w _).1
    have hA1 : ((w.alloc (Obj.cells #[Value.int IntKind.i64 a2] 2)).alloc (Obj.cells #[Value.int IntKind.i64 0] 3)).heap[w.heap.size + 1]? = some (.cells #[.int .i64 0] 3) := by
      have := (MapKept.heap_alloc (w.alloc (Obj.cells #[Value.int IntKind.i64 a2] 2)) (Obj.cells #[Value.int IntKind.i64 0] 3)).1
      rw [World.size_alloc] at this
      exact this
    obtain ⟨b2, hb2⟩ : ∃ b2, w.heap.size = b2 := ⟨_, rfl⟩
    rw [hb2] at hA1 hA2 ⊢
    obtain ⟨b1, hb1⟩ : ∃ b1, b2 + 1 = b1 := ⟨_, rfl⟩
    rw [hb1] at hA1 ⊢
    generalize ((w.alloc (Obj.cells #[Value.int IntKind.i64 a2] 2)).alloc (Obj.cells #[Value.int IntKind.i64 0] 3)) = wA at fA hA1 hA2 ⊢
    refine (H5.out _).mono ?_
    rintro e wB ⟨rfl, fB⟩
    have FB : Hid (Fr (fun _ => False) w wB) := fA.trans fB
    have HB1 : Hid (wB.heap[b1]? = _) := (fB.block b1 (row_lt hA1) (fun e => e)).trans hA1
    have HB2 : Hid (wB.heap[b2]? = _) := (fB.block b2 (row_lt hA2) (fun e => e)).trans hA2
    clear fA fB hA1 hA2
    go_wp2_with fail
    have fE : Fr (fun _ => False) w ((wB.alloc (.cells #[.int .u64 n5, .int .i64 s5, .pointer none] 27)).alloc (.cells (brk a7 a9 a8 (.func (.func 5) #[] #[.pointer (some ⟨b1, 0, none⟩), .pointer (some ⟨b2, 0, none⟩)]) 0 0 n5 s5 a5 a6) 46)) := (FB.out.alloc _ _).alloc _ _
    have z1 := row_lt HB1.out
    have z2 := row_lt HB2.out
    have hE1 : ((wB.alloc (.cells #[.int .u64 n5, .int .i64 s5, .pointer none] 27)).alloc (.cells (brk a7 a9 a8 (.func (.func 5) #[] #[.pointer (some ⟨b1, 0, none⟩), .pointer (some ⟨b2, 0, none⟩)]) 0 0 n5 s5 a5 a6) 46)).heap[b1]? = some (.cells #[.int .i64 0] 3) := by
      rw [heap_alloc_old _ _ _ (by rw [World.size_alloc]; omega), heap_alloc_old _ _ _ z1]; exact HB1.out
    have hE2 : ((wB.alloc (.cells #[.int .u64 n5, .int .i64 s5, .pointer none] 27)).alloc (.cells (brk a7 a9 a8 (.func (.func 5) #[] #[.pointer (some ⟨b1, 0, none⟩), .pointer (some ⟨b2, 0, none⟩)]) 0 0 n5 s5 a5 a6) 46)).heap[b2]? = some (.cells #[.int .i64 a2] 2) := by
      rw [heap_alloc_old _ _ _ (by rw [World.size_alloc]; omega), heap_alloc_old _ _ _ z2]; exact HB2.out
    have hE3 : ((wB.alloc (.cells #[.int .u64 n5, .int .i64 s5, .pointer none] 27)).alloc (.cells (brk a7 a9 a8 (.func (.func 5) #[] #[.pointer (some ⟨b1, 0, none⟩), .pointer (some ⟨b2, 0, none⟩)]) 0 0 n5 s5 a5 a6) 46)).heap[wB.heap.size]? = some (.cells #[.int .u64 n5, .int .i64 s5, .pointer none] 27) := by
      rw [heap_alloc_old _ _ _ (by rw [World.size_alloc]; omega)]; exact (MapKept.heap_alloc wB _).1
    have hE : ((wB.alloc (.cells #[.int .u64 n5, .int .i64 s5, .pointer none] 27)).alloc (.cells (brk a7 a9 a8 (.func (.func 5) #[] #[.pointer (some ⟨b1, 0, none⟩), .pointer (some ⟨b2, 0, none⟩)]) 0 0 n5 s5 a5 a6) 46)).heap[wB.heap.size + 1]? = some (.cells (brk a7 a9 a8 (.func (.func 5) #[] #[.pointer (some ⟨b1, 0, none⟩), .pointer (some ⟨b2, 0, none⟩)]) 0 0 n5 s5 a5 a6) 46) := by
      have := (MapKept.heap_alloc (wB.alloc (.cells #[.int .u64 n5, .int .i64 s5, .pointer none] 27)) (.cells (brk a7 a9 a8 (.func (.func 5) #[] #[.pointer (some ⟨b1, 0, none⟩), .pointer (some ⟨b2, 0, none⟩)]) 0 0 n5 s5 a5 a6) 46)).1
      rw [World.size_alloc] at this
      exact this
    have zw : w.heap.size ≤ wB.heap.size := FB.out.size
    obtain ⟨b3, hb3⟩ : ∃ b3, wB.heap.size = b3 := ⟨_, rfl⟩
    rw [hb3] at hE3 hE z1 z2 zw ⊢
    change Calls Yba.prog 7 #[Value.pointer (some ⟨b3 + 1, 6, none⟩), Value.int IntKind.u64 PH] ((wB.alloc (.cells #[.int .u64 n5, .int .i64 s5, .pointer none] 27)).alloc (.cells (brk a7 a9 a8 (.func (.func 5) #[] #[.pointer (some ⟨b1, 0, none⟩), .pointer (some ⟨b2, 0, none⟩)]) 0 0 n5 s5 a5 a6) 46)) _
    generalize ((wB.alloc (.cells #[.int .u64 n5, .int .i64 s5, .pointer none] 27)).alloc (.cells (brk a7 a9 a8 (.func (.func 5) #[] #[.pointer (some ⟨b1, 0, none⟩), .pointer (some ⟨b2, 0, none⟩)]) 0 0 n5 s5 a5 a6) 46)) = wE at fE hE1 hE2 hE3 hE ⊢
    obtain ⟨b, hb⟩ : ∃ b, b3 + 1 = b := ⟨_, rfl⟩
    rw [hb] at hE ⊢
    clear FB HB1 HB2 hb3
    refine (store64_any b 6 _ PH _ (row_cell hE 6).1 (row_cell hE 6).2).mono ?_
    rintro e wF ⟨rfl, rfl⟩
    go_wp2_with fail
    have hF := heap_set_own _ b 6 (.int .u64 PH) _ _ hE
    refine (storeI_any b 7 _ a4 _ (row_cell hF 7).1 (row_cell hF 7).2).mono ?_
    rintro e wG ⟨rfl, rfl⟩
    have nb1 : b ≠ b1 := by omega
    have nb2 : b ≠ b2 := by omega
    have nb3 : b ≠ b3 := by omega
    have HG : Hid (((wE.setCell ⟨b, 6, none⟩ (.int .u64 PH)).setCell ⟨b, 7, none⟩ (.int .i64 a4)).heap[b]? = some (.cells (brk a7 a9 a8 (.func (.func 5) #[] #[.pointer (some ⟨b1, 0, none⟩), .pointer (some ⟨b2, 0, none⟩)]) PH a4 n5 s5 a5 a6) 46)) := heap_set_own _ b 7 (.int .i64 a4) _ _ hF
    have HG1 : Hid (((wE.setCell ⟨b, 6, none⟩ (.int .u64 PH)).setCell ⟨b, 7, none⟩ (.int .i64 a4)).heap[b1]? = some (.cells #[.int .i64 0] 3)) := ((heap_set_other _ _ _ _ _ (Ne.symm nb1)).trans (heap_set_other _ _ _ _ _ (Ne.symm nb1))).trans hE1
    have HG2 : Hid (((wE.setCell ⟨b, 6, none⟩ (.int .u64 PH)).setCell ⟨b, 7, none⟩ (.int .i64 a4)).heap[b2]? = some (.cells #[.int .i64 a2] 2)) := ((heap_set_other _ _ _ _ _ (Ne.symm nb2)).trans (heap_set_other _ _ _ _ _ (Ne.symm nb2))).trans hE2
    have HG3 : Hid (((wE.setCell ⟨b, 6, none⟩ (.int .u64 PH)).setCell ⟨b, 7, none⟩ (.int .i64 a4)).heap[b3]? = some (.cells #[.int .u64 n5, .int .i64 s5, .pointer none] 27)) := ((heap_set_other _ _ _ _ _ (Ne.symm nb3)).trans (heap_set_other _ _ _ _ _ (Ne.symm nb3))).trans hE3
    have FG : Hid (Fr (fun j => j = b ∨ j = b1) w ((wE.setCell ⟨b, 6, none⟩ (.int .u64 PH)).setCell ⟨b, 7, none⟩ (.int .i64 a4))) := ((fE.mono (fun j hj => hj.elim)).set 6 _ (Or.inl rfl)).set 7 _ (Or.inl rfl)
    generalize ((wE.setCell ⟨b, 6, none⟩ (.int .u64 PH)).setCell ⟨b, 7, none⟩ (.int .i64 a4)) = wH at HG HG1 HG2 HG3 FG ⊢
    clear fE hE hF hE1 hE2 hE3
    go_wp2_with fail
    refine (half_go b b1 b2 a7 a9 a8 PH a4 a3 a5 a6 0 a2 _ (by rw [E5.out, G5.out]; exact HG.out) BP.out.1 BP.out.2.1 BP.out.2.2 HG1.out HG2.out nb1 (by omega) (by omega) (by omega) p2 q2 (by omega)).mono ?_
    rintro e wI ⟨rfl, hI, hI1, fI⟩
    rw [NX.out, E5.out, G5.out] at hI
    have hI2 := (fI.block b2 (row_lt HG2.out) (fun e => by rcases e with e | e <;> omega)).trans HG2.out
    have hI3 := (fI.block b3 (row_lt HG3.out) (fun e => by rcases e with e | e <;> omega)).trans HG3.out
    have GI : Hid (Grown w wI) := (FG.out.trans fI).grown w (Grown.refl w) (fun j hj => by rcases hj with e | e <;> omega)
    obtain ⟨k0, k1, k2, -, k6, k7, k8, k9, k10, k11, k12, -⟩ := brk_cells hI
    have m1 := (row_cell hI1 0).1
    have m2 := (row_cell hI2 0).1
    have j0 := (row_cell hI3 0).1
    have j1 := (row_cell hI3 1).1
    have j2 := (row_cell hI3 2).1
    simp at m1 m2 j0 j1 j2
    clear HG HG1 HG2 HG3 FG fI hI hI1 hI2 hI3
    go_wp2_with fail
    have eq := eq25
    go_region
    clear eq
    go_wp2_with fail
    refine (load64_any b 6 _ _ (by exact k6)).mono ?_
    rintro e wJ ⟨rfl, rfl⟩
    go_wp2_with fail
    refine (loadI_any b 7 _ _ (by exact k7)).mono ?_
    rintro e wJ ⟨rfl, rfl⟩
    go_wp2_with fail
    go_ret
    exact ⟨rfl, GI.out.drew⟩
end Go.Proofs.Ybulkdncy
