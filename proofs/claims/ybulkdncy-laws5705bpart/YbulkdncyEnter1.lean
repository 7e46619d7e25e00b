/- WALK: (*Breaker).enter into 'open': it asks the clock. -/
import Derived.Test.YbulkdncyEnter
namespace Go.Proofs.Ybulkdncy
open Go.RowKit

set_option maxHeartbeats 2000000 in
set_option maxRecDepth 100000 in
theorem enter_1 (b b1 b2 : Nat) (c0 c1 c2 : Int) (ph fl wl ex po pk k n s : Int) (w : World) (h : w.heap[b]? = some (.cells (brk c0 c1 c2 (.func (.func 12) #[] #[.pointer (some ⟨b1, 0, none⟩), .pointer (some ⟨b2, 0, none⟩)]) ph fl wl ex po pk) 46)) (h0 : 0 ≤ ph) (h1 : ph < 18446744073709551616)
    (g1 : w.heap[b1]? = some (.cells #[.int .i64 k] 3)) (g2 : w.heap[b2]? = some (.cells #[.int .u64 n, .int .i64 s, .pointer none] 27)) (n1 : b ≠ b1) (n2 : b ≠ b2) (n3 : b1 ≠ b2) (hk : 0 ≤ k) (hk1 : k < 1000)
    (hn : 0 ≤ n) (hn1 : n < 1000000000) (hs : -1099511627776 ≤ s) (hs1 : s ≤ 1099511627776) (hd : -9223372036854775808 ≤ c1) (hd1 : c1 ≤ 9223372036854775807) :
    Calls Yba.prog 14 #[.pointer (some ⟨b, 0, none⟩), .int .i64 1] w fun e w' => e = .returned (.tuple #[]) ∧ w'.heap[b]? = some (.cells (brk c0 c1 c2 (.func (.func 12) #[] #[.pointer (some ⟨b1, 0, none⟩), .pointer (some ⟨b2, 0, none⟩)]) (nx ph 1) 0 ((n + c1) % 1000000000) (s + (n + c1) / 1000000000) 0 0) 46) ∧
      w'.heap[b1]? = some (.cells #[.int .i64 (k + 1)] 3) ∧ Fr (fun j => j = b ∨ j = b1) w w' := by
  obtain ⟨-, -, -, -, k6, k7, -, -, -, k11, k12, kf⟩ := brk_cells h
  have f7 := kf 7
  have f11 := kf 11
  have f12 := kf 12
  clear kf k6
  have hb := row_lt h
  have H : Hid (_ = _) := h
  have G1 : Hid (_ = _) := g1
  have G2 : Hid (_ = _) := g2
  clear h g1 g2
  go_enter Yba.func14, Yba.ntmps14
  go_wp2_with fail
  refine (storeI_any b 7 _ 0 _ k7 f7).mono ?_
  rintro e w' ⟨rfl, rfl⟩
  go_wp2_with fail
  have fr : Fr (fun j => j = b ∨ j = b1) w (((w.setCell ⟨b, 7, none⟩ (.int .i64 0)).setCell ⟨b, 11, none⟩ (.int .i64 0)).setCell ⟨b, 12, none⟩ (.int .i64 0)) := (((Fr.refl _ w).set 7 _ (Or.inl rfl)).set 11 _ (Or.inl rfl)).set 12 _ (Or.inl rfl)
  have FR : Hid (Fr (fun j => j = b ∨ j = b1) w _) := fr
  have hh : (((w.setCell ⟨b, 7, none⟩ (.int .i64 0)).setCell ⟨b, 11, none⟩ (.int .i64 0)).setCell ⟨b, 12, none⟩ (.int .i64 0)).heap[b]? = some (.cells (brk c0 c1 c2 (.func (.func 12) #[] #[.pointer (some ⟨b1, 0, none⟩), .pointer (some ⟨b2, 0, none⟩)]) ph 0 wl ex 0 0) 46) :=
    heap_set_own _ _ _ _ _ _ (heap_set_own _ _ _ _ _ _ (heap_set_own _ _ _ _ _ _ H.out))
  have hh1 : (((w.setCell ⟨b, 7, none⟩ (.int .i64 0)).setCell ⟨b, 11, none⟩ (.int .i64 0)).setCell ⟨b, 12, none⟩ (.int .i64 0)).heap[b1]? = some (.cells #[.int .i64 k] 3) := by
    rw [heap_set_other _ _ _ _ _ (Ne.symm n1), heap_set_other _ _ _ _ _ (Ne.symm n1), heap_set_other _ _ _ _ _ (Ne.symm n1)]; exact G1.out
  have hh2 : (((w.setCell ⟨b, 7, none⟩ (.int .i64 0)).setCell ⟨b, 11, none⟩ (.int .i64 0)).setCell ⟨b, 12, none⟩ (.int .i64 0)).heap[b2]? = some (.cells #[.int .u64 n, .int .i64 s, .pointer none] 27) := by
    rw [heap_set_other _ _ _ _ _ (Ne.symm n2), heap_set_other _ _ _ _ _ (Ne.symm n2), heap_set_other _ _ _ _ _ (Ne.symm n2)]; exact G2.out
  have HH : Hid (_ = _) := hh
  have HH1 : Hid (_ = _) := hh1
  have HH2 : Hid (_ = _) := hh2
  clear fr hh hh1 hh2 k7 k11 k12 f7 f11 f12 H G1 G2
  generalize (((w.setCell ⟨b, 7, none⟩ (.int .i64 0)).setCell ⟨b, 11, none⟩ (.int .i64 0)).setCell ⟨b, 12, none⟩ (.int .i64 0)) = W at FR HH HH1 HH2 ⊢
  obtain ⟨-, k1, -, k3, -, -, -, -, -, -, -, -⟩ := brk_cells HH.out
  have hbW := row_lt HH.out
  go_region_law (first | (go_simp; go_at_call 12; refine (fn12_any b1 b2 k n s _ (by exact HH1.out) (by exact HH2.out) n3 hk hk1).mono ?_; rintro e wx ⟨rfl, x1, xf⟩; have X1 : Hid (_ = _) := x1; have XF : Hid (Fr (fun j => j = b ∨ j = b1) w wx) := (FR.out.drew.trans (xf.mono (fun j hj => Or.inr hj))); have XH : Hid (_ = _) := ((xf.block b (by exact hbW) (fun e => n1 e)).trans HH.out); have lx := row_lt XH.out; obtain ⟨-, m1, -, -, -, -, m8, m9, m10, -, -, mf⟩ := brk_cells XH.out; have mf8 := mf 8; have mf9 := mf 9; have mf10 := mf 10; clear mf xf x1) | (go_simp; go_at_call 6; refine (add_any n s c1 _ hn hn1 hs hs1 hd hd1).mono ?_; rintro e wy ⟨rfl, rfl⟩))
  all_goals
    go_wp2_with fail
    have z1 : ∀ (u : World) (o : Obj) (j : Nat), j < u.heap.size → (u.alloc o).heap[j]? = u.heap[j]? := heap_alloc_old
    have fr : Fr (fun j => j = b ∨ j = b1) w ((((((wx.setCell ⟨b, 8, none⟩ (.int .u64 ((n + c1) % 1000000000))).setCell ⟨b, 9, none⟩ (.int .i64 (s + (n + c1) / 1000000000))).setCell ⟨b, 10, none⟩ (.pointer none)).alloc (.cells #[.int .u64 ((n + c1) % 1000000000), .int .i64 (s + (n + c1) / 1000000000), .pointer none] 27)).alloc (.cells #[.int .u64 ((n + c1) % 1000000000), .int .i64 (s + (n + c1) / 1000000000), .pointer none] 27))) := ((((XF.out.set 8 _ (Or.inl rfl)).set 9 _ (Or.inl rfl)).set 10 _ (Or.inl rfl)).alloc _ _).alloc _ _
    have hh : (((((((wx.setCell ⟨b, 8, none⟩ (.int .u64 ((n + c1) % 1000000000))).setCell ⟨b, 9, none⟩ (.int .i64 (s + (n + c1) / 1000000000))).setCell ⟨b, 10, none⟩ (.pointer none)).alloc (.cells #[.int .u64 ((n + c1) % 1000000000), .int .i64 (s + (n + c1) / 1000000000), .pointer none] 27)).alloc (.cells #[.int .u64 ((n + c1) % 1000000000), .int .i64 (s + (n + c1) / 1000000000), .pointer none] 27)))).heap[b]? = some (.cells (brk c0 c1 c2 (.func (.func 12) #[] #[.pointer (some ⟨b1, 0, none⟩), .pointer (some ⟨b2, 0, none⟩)]) ph 0 ((n + c1) % 1000000000) (s + (n + c1) / 1000000000) 0 0) 46) := by
      rw [z1 _ _ _ (by rw [World.size_alloc, size_set, size_set, size_set]; omega), z1 _ _ _ (by rw [size_set, size_set, size_set]; omega)]
      exact heap_set_own _ _ _ _ _ _ (heap_set_own _ _ _ _ _ _ (heap_set_own _ _ _ _ _ _ XH.out))
    have l1 := row_lt X1.out
    have hh1 : (((((((wx.setCell ⟨b, 8, none⟩ (.int .u64 ((n + c1) % 1000000000))).setCell ⟨b, 9, none⟩ (.int .i64 (s + (n + c1) / 1000000000))).setCell ⟨b, 10, none⟩ (.pointer none)).alloc (.cells #[.int .u64 ((n + c1) % 1000000000), .int .i64 (s + (n + c1) / 1000000000), .pointer none] 27)).alloc (.cells #[.int .u64 ((n + c1) % 1000000000), .int .i64 (s + (n + c1) / 1000000000), .pointer none] 27)))).heap[b1]? = some (.cells #[.int .i64 (k + 1)] 3) := by
      rw [z1 _ _ _ (by rw [World.size_alloc, size_set, size_set, size_set]; omega), z1 _ _ _ (by rw [size_set, size_set, size_set]; omega), heap_set_other _ _ _ _ _ (Ne.symm n1), heap_set_other _ _ _ _ _ (Ne.symm n1), heap_set_other _ _ _ _ _ (Ne.symm n1)]
      exact X1.out
    have FR2 : Hid (Fr (fun j => j = b ∨ j = b1) w _) := fr
    have H2 : Hid (_ = _) := hh
    have H21 : Hid (_ = _) := hh1
    clear fr hh hh1 z1 l1 X1 XF XH m1 m8 m9 m10 mf8 mf9 mf10 lx FR HH HH1 HH2 k1 k3
    generalize ((((((wx.setCell ⟨b, 8, none⟩ (.int .u64 ((n + c1) % 1000000000))).setCell ⟨b, 9, none⟩ (.int .i64 (s + (n + c1) / 1000000000))).setCell ⟨b, 10, none⟩ (.pointer none)).alloc (.cells #[.int .u64 ((n + c1) % 1000000000), .int .i64 (s + (n + c1) / 1000000000), .pointer none] 27)).alloc (.cells #[.int .u64 ((n + c1) % 1000000000), .int .i64 (s + (n + c1) / 1000000000), .pointer none] 27))) = W2 at FR2 H2 H21 ⊢
    go_region_law (first | (go_simp; go_at_call 22; refine (cur_any b ph _ (by exact (row_cell H2.out 6).1)).mono ?_; rintro e wz ⟨rfl, rfl⟩) | (go_simp; go_at_call 13; refine (next_any ph 1 _ h0 h1 (by omega) (by omega)).mono ?_; rintro e wz ⟨rfl, rfl⟩) | (go_simp; go_at_call 7; refine (store64_any b 6 _ (nx ph 1) _ (by exact (row_cell H2.out 6).1) (by exact (row_cell H2.out 6).2)).mono ?_; rintro e wz ⟨rfl, rfl⟩))
    all_goals
      go_end0
      exact ⟨rfl, heap_set_own _ _ _ _ _ _ H2.out, (heap_set_other _ _ _ _ _ (Ne.symm n1)).trans H21.out, FR2.out.drew.set 6 _ (Or.inl rfl)⟩
end Go.Proofs.Ybulkdncy
