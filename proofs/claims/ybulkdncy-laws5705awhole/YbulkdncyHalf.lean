/- WALKS: the closure of LawS5705AWhole; (*Breaker).halfOpenWhenDue. -/
import Derived.Test.YbulkdncyEnter
namespace Go.Proofs.Ybulkdncy
open Go.RowKit

theorem time_add (d : Int) (w : World) (h1 : -9223372036854775808 ≤ d) (h2 : d ≤ 9223372036854775807) : Calls Yba.prog 6 #[.agg #[.int .u64 0, .int .i64 0, .pointer none], .int .i64 d] w fun e w' => e = .returned (.agg #[.int .u64 (d % 1000000000), .int .i64 (d / 1000000000), .pointer none]) ∧ Fr (fun _ => False) w w' := by
  refine (add_any 0 0 d w (by omega) (by omega) (by omega) (by omega) h1 h2).mono ?_
  rintro e w' ⟨rfl, rfl⟩
  exact ⟨by simp, ((Fr.refl _ w).alloc _ _).alloc _ _⟩

theorem time_before (d u : Int) (w : World) : Calls Yba.prog 24 #[.agg #[.int .u64 (d % 1000000000), .int .i64 (d / 1000000000), .pointer none], .agg #[.int .u64 (u % 1000000000), .int .i64 (u / 1000000000), .pointer none]] w fun e w' => e = .returned (.bool (decide (d < u))) ∧ Fr (fun _ => False) w w' := by
  refine (before_any _ _ _ _ w (by omega) (by omega) (by omega) (by omega)).mono ?_
  rintro e w' ⟨rfl, rfl⟩
  refine ⟨?_, ((Fr.refl _ w).alloc _ _).alloc _ _⟩
  have : decide (d / 1000000000 < u / 1000000000 ∨ d / 1000000000 = u / 1000000000 ∧ d % 1000000000 < u % 1000000000) = decide (d < u) := decide_eq_decide.2 (by omega)
  rw [this]

set_option maxHeartbeats 1000000 in
/-- The closure of LawS5705AWhole: it counts its calls and hands back the instant. -/
theorem fn5_any (b1 b2 : Nat) (k d : Int) (w : World) (h1 : w.heap[b1]? = some (.cells #[.int .i64 k] 3)) (h2 : w.heap[b2]? = some (.cells #[.int .i64 d] 2)) (hne : b1 ≠ b2) (hk : 0 ≤ k) (hk1 : k < 1000) (hd : -9223372036854775808 ≤ d) (hd1 : d ≤ 9223372036854775807) :
    Calls Yba.prog 5 #[.pointer (some ⟨b1, 0, none⟩), .pointer (some ⟨b2, 0, none⟩)] w fun e w' => e = .returned (.agg #[.int .u64 (d % 1000000000), .int .i64 (d / 1000000000), .pointer none]) ∧ w'.heap[b1]? = some (.cells #[.int .i64 (k + 1)] 3) ∧ Fr (· = b1) w w' := by
  have c1 := (row_cell h1 0).1
  have f1 := (row_cell h1 0).2
  have d0 := (row_cell h2 0).1
  have l1 := row_lt h1
  have l2 := row_lt h2
  simp at c1 d0
  have H1 : Hid (_ = _) := h1
  clear h1 h2
  go_enter Yba.func5, Yba.ntmps5
  go_wp2_with fail
  have fA : Fr (· = b1) w ((w.setCell ⟨b1, 0, none⟩ (.int .i64 (k + 1))).alloc (.cells #[.int .u64 0, .int .i64 0, .pointer none] 27)) := ((Fr.refl (· = b1) w).set 0 _ (show b1 = b1 from rfl)).alloc _ _
  have hA1 : ((w.setCell ⟨b1, 0, none⟩ (.int .i64 (k + 1))).alloc (.cells #[.int .u64 0, .int .i64 0, .pointer none] 27)).heap[b1]? = some (.cells #[.int .i64 (k + 1)] 3) :=
    (heap_alloc_old _ _ _ (by rw [size_set]; exact l1)).trans (heap_set_own w b1 0 (.int .i64 (k + 1)) _ _ H1.out)
  have hA : ((w.setCell ⟨b1, 0, none⟩ (.int .i64 (k + 1))).alloc (.cells #[.int .u64 0, .int .i64 0, .pointer none] 27)).heap[w.heap.size]? = some (.cells #[.int .u64 0, .int .i64 0, .pointer none] 27) := by
    have := (MapKept.heap_alloc (w.setCell ⟨b1, 0, none⟩ (.int .i64 (k + 1))) (.cells #[.int .u64 0, .int .i64 0, .pointer none] 27)).1
    rw [size_set] at this
    exact this
  generalize (w.setCell ⟨b1, 0, none⟩ (.int .i64 (k + 1))).alloc (.cells #[.int .u64 0, .int .i64 0, .pointer none] 27) = wA at fA hA1 hA ⊢
  refine (time_add d _ hd hd1).mono ?_
  rintro e wB ⟨rfl, fB⟩
  have FB : Hid (Fr (· = b1) w wB) := fA.trans (fB.mono (fun j hj => hj.elim))
  have HB1 : Hid (wB.heap[b1]? = _) := (fB.block b1 (row_lt hA1) (fun e => e)).trans hA1
  have hB := (fB.block w.heap.size (row_lt hA) (fun e => e)).trans hA
  obtain ⟨r, hr⟩ : ∃ r, w.heap.size = r := ⟨_, rfl⟩
  have hr' : w.heap.size ≤ r := by omega
  have nr : r ≠ b1 := by omega
  obtain ⟨N, hN⟩ : ∃ N, d % 1000000000 = N := ⟨_, rfl⟩
  obtain ⟨E, hE⟩ : ∃ E, d / 1000000000 = E := ⟨_, rfl⟩
  rw [hr] at hB ⊢
  rw [hN, hE]
  have r0 := row_cell hB 0
  have r1 := row_cell hB 1
  have r2 := row_cell hB 2
  simp at r0 r1 r2
  obtain ⟨r0, s0⟩ := r0
  obtain ⟨r1, s1⟩ := r1
  obtain ⟨r2, s2⟩ := r2
  have HB : Hid (wB.heap[r]? = _) := hB
  have HN : Hid (_ = _) := hN
  have HE : Hid (_ = _) := hE
  clear fA fB hA1 hA hB hN hE H1 c1 d0 f1 l1 l2
  go_wp2_with fail
  have hf := heap_set_own _ r 2 (.pointer none) _ _ (heap_set_own _ r 1 (.int .i64 E) _ _ (heap_set_own wB r 0 (.int .u64 N) _ _ HB.out))
  have v0 := (row_cell hf 0).1
  have v1 := (row_cell hf 1).1
  have v2 := (row_cell hf 2).1
  simp at v0 v1 v2
  refine bodyPost_ret (v := .agg #[.int .u64 N, .int .i64 E, .pointer none]) (by simp [results, Yba.results5, go_sem, v0, v1, v2]) rfl ⟨by rw [HN.out, HE.out], ?_, ((FB.out.setNew 0 _ hr').setNew 1 _ hr').setNew 2 _ hr'⟩
  rw [heap_set_other _ _ _ _ _ (Ne.symm nr), heap_set_other _ _ _ _ _ (Ne.symm nr), heap_set_other _ _ _ _ _ (Ne.symm nr)]
  exact HB1.out
end Go.Proofs.Ybulkdncy
