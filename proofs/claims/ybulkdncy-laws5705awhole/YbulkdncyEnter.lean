/- WALK: (*Breaker).enter. -/
import Derived.Test.YbulkdncyBrk
import Derived.Deep.RegionLaw
import Derived.BigRegion
namespace Go.Proofs.Ybulkdncy
open Go.RowKit

set_option maxHeartbeats 1000000 in
/-- Into a state that is not 'open'. -/
theorem enter_ne (b : Nat) (st c0 c1 c2 : Int) (f : Value) (ph fl wl ex po pk : Int) (w : World) (h : w.heap[b]? = some (.cells (brk c0 c1 c2 f ph fl wl ex po pk) 46)) (h0 : 0 ≤ ph) (h1 : ph < 18446744073709551616) (hs : st = 0 ∨ st = 2) :
    Calls Yba.prog 14 #[.pointer (some ⟨b, 0, none⟩), .int .i64 st] w fun e w' => e = .returned (.tuple #[]) ∧ w'.heap[b]? = some (.cells (brk c0 c1 c2 f (nx ph st) 0 wl ex 0 0) 46) ∧ Fr (· = b) w w' := by
  obtain ⟨-, -, -, -, k6, k7, -, -, -, k11, k12, kf⟩ := brk_cells h
  have f7 := kf 7
  have f11 := kf 11
  have f12 := kf 12
  have f6 := kf 6
  clear kf
  have hb := row_lt h
  have H : Hid (_ = _) := h
  clear h
  have q : (st == 1) = false := beq_eq_false_iff_ne.2 (by omega)
  go_enter Yba.func14, Yba.ntmps14
  go_wp2_with fail
  refine (storeI_any b 7 _ 0 _ k7 f7).mono ?_
  rintro e w' ⟨rfl, rfl⟩
  go_wp2_with fail
  have fr : Fr (· = b) w (((w.setCell ⟨b, 7, none⟩ (.int .i64 0)).setCell ⟨b, 11, none⟩ (.int .i64 0)).setCell ⟨b, 12, none⟩ (.int .i64 0)) := (((Fr.refl (· = b) w).set 7 _ (show b = b from rfl)).set 11 _ (show b = b from rfl)).set 12 _ (show b = b from rfl)
  have FR : Hid (Fr (· = b) w _) := fr
  have hh : (((w.setCell ⟨b, 7, none⟩ (.int .i64 0)).setCell ⟨b, 11, none⟩ (.int .i64 0)).setCell ⟨b, 12, none⟩ (.int .i64 0)).heap[b]? = some (.cells (brk c0 c1 c2 f ph 0 wl ex 0 0) 46) :=
    heap_set_own _ _ _ _ _ _ (heap_set_own _ _ _ _ _ _ (heap_set_own _ _ _ _ _ _ H.out))
  have HH : Hid (_ = _) := hh
  clear fr hh k6 k7 k11 k12 f7 f11 f12 f6 H
  generalize (((w.setCell ⟨b, 7, none⟩ (.int .i64 0)).setCell ⟨b, 11, none⟩ (.int .i64 0)).setCell ⟨b, 12, none⟩ (.int .i64 0)) = W at FR HH ⊢
  go_region_law (first | (go_simp; go_at_call 22; refine (cur_any b ph _ (by exact (row_cell HH.out 6).1)).mono ?_; rintro e wx ⟨rfl, rfl⟩) | (go_simp; go_at_call 13; refine (next_any ph st _ h0 h1 (by omega) (by omega)).mono ?_; rintro e wx ⟨rfl, rfl⟩) | (go_simp; go_at_call 7; refine (store64_any b 6 _ (nx ph st) _ (by exact (row_cell HH.out 6).1) (by exact (row_cell HH.out 6).2)).mono ?_; rintro e wx ⟨rfl, rfl⟩))
  all_goals
    go_end0
    exact ⟨rfl, heap_set_own _ _ _ _ _ _ HH.out, FR.out.drew.set 6 _ (show b = b from rfl)⟩
end Go.Proofs.Ybulkdncy
