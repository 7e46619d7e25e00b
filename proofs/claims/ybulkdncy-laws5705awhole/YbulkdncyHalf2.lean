/- WALKS: (*Breaker).halfOpenWhenDue. -/
import Derived.Test.YbulkdncyHalf
import Derived.Deep.QuietTactic
import Derived.BigQuiet
namespace Go.Proofs.Ybulkdncy
open Go.RowKit

theorem state_at (v st : Int) (w : World) (h0 : 0 ≤ v) (h1 : v < 18446744073709551616) (hst : v % 4 = st) : Calls Yba.prog 23 #[.int .u64 v] w fun e w' => e = .returned (.int .i64 st) ∧ w' = w := by
  subst hst; exact state_any v w h0 h1

set_option maxHeartbeats 1000000 in
theorem half_no (b : Nat) (ph st : Int) (w : World) (h : w.cell? ⟨b, 6, none⟩ = some (.int .u64 ph)) (h0 : 0 ≤ ph) (h1 : ph < 18446744073709551616) (hst : ph % 4 = st) (hs : st = 0 ∨ st = 2) :
    Calls Yba.prog 9 #[.pointer (some ⟨b, 0, none⟩)] w fun e w' => e = .returned (.tuple #[]) ∧ Fr (fun _ => False) w w' := by
  have HS : Hid (_ = _) := hst
  clear hst
  rcases hs with rfl | rfl
  all_goals
    go_enter Yba.func9, Yba.ntmps9
    go_wp2_with fail
    go_quiet (first | (go_at_call 22; refine Calls.quiet_of_same (cur_any b ph _ (by exact h))) | (go_at_call 23; refine Calls.quiet_of_same (state_at ph _ _ h0 h1 HS.out)))
    go_wp2
    go_end0
    exact ⟨rfl, ⟨fun _ g _ => g, Nat.le_refl _, fun _ _ _ => rfl⟩⟩

set_option maxHeartbeats 1600000 in
theorem half_wait (b b1 b2 : Nat) (c0 c1 c2 ph fl u po pk k d : Int) (w : World) (h : w.heap[b]? = some (.cells (brk c0 c1 c2 (.func (.func 5) #[] #[.pointer (some ⟨b1, 0, none⟩), .pointer (some ⟨b2, 0, none⟩)]) ph fl (u % 1000000000) (u / 1000000000) po pk) 46)) (h0 : 0 ≤ ph) (h1 : ph < 18446744073709551616) (hst : ph % 4 = 1)
    (g1 : w.heap[b1]? = some (.cells #[.int .i64 k] 3)) (g2 : w.heap[b2]? = some (.cells #[.int .i64 d] 2)) (n1 : b ≠ b1) (n3 : b1 ≠ b2) (hk : 0 ≤ k) (hk1 : k < 1000) (hd : -9223372036854775808 ≤ d) (hd1 : d ≤ 9223372036854775807) (hdu : d < u) :
    Calls Yba.prog 9 #[.pointer (some ⟨b, 0, none⟩)] w fun e w' => e = .returned (.tuple #[]) ∧ w'.heap[b1]? = some (.cells #[.int .i64 (k + 1)] 3) ∧ Fr (· = b1) w w' := by
  have HS : Hid (_ = _) := hst
  have G1 : Hid (_ = _) := g1
  have G2 : Hid (_ = _) := g2
  have lb := row_lt h
  obtain ⟨un, hun⟩ : ∃ un, u % 1000000000 = un := ⟨_, rfl⟩
  obtain ⟨us, hus⟩ : ∃ us, u / 1000000000 = us := ⟨_, rfl⟩
  obtain ⟨dn, hdn⟩ : ∃ dn, d % 1000000000 = dn := ⟨_, rfl⟩
  obtain ⟨ds, hds⟩ : ∃ ds, d / 1000000000 = ds := ⟨_, rfl⟩
  rw [hun, hus] at h
  have H : Hid (_ = _) := h
  obtain ⟨-, -, -, k3, k6, -, k8, k9, k10, -, -, -⟩ := brk_cells h
  have TB := fun w => time_before d u w
  have TF := fun w g1 g2 => fn5_any b1 b2 k d w g1 g2 n3 hk hk1 hd hd1
  simp only [hun, hus, hdn, hds, decide_eq_true hdu] at TB TF
  have TB' : Hid (∀ w, _) := TB
  have TF' : Hid (∀ w g1 g2, _) := TF
  clear hst hdu h g1 g2 TB TF hun hus hdn hds
  go_enter Yba.func9, Yba.ntmps9
  go_wp2_with fail
  go_region_law (go_simp; first | (go_at_call 22; refine (cur_any b ph _ (by exact k6)).mono ?_; rintro e wz ⟨rfl, rfl⟩) | (go_at_call 23; refine (state_at ph 1 _ h0 h1 HS.out).mono ?_; rintro e wz ⟨rfl, rfl⟩) | (go_at_call 5; refine (TF'.out _ (by exact G1.out) (by exact G2.out)).mono ?_; rintro e wx ⟨rfl, x1, xf⟩; have X1 : Hid (_ = _) := x1; have XF : Hid (Fr (· = b1) w wx) := ((Fr.refl (· = b1) w).drew.trans xf); have xh := (xf.block b (by exact lb) (fun e => n1 e)).trans H.out; obtain ⟨-, -, -, -, -, -, m8, m9, m10, -, -, -⟩ := brk_cells xh; clear x1 xf xh) | (go_at_call 24; refine (TB'.out _).mono ?_; rintro e wy ⟨rfl, yf⟩; have YF : Hid (Fr (fun _ => False) wx wy) := yf; clear yf))
  all_goals
    go_wp2
    go_end0
    exact ⟨rfl, (YF.out.block b1 (row_lt X1.out) (fun e => e)).trans X1.out, XF.out.trans (YF.out.mono (fun j hj => hj.elim))⟩

set_option maxHeartbeats 1600000 in
theorem half_go (b b1 b2 : Nat) (c0 c1 c2 ph fl u po pk k d : Int) (w : World) (h : w.heap[b]? = some (.cells (brk c0 c1 c2 (.func (.func 5) #[] #[.pointer (some ⟨b1, 0, none⟩), .pointer (some ⟨b2, 0, none⟩)]) ph fl (u % 1000000000) (u / 1000000000) po pk) 46)) (h0 : 0 ≤ ph) (h1 : ph < 18446744073709551616) (hst : ph % 4 = 1)
    (g1 : w.heap[b1]? = some (.cells #[.int .i64 k] 3)) (g2 : w.heap[b2]? = some (.cells #[.int .i64 d] 2)) (n1 : b ≠ b1) (n3 : b1 ≠ b2) (hk : 0 ≤ k) (hk1 : k < 1000) (hd : -9223372036854775808 ≤ d) (hd1 : d ≤ 9223372036854775807) (hdu : ¬ d < u) :
    Calls Yba.prog 9 #[.pointer (some ⟨b, 0, none⟩)] w fun e w' => e = .returned (.tuple #[]) ∧ w'.heap[b]? = some (.cells (brk c0 c1 c2 (.func (.func 5) #[] #[.pointer (some ⟨b1, 0, none⟩), .pointer (some ⟨b2, 0, none⟩)]) (nx ph 2) 0 (u % 1000000000) (u / 1000000000) 0 0) 46) ∧ w'.heap[b1]? = some (.cells #[.int .i64 (k + 1)] 3) ∧ Fr (fun j => j = b ∨ j = b1) w w' := by
  have HS : Hid (_ = _) := hst
  have G1 : Hid (_ = _) := g1
  have G2 : Hid (_ = _) := g2
  have lb := row_lt h
  obtain ⟨un, hun⟩ : ∃ un, u % 1000000000 = un := ⟨_, rfl⟩
  obtain ⟨us, hus⟩ : ∃ us, u / 1000000000 = us := ⟨_, rfl⟩
  obtain ⟨dn, hdn⟩ : ∃ dn, d % 1000000000 = dn := ⟨_, rfl⟩
  obtain ⟨ds, hds⟩ : ∃ ds, d / 1000000000 = ds := ⟨_, rfl⟩
  rw [hun, hus] at h
  have H : Hid (_ = _) := h
  obtain ⟨-, -, -, k3, k6, -, k8, k9, k10, -, -, -⟩ := brk_cells h
  have TB := fun w => time_before d u w
  have TF := fun w g1 g2 => fn5_any b1 b2 k d w g1 g2 n3 hk hk1 hd hd1
  simp only [hun, hus, hdn, hds, decide_eq_false hdu] at TB TF
  have TB' : Hid (∀ w, _) := TB
  have TF' : Hid (∀ w g1 g2, _) := TF
  have HU : Hid (_ = _) := hun
  have HV : Hid (_ = _) := hus
  clear hst hdu h g1 g2 TB TF hun hus hdn hds
  go_enter Yba.func9, Yba.ntmps9
  go_wp2_with fail
  go_region_law (go_simp; first | (go_at_call 22; refine (cur_any b ph _ (by exact k6)).mono ?_; rintro e wz ⟨rfl, rfl⟩) | (go_at_call 23; refine (state_at ph 1 _ h0 h1 HS.out).mono ?_; rintro e wz ⟨rfl, rfl⟩) | (go_at_call 5; refine (TF'.out _ (by exact G1.out) (by exact G2.out)).mono ?_; rintro e wx ⟨rfl, x1, xf⟩; have X1 : Hid (_ = _) := x1; have XF : Hid (Fr (· = b1) w wx) := ((Fr.refl (· = b1) w).drew.trans xf); have xh := (xf.block b (by exact lb) (fun e => n1 e)).trans H.out; obtain ⟨-, -, -, -, -, -, m8, m9, m10, -, -, -⟩ := brk_cells xh; have XH : Hid (_ = _) := xh; clear x1 xf xh) | (go_at_call 24; refine (TB'.out _).mono ?_; rintro e wy ⟨rfl, yf⟩; have YF : Hid (Fr (fun _ => False) wx wy) := yf; clear yf))
  all_goals
    go_wp2_with fail
    refine (enter_ne b 2 c0 c1 c2 _ ph fl un us po pk _ ((YF.out.block b (row_lt XH.out) (fun e => e)).trans XH.out) h0 h1 (Or.inr rfl)).mono ?_
    rintro e wv ⟨rfl, vh, vf⟩
    have VH : Hid (_ = _) := vh
    have VF : Hid (Fr (· = b) wy wv) := vf
    clear vh vf
    go_wp2
    go_end0
    have y1 := (YF.out.block b1 (row_lt X1.out) (fun e => e)).trans X1.out
    refine ⟨rfl, by rw [HU.out, HV.out]; exact VH.out, (VF.out.block b1 (row_lt y1) (fun e => n1 e.symm)).trans y1, ((XF.out.mono (fun j hj => Or.inr hj)).trans (YF.out.mono (fun j hj => hj.elim))).trans (VF.out.mono (fun j hj => Or.inl hj))⟩
end Go.Proofs.Ybulkdncy
