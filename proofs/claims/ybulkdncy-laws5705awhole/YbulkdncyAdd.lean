/- WALKS: (time.Time).Add, Before, Equal on times without a monotonic reading. -/
import Derived.Test.YbulkdncyTime
namespace Go.Proofs.Ybulkdncy
open Go.RowKit

theorem td_parts (d : Int) : d = 1000000000 * d.tdiv 1000000000 + d.tmod 1000000000 ∧ -1000000000 < d.tmod 1000000000 ∧ d.tmod 1000000000 < 1000000000 := by
  refine ⟨(Int.mul_tdiv_add_tmod d 1000000000).symm, ?_, ?_⟩
  · rcases Int.le_total 0 d with h | h
    · have := Int.tmod_nonneg 1000000000 h; omega
    · have := Int.lt_tmod_of_pos d (show (0 : Int) < 1000000000 by omega); omega
  · exact Int.tmod_lt_of_pos d (by omega)

set_option maxHeartbeats 1000000 in
theorem add_any (n s d : Int) (w : World) (hn : 0 ≤ n) (hn1 : n < 1000000000) (hs : -1099511627776 ≤ s) (hs1 : s ≤ 1099511627776) (hd : -9223372036854775808 ≤ d) (hd1 : d ≤ 9223372036854775807) :
    Calls Yba.prog 6 #[.agg #[.int .u64 n, .int .i64 s, .pointer none], .int .i64 d] w fun e w' => e = .returned (.agg #[.int .u64 ((n + d) % 1000000000), .int .i64 (s + (n + d) / 1000000000), .pointer none]) ∧
      w' = (w.alloc (.cells #[.int .u64 ((n + d) % 1000000000), .int .i64 (s + (n + d) / 1000000000), .pointer none] 27)).alloc (.cells #[.int .u64 ((n + d) % 1000000000), .int .i64 (s + (n + d) / 1000000000), .pointer none] 27) := by
  obtain ⟨e0, e1, e2⟩ := td_parts d
  obtain ⟨q, hq⟩ : ∃ q, d.tdiv 1000000000 = q := ⟨_, rfl⟩
  obtain ⟨r, hr⟩ : ∃ r, d.tmod 1000000000 = r := ⟨_, rfl⟩
  rw [hq, hr] at e0
  rw [hr] at e1 e2
  have bq : -9223372038 ≤ q ∧ q ≤ 9223372038 := by omega
  obtain ⟨bq1, bq2⟩ := bq
  by_cases c1 : 1000000000 ≤ n + r
  · have v1 : (n + d) % 1000000000 = n + r - 1000000000 := by omega
    have v2 : (n + d) / 1000000000 = q + 1 := by omega
    rw [v1, v2]
    have k1 := unmask30 n hn hn1
    have k2 := or0 (n + r - 1000000000) (by omega) (by omega)
    have k3 := mono0 (n + r - 1000000000) (by omega) (by omega)
    clear v1 v2 e0
    go_enter Yba.func6, Yba.ntmps6
    go_wp2_with (first | (go_at_call 17; refine (nsec_any _ _ n _ hn hn1 (by simp)).mono ?_; rintro e w' ⟨rfl, rfl⟩) | (go_at_call 18; refine (addSec_any _ _ (n + r - 1000000000) s (q + 1) _ (by omega) (by omega) hs hs1 (by omega) (by omega) (by simp) (by simp) (by simp)).mono ?_; rintro e w' ⟨rfl, rfl⟩))
    refine bodyPost_ret (v := .agg #[.int .u64 (n + r - 1000000000), .int .i64 (s + (q + 1)), .pointer none]) (by simp [results, Yba.results6, go_sem]) rfl ⟨rfl, ?_⟩
    rfl
  · by_cases c2 : n + r < 0
    · have v1 : (n + d) % 1000000000 = n + r + 1000000000 := by omega
      have v2 : (n + d) / 1000000000 = q - 1 := by omega
      rw [v1, v2]
      have k1 := unmask30 n hn hn1
      have k2 := or0 (n + r + 1000000000) (by omega) (by omega)
      have k3 := mono0 (n + r + 1000000000) (by omega) (by omega)
      clear v1 v2 e0
      go_enter Yba.func6, Yba.ntmps6
      go_wp2_with (first | (go_at_call 17; refine (nsec_any _ _ n _ hn hn1 (by simp)).mono ?_; rintro e w' ⟨rfl, rfl⟩) | (go_at_call 18; refine (addSec_any _ _ (n + r + 1000000000) s (q - 1) _ (by omega) (by omega) hs hs1 (by omega) (by omega) (by simp) (by simp) (by simp)).mono ?_; rintro e w' ⟨rfl, rfl⟩))
      refine bodyPost_ret (v := .agg #[.int .u64 (n + r + 1000000000), .int .i64 (s + (q - 1)), .pointer none]) (by simp [results, Yba.results6, go_sem]) rfl ⟨rfl, ?_⟩
      rfl
    · have v1 : (n + d) % 1000000000 = n + r := by omega
      have v2 : (n + d) / 1000000000 = q := by omega
      rw [v1, v2]
      have k1 := unmask30 n hn hn1
      have k2 := or0 (n + r) (by omega) (by omega)
      have k3 := mono0 (n + r) (by omega) (by omega)
      clear v1 v2 e0
      go_enter Yba.func6, Yba.ntmps6
      go_wp2_with (first | (go_at_call 17; refine (nsec_any _ _ n _ hn hn1 (by simp)).mono ?_; rintro e w' ⟨rfl, rfl⟩) | (go_at_call 18; refine (addSec_any _ _ (n + r) s q _ (by omega) (by omega) hs hs1 (by omega) (by omega) (by simp) (by simp) (by simp)).mono ?_; rintro e w' ⟨rfl, rfl⟩))
      refine bodyPost_ret (v := .agg #[.int .u64 (n + r), .int .i64 (s + q), .pointer none]) (by simp [results, Yba.results6, go_sem]) rfl ⟨rfl, ?_⟩
      rfl

set_option maxHeartbeats 1000000 in
theorem before_any (n s n' s' : Int) (w : World) (hn : 0 ≤ n) (hn1 : n < 1000000000) (hm : 0 ≤ n') (hm1 : n' < 1000000000) :
    Calls Yba.prog 24 #[.agg #[.int .u64 n, .int .i64 s, .pointer none], .agg #[.int .u64 n', .int .i64 s', .pointer none]] w fun e w' => e = .returned (.bool (decide (s < s' ∨ s = s' ∧ n < n'))) ∧
      w' = (w.alloc (.cells #[.int .u64 n, .int .i64 s, .pointer none] 27)).alloc (.cells #[.int .u64 n', .int .i64 s', .pointer none] 27) := by
  have k := and2 n n' hn hn1 hm hm1
  by_cases c1 : s < s'
  · rw [decide_eq_true (Or.inl c1)]
    go_enter Yba.func24, Yba.ntmps24
    go_wp2_with fail
    refine (sec_any _ _ n s _ hn hn1 (by simp) (by simp)).mono ?_
    rintro e w' ⟨rfl, rfl⟩
    go_wp2_with fail
    refine (sec_any _ _ n' s' _ hm hm1 (by simp) (by simp)).mono ?_
    rintro e w' ⟨rfl, rfl⟩
    go_wp2
    go_ret
    exact ⟨rfl, rfl⟩
  · by_cases c2 : s = s'
    · subst c2
      have q : decide (s < s ∨ s = s ∧ n < n') = decide (n < n') := by simp
      rw [q]
      go_enter Yba.func24, Yba.ntmps24
      go_wp2_with fail
      refine (sec_any _ _ n s _ hn hn1 (by simp) (by simp)).mono ?_
      rintro e w' ⟨rfl, rfl⟩
      go_wp2_with fail
      refine (sec_any _ _ n' s _ hm hm1 (by simp) (by simp)).mono ?_
      rintro e w' ⟨rfl, rfl⟩
      go_wp2_with fail
      refine (nsec_any _ _ n _ hn hn1 (by simp)).mono ?_
      rintro e w' ⟨rfl, rfl⟩
      go_wp2_with fail
      refine (nsec_any _ _ n' _ hm hm1 (by simp)).mono ?_
      rintro e w' ⟨rfl, rfl⟩
      go_wp2
      go_ret
      exact ⟨rfl, rfl⟩
    · have q : decide (s < s' ∨ s = s' ∧ n < n') = false := decide_eq_false (by omega)
      have q2 : (s == s') = false := beq_eq_false_iff_ne.2 c2
      have q1 : decide (s < s') = false := decide_eq_false c1
      rw [q]
      clear q
      go_enter Yba.func24, Yba.ntmps24
      go_wp2_with fail
      refine (sec_any _ _ n s _ hn hn1 (by simp) (by simp)).mono ?_
      rintro e w' ⟨rfl, rfl⟩
      go_wp2_with fail
      refine (sec_any _ _ n' s' _ hm hm1 (by simp) (by simp)).mono ?_
      rintro e w' ⟨rfl, rfl⟩
      go_wp2
      go_ret
      exact ⟨rfl, rfl⟩

set_option maxHeartbeats 1000000 in
theorem equal_any (n s : Int) (w : World) (hn : 0 ≤ n) (hn1 : n < 1000000000) :
    Calls Yba.prog 15 #[.agg #[.int .u64 n, .int .i64 s, .pointer none], .agg #[.int .u64 n, .int .i64 s, .pointer none]] w fun e w' => e = .returned (.bool true) ∧
      w' = (w.alloc (.cells #[.int .u64 n, .int .i64 s, .pointer none] 27)).alloc (.cells #[.int .u64 n, .int .i64 s, .pointer none] 27) := by
  have k := and2 n n hn hn1 hn hn1
  go_enter Yba.func15, Yba.ntmps15
  go_wp2_with fail
  refine (sec_any _ _ n s _ hn hn1 (by simp) (by simp)).mono ?_
  rintro e w' ⟨rfl, rfl⟩
  go_wp2_with fail
  refine (sec_any _ _ n s _ hn hn1 (by simp) (by simp)).mono ?_
  rintro e w' ⟨rfl, rfl⟩
  go_wp2_with fail
  refine (nsec_any _ _ n _ hn hn1 (by simp)).mono ?_
  rintro e w' ⟨rfl, rfl⟩
  go_wp2_with fail
  refine (nsec_any _ _ n _ hn hn1 (by simp)).mono ?_
  rintro e w' ⟨rfl, rfl⟩
  go_wp2
  go_ret
  exact ⟨rfl, rfl⟩
end Go.Proofs.Ybulkdncy
