/- The counts of LawS5707AWhole. -/
import Derived.RowKit
import Derived.WalkKit
namespace Go.Proofs.YbulkdneaFmt
open Go.RowKit

theorem small_wrap (x : Nat) (h : x ≤ 65536) : wrap64 (x : Int) = x := by unfold wrap64; omega
theorem small_u64 (x : Nat) (h : x ≤ 65536) : IntKind.u64.wrap (x : Int) = x := by rw [IntKind.wrap_u64]; omega

theorem idx_eq (i : Int) (np : Nat) (h1 : 1 ≤ np) (h2 : np ≤ 65536) : ∃ ix : Nat, ix < np ∧ wrap64 ((IntKind.u64.wrap i).tmod (np : Int)) = (ix : Int) := by
  have hw : 0 ≤ IntKind.u64.wrap i := by rw [IntKind.wrap_u64]; omega
  generalize IntKind.u64.wrap i = x at hw
  rw [Int.tmod_eq_emod_of_nonneg hw]
  have a := Int.emod_lt_of_pos x (show (0 : Int) < np by omega)
  have b := Int.emod_nonneg x (show (np : Int) ≠ 0 by omega)
  generalize x % (np : Int) = y at a b
  obtain ⟨ix, rfl⟩ : ∃ ix : Nat, y = ix := ⟨y.toNat, by omega⟩
  exact ⟨ix, by omega, small_wrap ix (by omega)⟩

theorem counts (q kk : Nat) (i : Int) (h : q ≤ 65536) (h1 : 1 ≤ kk) (h2 : kk ≤ q) (h4 : kk ≤ 4) : ∃ np n ix : Nat, (q : Int) / (kk : Int) = np ∧ (q : Int).tdiv (kk : Int) = np ∧ 1 ≤ np ∧ np ≤ 65536 ∧ np * kk = n ∧ n ≤ q ∧ ix < np ∧ ix * kk + kk ≤ n ∧ wrap64 (np : Int) = np ∧ IntKind.u64.wrap (np : Int) = np ∧
    wrap64 ((IntKind.u64.wrap i).tmod (np : Int)) = (ix : Int) ∧ wrap64 ((np : Int) * (kk : Int)) = (n : Int) ∧ (np : Int) ≠ 0 ∧ 32 * n ≤ 281474976710656 ∧ n ≤ maxLen := by
  have e6 : (q : Int) / (kk : Int) = ((q / kk : Nat) : Int) := by simp
  have g1 : 1 ≤ q / kk := Nat.div_pos h2 (by omega)
  have g2 : q / kk ≤ 65536 := Nat.le_trans (Nat.div_le_self _ _) h
  have g3 : q / kk * kk ≤ q := Nat.div_mul_le_self _ _
  have e7 : (q : Int).tdiv (kk : Int) = ((q / kk : Nat) : Int) := by rw [Int.tdiv_eq_ediv_of_nonneg (by omega)]; exact e6
  generalize q / kk = np at e6 e7 g1 g2 g3
  obtain ⟨ix, hx1, hx2⟩ := idx_eq i np g1 g2
  have hm : (ix + 1) * kk ≤ np * kk := Nat.mul_le_mul_right _ (by omega)
  rw [Nat.succ_mul] at hm
  refine ⟨np, np * kk, ix, e6, e7, g1, g2, rfl, g3, hx1, hm, small_wrap np g2, small_u64 np g2, hx2, ?_, by omega, by omega, by unfold maxLen; omega⟩
  have : (np : Int) * (kk : Int) = ((np * kk : Nat) : Int) := by simp
  rw [this]
  exact small_wrap _ (by omega)
end Go.Proofs.YbulkdneaFmt
