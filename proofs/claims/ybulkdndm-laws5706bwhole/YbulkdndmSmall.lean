/- WALKS: the small functions. -/
import Derived.Test.YbulkdndmRows
import Derived.WalkKit
import Derived.WalkSpells
import Derived.Laws.BitsAllLaws
namespace Go.Proofs.Ybulkdndm
open Go.RowKit

/-- Out of step. -/
def ex (o mx : Int) : Bool := decide (mx < o) || decide (o < -mx)
def clamp (x : Int) : Int := if x < 0 then 0 else x

theorem clamp_any (x : Int) (w : World) : Calls Yba.prog 12 #[.int .i64 x] w fun e w' => e = .returned (.int .i64 (clamp x)) ∧ w' = w := by
  by_cases h : x < 0
  · have e : clamp x = 0 := by unfold clamp; rw [if_pos h]
    rw [e]
    go_enter Yba.func12, Yba.ntmps12
    go_wp2
    go_ret
    exact ⟨rfl, rfl⟩
  · have e : clamp x = x := by unfold clamp; rw [if_neg h]
    have d : decide (x < 0) = false := decide_eq_false h
    rw [e]
    go_enter Yba.func12, Yba.ntmps12
    go_wp2
    go_ret
    exact ⟨rfl, rfl⟩

theorem exc_any (sb : Nat) (mx o : Int) (w : World) (h : w.cell? ⟨sb, 0, none⟩ = some (.int .i64 mx)) (h0 : 0 ≤ mx) (h1 : mx ≤ 9223372036854775807) : Calls Yba.prog 21 #[.pointer (some ⟨sb, 0, none⟩), .int .i64 o] w fun e w' => e = .returned (.bool (ex o mx)) ∧ w' = w := by
  by_cases c : mx < o
  · have e : ex o mx = true := by unfold ex; simp [c]
    rw [e]
    go_enter Yba.func21, Yba.ntmps21
    go_wp2
    go_ret
    exact ⟨rfl, rfl⟩
  · have d : decide (mx < o) = false := decide_eq_false c
    have e : ex o mx = decide (o < -mx) := by unfold ex; rw [d]; simp
    rw [e]
    go_enter Yba.func21, Yba.ntmps21
    go_wp2
    go_ret
    exact ⟨rfl, rfl⟩

theorem not_i64 (o : Int) (o0 : -9223372036854775808 ≤ o) (o1 : o ≤ 9223372036854775807) : bits .xor .i64 (-1) o = -o - 1 := by
  show IntKind.i64.wrap ((BitVec.ofInt 64 (-1) ^^^ BitVec.ofInt 64 o).toNat : Int) = _
  have e : BitVec.ofInt 64 (-1) = BitVec.allOnes 64 := by decide
  rw [e, BitVec.allOnes_xor, BitVec.toNat_not, BitVec.toNat_ofInt, IntKind.wrap_i64]
  omega

theorem zex_any (o mx : Int) (w : World) (h0 : 0 ≤ mx) (h1 : mx ≤ 9223372036854775807) (o0 : -9223372036854775808 ≤ o) (o1 : o ≤ 9223372036854775807) : Calls Yba.prog 13 #[.int .i64 o, .int .i64 mx] w fun e w' => e = .returned (.bool (ex o mx)) ∧ w' = w := by
  by_cases c : o < 0
  · have n1 := not_i64 o o0 o1
    have n2 : IntKind.u64.wrap (-o - 1) = -o - 1 := by rw [IntKind.wrap_u64]; omega
    have n3 : IntKind.u64.wrap (-o) = -o := by rw [IntKind.wrap_u64]; omega
    have e : ex o mx = decide (mx < -o) := by unfold ex; rw [show decide (mx < o) = false from decide_eq_false (by omega), Bool.false_or]; exact decide_eq_decide.2 (by omega)
    rw [e]
    go_enter Yba.func13, Yba.ntmps13
    go_wp2
    go_ret
    exact ⟨rfl, rfl⟩
  · have d : decide (o < 0) = false := decide_eq_false c
    have e : ex o mx = decide (mx < o) := by unfold ex; rw [show decide (o < -mx) = false from decide_eq_false (by omega)]; simp
    rw [e]
    go_enter Yba.func13, Yba.ntmps13
    go_wp2
    go_ret
    exact ⟨rfl, rfl⟩
end Go.Proofs.Ybulkdndm
