/- WALKS: sync/atomic's methods; time.Time's methods on times without a monotonic reading. -/
import Derived.Test.YbulkdncyRows
import Derived.WalkKit
import Derived.WalkSpells
import Derived.WalkLawsBesides
import Derived.Laws.LoneSync
import Derived.Test.YbulkdncyBits
namespace Go.Proofs.Ybulkdncy
open Go.RowKit

set_option maxHeartbeats 400000 in
theorem store64_any (b o : Nat) (u : Value) (v : Int) (w : World) (h : w.cell? ⟨b, o, none⟩ = some u) (hf : w.frozen? ⟨b, o, none⟩ = false) : Calls Yba.prog 7 #[.pointer (some ⟨b, o, none⟩), .int .u64 v] w fun e w' => e = .returned (.tuple #[]) ∧ w' = w.setCell ⟨b, o, none⟩ (.int .u64 v) := by
  have k := run_call_store (P := Yba.prog) Yba.func20 (by kernel_rfl) (by kernel_rfl) (by kernel_rfl) (by kernel_rfl) (k := .u64) (y := v) h hf
  go_enter Yba.func7, Yba.ntmps7
  go_wp2
  go_end0
  exact ⟨rfl, rfl⟩
set_option maxHeartbeats 400000 in
theorem storeI_any (b o : Nat) (u : Value) (v : Int) (w : World) (h : w.cell? ⟨b, o, none⟩ = some u) (hf : w.frozen? ⟨b, o, none⟩ = false) : Calls Yba.prog 8 #[.pointer (some ⟨b, o, none⟩), .int .i64 v] w fun e w' => e = .returned (.tuple #[]) ∧ w' = w.setCell ⟨b, o, none⟩ (.int .i64 v) := by
  have k := run_call_store (P := Yba.prog) Yba.func21 (by kernel_rfl) (by kernel_rfl) (by kernel_rfl) (by kernel_rfl) (k := .i64) (y := v) h hf
  go_enter Yba.func8, Yba.ntmps8
  go_wp2
  go_end0
  exact ⟨rfl, rfl⟩
set_option maxHeartbeats 400000 in
theorem load64_any (b o : Nat) (v : Int) (w : World) (h : w.cell? ⟨b, o, none⟩ = some (.int .u64 v)) : Calls Yba.prog 10 #[.pointer (some ⟨b, o, none⟩)] w fun e w' => e = .returned (.int .u64 v) ∧ w' = w := by
  have k := run_call_load (P := Yba.prog) Yba.func25 (by kernel_rfl) (by kernel_rfl) (by kernel_rfl) .u64 (by kernel_rfl) h
  go_enter Yba.func10, Yba.ntmps10
  go_wp2
  go_ret
  exact ⟨rfl, rfl⟩
set_option maxHeartbeats 400000 in
theorem loadI_any (b o : Nat) (v : Int) (w : World) (h : w.cell? ⟨b, o, none⟩ = some (.int .i64 v)) : Calls Yba.prog 11 #[.pointer (some ⟨b, o, none⟩)] w fun e w' => e = .returned (.int .i64 v) ∧ w' = w := by
  have k := run_call_load (P := Yba.prog) Yba.func26 (by kernel_rfl) (by kernel_rfl) (by kernel_rfl) .i64 (by kernel_rfl) h
  go_enter Yba.func11, Yba.ntmps11
  go_wp2
  go_ret
  exact ⟨rfl, rfl⟩

set_option maxHeartbeats 400000 in
theorem nsec_any (b o : Nat) (n : Int) (w : World) (hn : 0 ≤ n) (hn1 : n < 1000000000) (h : w.cell? ⟨b, o, none⟩ = some (.int .u64 n)) : Calls Yba.prog 17 #[.pointer (some ⟨b, o, none⟩)] w fun e w' => e = .returned (.int .i32 n) ∧ w' = w := by
  have k := mask30 n hn hn1
  go_enter Yba.func17, Yba.ntmps17
  go_wp2
  go_ret
  exact ⟨rfl, rfl⟩

set_option maxHeartbeats 400000 in
theorem sec_any (b o : Nat) (n s : Int) (w : World) (hn : 0 ≤ n) (hn1 : n < 1000000000) (h : w.cell? ⟨b, o, none⟩ = some (.int .u64 n)) (h1 : w.cell? ⟨b, o + 1, none⟩ = some (.int .i64 s)) : Calls Yba.prog 27 #[.pointer (some ⟨b, o, none⟩)] w fun e w' => e = .returned (.int .i64 s) ∧ w' = w := by
  have k := mono0 n hn hn1
  go_enter Yba.func27, Yba.ntmps27
  go_wp2
  go_ret
  exact ⟨rfl, rfl⟩

set_option maxHeartbeats 400000 in
theorem addSec_any (b o : Nat) (n s d : Int) (w : World) (hn : 0 ≤ n) (hn1 : n < 1000000000) (hs : -1099511627776 ≤ s) (hs1 : s ≤ 1099511627776) (hd : -10000000000 ≤ d) (hd1 : d ≤ 10000000000)
    (h : w.cell? ⟨b, o, none⟩ = some (.int .u64 n)) (h1 : w.cell? ⟨b, o + 1, none⟩ = some (.int .i64 s)) (hf : w.frozen? ⟨b, o + 1, none⟩ = false) :
    Calls Yba.prog 18 #[.pointer (some ⟨b, o, none⟩), .int .i64 d] w fun e w' => e = .returned (.tuple #[]) ∧ w' = w.setCell ⟨b, o + 1, none⟩ (.int .i64 (s + d)) := by
  have k := mono0 n hn hn1
  have q : (decide (s < s + d) == decide (0 < d)) = true := by
    by_cases hd : 0 < d
    · rw [decide_eq_true hd, decide_eq_true (by omega)]; rfl
    · rw [decide_eq_false hd, decide_eq_false (by omega)]; rfl
  go_enter Yba.func18, Yba.ntmps18
  go_wp2
  go_end0
  exact ⟨rfl, rfl⟩

end Go.Proofs.Ybulkdncy
