/- WALKS of the small functions: cmp.Or at two, cmp.Compare[int], strings.Compare, the law's own helpers. -/
import Derived.Test.YbulkdnbwRows
import Derived.WalkKit
import Derived.WalkSpells
import Derived.WalkLawsBesides
import Derived.Lib.Bytealg
import Derived.Lib.Small
import Derived.Sort.Grow
import Derived.Lib.SliceRun
import Derived.Test.YbulkdnbwPlain
namespace Go.Proofs.Ybulkdnbw
open Go.RowKit Go.Lib Go.Sort

set_option maxHeartbeats 400000 in
theorem cmpInt_any (x y : Int) (w : World) : Calls Yba.prog 18 #[.int .i64 x, .int .i64 y] w fun e w' => e = .returned (.int .i64 (Lib.compareInt x y)) ∧ w' = w := by
  unfold Lib.compareInt
  by_cases h1 : x < y
  · go_enter Yba.func18, Yba.ntmps18
    go_wp2
    go_ret
    exact ⟨by simp, rfl⟩
  · by_cases h2 : y < x
    · go_enter Yba.func18, Yba.ntmps18
      go_wp2
      go_ret
      exact ⟨by simp, rfl⟩
    · go_enter Yba.func18, Yba.ntmps18
      go_wp2
      go_ret
      exact ⟨by simp, rfl⟩

set_option maxHeartbeats 400000 in
theorem bytealgCmp_any (a b : ByteArray) (w : World) : Calls Yba.prog 33 #[.string a, .string b] w fun e w' => e = .returned (.int .i64 (compareBytes a.data.toList b.data.toList)) ∧ w' = w := by
  go_enter Yba.func33, Yba.ntmps33
  go_wp2
  rw [run_callFunc_extern Yba.func39 (by kernel_rfl) (by kernel_rfl) (by kernel_rfl) (e := Extern.BytealgCompare.compare) (by kernel_rfl), Lib.run_compareString]
  simp only [Result.andThen]
  rw [Oper.upon_value]
  go_wp2
  go_ret
  exact ⟨rfl, rfl⟩

set_option maxHeartbeats 400000 in
theorem strCmp_any (a b : ByteArray) (w : World) : Calls Yba.prog 21 #[.string a, .string b] w fun e w' => e = .returned (.int .i64 (compareBytes a.data.toList b.data.toList)) ∧ w' = w := by
  go_enter Yba.func21, Yba.ntmps21
  go_wp2_with (go_at_call 33; refine (bytealgCmp_any _ _ _).mono ?_; rintro e w' ⟨rfl, rfl⟩)
  go_ret
  exact ⟨rfl, rfl⟩

set_option maxHeartbeats 400000 in
theorem or_any (p q : Int) (c : Nat) (w : World) (b : Nat) (h0 : w.cell? ⟨b, 0, none⟩ = some (.int .i64 p)) (h1 : w.cell? ⟨b, 1, none⟩ = some (.int .i64 q)) :
   Calls Yba.prog 16 #[.slice (some ⟨b, 0, none⟩) 2 c] w fun e w' => e = .returned (.int .i64 (if p = 0 then q else p)) ∧ w' = w := by
  by_cases hp : p = 0
  · subst hp
    by_cases hq : q = 0
    · subst hq
      go_enter Yba.func16, Yba.ntmps16
      go_wp2
      refine wp_loop_rounds 3 ?_
      rw [rounds_succ]
      go_wp2
      rw [rounds_succ]
      go_wp2
      rw [rounds_succ]
      go_wp2
      go_ret
      exact ⟨by simp, rfl⟩
    · have hq' : (q != 0) = true := by simpa using hq
      go_enter Yba.func16, Yba.ntmps16
      go_wp2
      refine wp_loop_rounds 2 ?_
      rw [rounds_succ]
      go_wp2
      rw [rounds_succ]
      go_wp2
      go_ret
      exact ⟨by simp, rfl⟩
  · have hp' : (p != 0) = true := by simpa using hp
    go_enter Yba.func16, Yba.ntmps16
    go_wp2
    refine wp_loop_rounds 1 ?_
    rw [rounds_succ]
    go_wp2
    go_ret
    exact ⟨by simp, rfl⟩

/-- A head's eleven cells: the holder, the rest empty, the source. -/
def hcells (a c : ByteArray) (s : Int) : List Value := [.string a, .string c, .slice none 0 0, .string ByteArray.empty, .string ByteArray.empty, .pointer none, .int .i64 0, .slice none 0 0, .pointer none, .slice none 0 0, .int .i64 s]

set_option maxHeartbeats 400000 in
theorem head_any (a c : ByteArray) (s : Int) (w : World) : Calls Yba.prog 6 #[.agg #[.string a, .string c, .int .i64 s]] w fun e w' => e = .returned (.agg (hcells a c s).toArray) ∧ ∃ q os', w' = grow (w.drewN q) os' := by
  go_enter Yba.func6, Yba.ntmps6
  go_wp2
  refine bodyPost_ret (v := .agg (hcells a c s).toArray) (by simp [results, Yba.results6, go_sem, hcells]; rfl) rfl ⟨rfl, 0, _, by rw [alloc_eq_grow, alloc_eq_grow, grow_grow]; rfl⟩

set_option maxHeartbeats 400000 in
theorem key_any (a c : ByteArray) (s : Int) (w : World) : Calls Yba.prog 9 #[.agg (hcells a c s).toArray] w fun e w' => e = .returned (.agg #[.string a, .string c, .int .i64 s]) ∧ ∃ q os', w' = grow (w.drewN q) os' := by
  unfold hcells
  go_enter Yba.func9, Yba.ntmps9
  go_wp2
  refine bodyPost_ret (v := .agg #[.string a, .string c, .int .i64 s]) (by simp [results, Yba.results9, go_sem]) rfl ⟨rfl, 0, _, by rw [alloc_eq_grow, alloc_eq_grow, grow_grow]; rfl⟩

set_option maxHeartbeats 400000 in
set_option maxRecDepth 100000 in
theorem plain_any (a c : ByteArray) (s : Int) (w : World) : Calls Yba.prog 10 #[.agg (hcells a c s).toArray] w fun e w' => e = .returned (.bool true) ∧ ∃ q os', w' = grow (w.drewN q) os' := by
  have k1 := fun w => Lib.run_eql_slice_nil (P := Yba.prog) w 30 _ none 0 0 0 0 Yba.underlying30
  have k2 := fun w => Lib.run_eql_slice_nil (P := Yba.prog) w 36 _ none 0 0 0 0 Yba.underlying36
  have k3 := fun w => Lib.run_eql_slice_nil (P := Yba.prog) w 38 _ none 0 0 0 0 Yba.underlying38
  unfold hcells
  go_enter Yba.func10, Yba.ntmps10
  go_wp2
  go_ret
  exact ⟨rfl, 0, _, by rw [alloc_eq_grow]; rfl⟩

theorem cf_acc (a c a' c' : ByteArray) (s s' : Int) (h : a ≠ a') : cf ((a, c), s) ((a', c'), s') = if Op.bytesLess a.toList a'.toList then -1 else 1 := by
  have h0 : cb a a' ≠ 0 := fun e => h (cb_cmp.same _ _ e)
  have h1 := cb_rng a.data.toList a'.data.toList
  rw [bl_cb, Lib.toList_data, Lib.toList_data]
  unfold cf orI
  simp only [if_neg h0]
  unfold cb at *
  by_cases h2 : compareBytes a.data.toList a'.data.toList < 0
  · rw [decide_eq_true h2]; simp only [if_true]; omega
  · rw [decide_eq_false h2]; simp only [Bool.false_eq_true, if_false]; omega
theorem cf_class (a c c' : ByteArray) (s s' : Int) (h : c ≠ c') : cf ((a, c), s) ((a, c'), s') = if Op.bytesLess c.toList c'.toList then -1 else 1 := by
  have h0 : cb c c' ≠ 0 := fun e => h (cb_cmp.same _ _ e)
  have h1 := cb_rng c.data.toList c'.data.toList
  rw [bl_cb, Lib.toList_data, Lib.toList_data]
  unfold cf orI
  simp only [cb_cmp.self, if_true, if_neg h0]
  unfold cb at *
  by_cases h2 : compareBytes c.data.toList c'.data.toList < 0
  · rw [decide_eq_true h2]; simp only [if_true]; omega
  · rw [decide_eq_false h2]; simp only [Bool.false_eq_true, if_false]; omega
theorem cf_src (a c : ByteArray) (s s' : Int) : cf ((a, c), s) ((a, c), s') = Lib.compareInt s s' := by
  unfold cf orI
  simp only [cb_cmp.self, if_true]
  rfl
theorem ne_toList {a b : ByteArray} (h : a ≠ b) : (a.toList == b.toList) = false := by
  rw [Lib.toList_data, Lib.toList_data]
  exact beq_eq_false_iff_ne.2 fun e => h (ba_ext e)

set_option maxHeartbeats 1000000 in
set_option maxRecDepth 100000 in
theorem cmp_any (a c a' c' : ByteArray) (s s' : Int) (w : World) : Calls Yba.prog 8 #[.agg #[.string a, .string c, .int .i64 s], .agg #[.string a', .string c', .int .i64 s']] w fun e w' => e = .returned (.int .i64 (cf ((a, c), s) ((a', c'), s'))) ∧ ∃ q os', w' = grow (w.drewN q) os' := by
  by_cases ha : a = a'
  · subst ha
    by_cases hc : c = c'
    · subst hc
      rw [cf_src]
      unfold Lib.compareInt
      by_cases h1 : s < s'
      · go_enter Yba.func8, Yba.ntmps8
        go_wp2
        go_ret
        exact ⟨by simp, 0, _, by rw [alloc_eq_grow, alloc_eq_grow, grow_grow]; rfl⟩
      · by_cases h2 : s' < s
        · go_enter Yba.func8, Yba.ntmps8
          go_wp2
          go_ret
          exact ⟨by simp, 0, _, by rw [alloc_eq_grow, alloc_eq_grow, grow_grow]; rfl⟩
        · go_enter Yba.func8, Yba.ntmps8
          go_wp2
          go_ret
          exact ⟨by simp, 0, _, by rw [alloc_eq_grow, alloc_eq_grow, grow_grow]; rfl⟩
    · rw [cf_class _ _ _ _ _ hc]
      have hn := ne_toList hc
      clear hc
      cases hb : Op.bytesLess c.toList c'.toList
      all_goals
        go_enter Yba.func8, Yba.ntmps8
        go_wp2
        go_ret
        exact ⟨by simp, 0, _, by rw [alloc_eq_grow, alloc_eq_grow, grow_grow]; rfl⟩
  · rw [cf_acc _ _ _ _ _ _ ha]
    have hn := ne_toList ha
    clear ha
    cases hb : Op.bytesLess a.toList a'.toList
    all_goals
      go_enter Yba.func8, Yba.ntmps8
      go_wp2
      go_ret
      exact ⟨by simp, 0, _, by rw [alloc_eq_grow, alloc_eq_grow, grow_grow]; rfl⟩
end Go.Proofs.Ybulkdnbw
