/- WALKS: strconv.FormatUint at base 10 (after the shelf's walk of FormatInt); (Value).String where fmt is not asked. -/
import Derived.Test.YbulkdneaFmtPlain
import Derived.Test.YbulkdneaFmtShelf
import Derived.Lib.AppendIntMem
namespace Go.Proofs.YbulkdneaFmt
open Go.RowKit Go.Sort

abbrev Tab (w : World) : Prop := Lib.TabIs Ybaf.prog w "internal/strconv.uint64pow10" .u64 Lib.pow10Tab

set_option maxHeartbeats 2000000 in
set_option maxRecDepth 100000 in
theorem iuint_any (u : Nat) (hu64 : u < 18446744073709551616) (w : World) (htab : Tab w) :
    Calls Ybaf.prog 24 #[.int .u64 u, .int .i64 10] w fun e w' => e = .returned (.string ⟨(utoaL u).toArray⟩) ∧ ∃ k os, w' = grow (w.drewN k) os := by
  unfold utoaL
  by_cases hs : u < 100
  · have d : (u : Int) < 100 := by omega
    go_enter Ybaf.func24, Ybaf.ntmps24
    go_wp2_with (go_at_call 25; refine (Ybaf.internal_strconv_small u hs _).mono ?_; rintro e w' ⟨rfl, rfl⟩)
    go_ret
    exact ⟨rfl, 0, #[], by simp [World.drewN_zero]⟩
  · have d : decide ((u : Int) < 100) = false := decide_eq_false (by omega)
    have hu1 : 1 ≤ u := by omega
    have hnd20 : Lib.nDigits u ≤ 20 := nDigits_le u hu64
    have hal : Ybaf.prog.arrayLen 65 = 24 := by simp [Program.arrayLen, Ybaf.underlying65]
    have hsl1 : ∀ W, (Instr.sliceAt 65 (.pointer (some ⟨w.heap.size, 0, none⟩)) none (some (.int .i64 (Lib.nDigits u : Int))) none).run Ybaf.prog W = .ok (.slice (some ⟨w.heap.size, 0, none⟩) (Lib.nDigits u) 24) W := fun W => by
      rw [run_sliceAt_array_h W 65 ⟨w.heap.size, 0, none⟩ (by simp [Program.arrayLen, Program.elem, Ybaf.underlying65]) .i64 (Lib.nDigits u : Int) (by omega) (by rw [hal]; omega)]
      go_simp
    have hH0 := Lib.holds_zero0 w 65 (Lib.nDigits u) (by omega)
    have hfmt := Ybaf.internal_strconv_formatBase10 w.heap.size 0 24 u (Array.replicate (Lib.nDigits u) 0) (w.alloc (.cells Lib.zeros24 65)) hH0 (by rw [Array.size_replicate]; exact Lib.lt_pow_nDigits u) hu64 (by rw [Array.size_replicate]; omega)
    rw [Array.size_replicate] at hfmt
    have HH0 := Lib.hid hH0
    clear hH0 hal
    go_enter Ybaf.func24, Ybaf.ntmps24
    go_wp2_with (first
      | (go_at_call 26; refine (Ybaf.internal_strconv_numDigits u hu1 hu64 _ (Lib.tabIs_alloc htab _)).mono ?_; rintro e w' ⟨rfl, rfl⟩))
    refine hfmt.mono ?_
    rintro e w' ⟨rfl, k, v', dk, rfl, hF⟩
    have hcv : (convert 37 9 (.slice (some ⟨w.heap.size, 0, none⟩) (Lib.nDigits u) 24)).run Ybaf.prog ((putRow (fun (b : UInt8) => Value.int .u8 (b.toNat : Int)) (w.alloc (.cells Lib.zeros24 65)) w.heap.size 0 dk).drewN k) = .ok (.string ⟨(Lib.decDigits u).toArray⟩) ((putRow (fun (b : UInt8) => Value.int .u8 (b.toNat : Int)) (w.alloc (.cells Lib.zeros24 65)) w.heap.size 0 dk).drewN k) := by
      have h := run_convert_bytes_back (P := Ybaf.prog) ((putRow (fun (b : UInt8) => Value.int .u8 (b.toNat : Int)) (w.alloc (.cells Lib.zeros24 65)) w.heap.size 0 dk).drewN k) 37 9 5 ⟨w.heap.size, 0, none⟩ 24 (Lib.decDigits u) Ybaf.underlying37 Ybaf.underlying5 Ybaf.underlying9 (fun j hj => by
        rw [Lib.row_is_numeral hF j hj, Lib.add_plain, World.cell?_drewN]
        exact cell?_putRow (fun (b : UInt8) => Value.int .u8 (b.toNat : Int)) _ w.heap.size 0 _ dk HH0.out (by rw [hF.size, Array.size_replicate]) j (by rw [hF.size]; rw [Lib.decDigits_length] at hj; exact hj))
      rw [Lib.decDigits_length] at h
      exact h
    go_wp2
    go_ret
    obtain ⟨os, eo⟩ := Lib.fin_at w (.cells Lib.zeros24 65) dk k 0
    exact ⟨rfl, k, os, eo⟩

set_option maxHeartbeats 1000000 in
theorem uint_any (u : Nat) (hu64 : u < 18446744073709551616) (w : World) (htab : Tab w) :
    Calls Ybaf.prog 19 #[.int .u64 u, .int .i64 10] w fun e w' => e = .returned (.string ⟨(utoaL u).toArray⟩) ∧ ∃ k os, w' = grow (w.drewN k) os := by
  go_enter Ybaf.func19, Ybaf.ntmps19
  go_wp2_with (go_at_call 24; refine (iuint_any u hu64 _ htab).mono ?_; rintro e w' ⟨rfl, k, os, rfl⟩)
  go_ret
  exact ⟨rfl, k, os, rfl⟩

theorem byte_str (s : ByteArray) : (⟨s.data.toList.toArray⟩ : ByteArray) = s := by cases s; simp

set_option maxHeartbeats 1000000 in
/-- The values that fmt is not asked for. -/
theorem string_any (kd n : Int) (s : ByteArray) (w : World) (h3 : kd ≠ 3) (h4 : kd ≠ 4) (n0 : -9223372036854775808 ≤ n) (n1 : n ≤ 9223372036854775807) (htab : Tab w) :
    Calls Ybaf.prog 16 #[.agg #[.int .u8 kd, .int .i64 n, .string s]] w fun e w' => e = .returned (.string ⟨(oneL ((kd, n), s)).toArray⟩) ∧ RowKit.Below w.heap.size w w' := by
  have bel1 : ∀ (o : Obj) (k : Nat) (os : Array Obj), RowKit.Below w.heap.size w (grow ((w.alloc o).drewN k) os) := fun o k os => ((RowKit.Below.refl _ _).alloc (Nat.le_refl _) _).trans (Lib.below_grow _ _ (by rw [World.size_alloc]; omega) k os)
  have bel0 : ∀ (o : Obj), RowKit.Below w.heap.size w (w.alloc o) := fun o => (RowKit.Below.refl _ _).alloc (Nat.le_refl _) _
  by_cases k1 : kd = 1
  · subst k1
    have e : oneL ((1, n), s) = Lib.itoa n := by unfold oneL; simp
    rw [e]
    go_enter Ybaf.func16, Ybaf.ntmps16
    go_wp2_with (go_at_call 18; refine (Ybaf.strconv_FormatInt_10 n n0 n1 _ (Lib.tabIs_alloc htab _)).mono ?_; rintro e w' ⟨rfl, k, os, rfl⟩)
    go_ret
    exact ⟨rfl, bel1 _ _ _⟩
  by_cases k2 : kd = 2
  · subst k2
    have e : oneL ((2, n), s) = utoaL (n % 18446744073709551616).toNat := by unfold oneL; simp
    rw [e]
    obtain ⟨u, hu⟩ : ∃ u : Nat, (n % 18446744073709551616).toNat = u := ⟨_, rfl⟩
    have hu64 : u < 18446744073709551616 := by omega
    have hw : IntKind.u64.wrap n = (u : Int) := by rw [IntKind.wrap_u64]; omega
    rw [hu]
    clear hu
    go_enter Ybaf.func16, Ybaf.ntmps16
    go_wp2_with (go_at_call 19; refine (uint_any u hu64 _ (Lib.tabIs_alloc htab _)).mono ?_; rintro e w' ⟨rfl, k, os, rfl⟩)
    go_ret
    exact ⟨rfl, bel1 _ _ _⟩
  by_cases k7 : kd = 7
  · subst k7
    have e : oneL ((7, n), s) = [78, 85, 76, 76] := by unfold oneL; simp
    rw [e]
    go_enter Ybaf.func16, Ybaf.ntmps16
    go_wp2_with fail
    go_ret
    exact ⟨rfl, bel0 _⟩
  by_cases k8 : kd = 8
  · subst k8
    have e : oneL ((8, n), s) = [77, 65, 88, 86, 65, 76, 85, 69] := by unfold oneL; simp
    rw [e]
    go_enter Ybaf.func16, Ybaf.ntmps16
    go_wp2_with fail
    go_ret
    exact ⟨rfl, bel0 _⟩
  · have e : oneL ((kd, n), s) = s.data.toList := by unfold oneL; simp [h3, h4, k1, k2, k7, k8]
    rw [e, byte_str]
    go_enter Ybaf.func16, Ybaf.ntmps16
    go_wp2_with fail
    go_ret
    exact ⟨rfl, bel0 _⟩
end Go.Proofs.YbulkdneaFmt
