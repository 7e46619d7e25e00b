/- WALKS: strings.Builder's writers at this program (its copy check ends in a refused place here, so the shelf's own contracts do not lie): the shelf's walks turned to this program's numbers. -/
import Derived.Test.YbulkdneaFmtPlain
import Derived.Test.YbulkdneaFmtShelf
import Derived.Lib.AppendStr
import Derived.Lib.OthersKept
import Derived.Laws.Externs
namespace Go.Proofs.YbulkdneaFmt
open Go.RowKit

theorem sizeBuilder : (Ybaf.prog.info? 43).map (·.size) = some 2 := by kernel_rfl
theorem liesBuilder : liesAt Ybaf.prog Ybaf.prog.depth 43 (2 / Ybaf.prog.cellsOf 43) 0 43 1 = true := by kernel_rfl

set_option maxHeartbeats 1000000 in
set_option maxRecDepth 100000 in
theorem check_used (b : Nat) (w : World) (h0 : w.cell? ⟨b, 0, none⟩ = some (.pointer (some ⟨b, 0, none⟩))) :
    Calls Ybaf.prog 17 #[.pointer (some ⟨b, 0, none⟩)] w fun e w' => e = .returned (.tuple #[]) ∧ w' = w := by
  obtain ⟨j, hj, _⟩ := Option.map_eq_some_iff.1 sizeBuilder
  go_enter Ybaf.func17, Ybaf.ntmps17
  go_wp2
  rw [Lib.run_neq_ptr_same w _ Ybaf.underlying41 hj]
  go_wp2
  go_end0
  exact ⟨rfl, rfl⟩

set_option maxHeartbeats 1000000 in
set_option maxRecDepth 100000 in
theorem check_fresh (b : Nat) (w : World) (h0 : w.cell? ⟨b, 0, none⟩ = some (.pointer none)) (hsh : w.shape? b = some (43, 2)) (hfz : w.frozen? ⟨b, 0, none⟩ = false) :
    Calls Ybaf.prog 17 #[.pointer (some ⟨b, 0, none⟩)] w fun e w' => e = .returned (.tuple #[]) ∧ w' = w.setCell ⟨b, 0, none⟩ (.pointer (some ⟨b, 0, none⟩)) := by
  obtain ⟨j, hj, hjs⟩ := Option.map_eq_some_iff.1 sizeBuilder
  go_enter Ybaf.func17, Ybaf.ntmps17
  go_wp2
  rw [Lib.run_to_unsafe w ⟨b, 0, none⟩ Ybaf.underlying41 Ybaf.underlying63 hj (by rw [hjs]; decide) hsh (Nat.zero_lt_succ 1)]
  simp only [Result.andThen]
  rw [Oper.upon_value]
  go_wp2
  rw [run_callFunc_extern Ybaf.func22 (by kernel_rfl) (by kernel_rfl) (by kernel_rfl) (e := Extern.AbiNoEscape.same) (by kernel_rfl)]
  rw [Lib.run_noEscape]
  simp only [Result.andThen]
  rw [Oper.upon_value]
  go_wp2
  rw [Lib.run_from_unsafe w ⟨b, 0, none⟩ Ybaf.underlying63 Ybaf.underlying41 hj hsh liesBuilder]
  simp only [Result.andThen]
  rw [Oper.upon_value]
  go_wp2
  go_end0
  exact ⟨rfl, rfl⟩

theorem check_any (B b : Nat) (bs : List Value) (w : World) (h : Lib.IsBuilderF 43 5 B b bs w) :
    Calls Ybaf.prog 17 #[.pointer (some ⟨b, 0, none⟩)] w fun e w' => e = .returned (.tuple #[]) ∧ (Lib.BuilderAtF 43 5 B b (.pointer (some ⟨b, 0, none⟩)) bs w' ∧ Below B w w' ∧ Lib.OthersKept 5 (some b) w w') := by
  rcases h with h | h
  · refine (check_fresh b w h.cell0 h.shape h.frozen0).mono ?_
    rintro e w' ⟨rfl, rfl⟩
    exact ⟨rfl, h.used _, (Below.refl B w).setCell (p := ⟨b, 0, none⟩) h.1 _, (Lib.OthersKept.refl _ _ w).setCell ⟨b, 0, none⟩ rfl _⟩
  · refine (check_used b w h.cell0).mono ?_
    rintro e w' ⟨rfl, rfl⟩
    exact ⟨rfl, h, Below.refl B _, Lib.OthersKept.refl _ _ _⟩

set_option maxHeartbeats 2000000 in
set_option maxRecDepth 100000 in
theorem wbyte (B b : Nat) (l : List UInt8) (c : UInt8) (w : World) (h : Lib.IsBuilderF 43 5 B b (Lib.byteCells l) w) (hlen0 : l.length + 1 ≤ 140737488355328) (hBw : B ≤ w.heap.size) :
    Calls Ybaf.prog 13 #[.pointer (some ⟨b, 0, none⟩), .int .u8 c.toNat] w fun e w' => e = .returned .nilIface ∧ Lib.IsBuilderF 43 5 B b (Lib.byteCells (l ++ [c])) w' ∧ Below B w w' ∧ Lib.OthersKept 5 (some b) w w' := by
  obtain ⟨i0, hi, hz0, hz1, hz2⟩ := info_parts info5
  have hbl : (Lib.byteCells l).length = l.length := Lib.byteCells_length l
  go_enter Ybaf.func13, Ybaf.ntmps13
  go_wp2_with (go_at_call 17; refine (check_any B b _ _ h).mono ?_)
  rintro e w1 ⟨rfl, h1, hb1, hk1⟩
  obtain ⟨hB, v, hbk, hown, hne⟩ := h1
  rw [hbl] at hown
  have c0 : w1.cell? ⟨b, 0, none⟩ = some (.pointer (some ⟨b, 0, none⟩)) := by rw [Lib.cell_of_heap hbk]; rfl
  have c1 : w1.cell? ⟨b, 1, none⟩ = some v := by rw [Lib.cell_of_heap hbk]; rfl
  go_wp2_with (at_builtin; refine wpList_append_ownF _ rfl _ _ 37 rfl B 5 i0 (.int .u8 0) 1 1 Ybaf.underlying37 hi hz0 hz1 hz2 rfl (by decide) _ _ _ rfl (hown.alloc _) ⟨w1.heap.size, 0, none⟩ 1 1 [.int .u8 c.toNat] rfl rfl ?c1 ?c2 ?c3 ?c4 ?c5 ?_)
  case c1 => exact news1 _ _ _
  case c2 => exact one_bytes [c]
  case c3 => unfold maxLen; omega
  case c4 => omega
  case c5 => have := hb1.size; simp; omega
  intro v' w2 hown' hgrow _
  have hlt : b < w1.heap.size := (Array.getElem?_eq_some_iff.1 hbk).1
  have hb2 : w2.heap[b]? = some (.cells #[.pointer (some ⟨b, 0, none⟩), v] 43 (0, 0)) := by
    rw [hgrow.block b (by simp; omega) (fun e => hne e.symm), Lib.alloc_old w1 _ b hlt]
    exact hbk
  have d0 : w2.cell? ⟨b, 0, none⟩ = some (.pointer (some ⟨b, 0, none⟩)) := by rw [Lib.cell_of_heap hb2]; rfl
  have d1 : w2.cell? ⟨b, 1, none⟩ = some v := by rw [Lib.cell_of_heap hb2]; rfl
  have f1 : w2.frozen? ⟨b, 1, none⟩ = false := Lib.frozen_of_heap hb2 1
  obtain ⟨g, cap, rfl⟩ : ∃ g cap, v' = .slice (some ⟨g, 0, none⟩) (l.length + 1) cap := by
    rcases hown'.2 with ⟨_, h0⟩ | ⟨g, cap, cur, fz, hv, _⟩
    · omega
    · exact ⟨g, cap, hv⟩
  go_wp2
  go_ret
  refine ⟨rfl, .inr ?_, ?_, ((hk1.alloc _).grown hgrow (Lib.ownsRowF_kind (hown.alloc _))).setCell ⟨b, 1, none⟩ rfl _⟩
  · exact Lib.BuilderAtF.put (T := 43) (e := 5) hB hb2 (bs' := Lib.byteCells (l ++ [c])) (by rw [Lib.byteCells_length, byteCells_app, List.length_append]; exact hown') (by decide)
  · exact ((hb1.alloc (by have := hb1.size; omega) _).grown hgrow (by have := hb1.size; simp; omega) (fun k hk => (hown.lt k hk).1)).setCell (p := ⟨b, 1, none⟩) hB _

theorem strCells_bytes (s : ByteArray) : Lib.strCells s = Lib.byteCells s.data.toList := rfl

set_option maxHeartbeats 2000000 in
set_option maxRecDepth 100000 in
theorem wstr (B b : Nat) (l : List UInt8) (s : ByteArray) (w : World) (h : Lib.IsBuilderF 43 5 B b (Lib.byteCells l) w) (hlen0 : l.length + s.size ≤ 140737488355328) (hBw : B ≤ w.heap.size) :
    Calls Ybaf.prog 15 #[.pointer (some ⟨b, 0, none⟩), .string s] w fun e w' => e = .returned (.tuple #[.int .i64 s.size, .nilIface]) ∧ Lib.IsBuilderF 43 5 B b (Lib.byteCells (l ++ s.data.toList)) w' ∧ Below B w w' ∧ Lib.OthersKept 5 (some b) w w' := by
  obtain ⟨i0, hi, hz0, hz1, hz2⟩ := info_parts info5
  have hbl : (Lib.byteCells l).length = l.length := Lib.byteCells_length l
  go_enter Ybaf.func15, Ybaf.ntmps15
  go_wp2_with (go_at_call 17; refine (check_any B b _ _ h).mono ?_)
  rintro e w1 ⟨rfl, h1, hb1, hk1⟩
  obtain ⟨hB, v, hbk, hown, hne⟩ := h1
  rw [hbl] at hown
  have c0 : w1.cell? ⟨b, 0, none⟩ = some (.pointer (some ⟨b, 0, none⟩)) := by rw [Lib.cell_of_heap hbk]; rfl
  have c1 : w1.cell? ⟨b, 1, none⟩ = some v := by rw [Lib.cell_of_heap hbk]; rfl
  go_wp2_with (at_builtin; refine Lib.wpList_append_own_stringF _ rfl _ _ 37 9 rfl B 5 i0 Ybaf.underlying37 Ybaf.underlying9 hi hz0 hz1 hz2 _ _ _ rfl hown s rfl ?c3 ?c4 ?c5 ?_)
  case c3 => unfold maxLen; omega
  case c4 => omega
  case c5 => have := hb1.size; omega
  intro v' w2 hown' hgrow _
  have hlt : b < w1.heap.size := (Array.getElem?_eq_some_iff.1 hbk).1
  have hb2 : w2.heap[b]? = some (.cells #[.pointer (some ⟨b, 0, none⟩), v] 43 (0, 0)) := by
    rw [hgrow.block b hlt (fun e => hne e.symm)]
    exact hbk
  have d0 : w2.cell? ⟨b, 0, none⟩ = some (.pointer (some ⟨b, 0, none⟩)) := by rw [Lib.cell_of_heap hb2]; rfl
  have d1 : w2.cell? ⟨b, 1, none⟩ = some v := by rw [Lib.cell_of_heap hb2]; rfl
  have f1 : w2.frozen? ⟨b, 1, none⟩ = false := Lib.frozen_of_heap hb2 1
  obtain ⟨ao, n', cap, rfl⟩ : ∃ ao n' cap, v' = .slice ao n' cap := by
    rcases hown'.2 with ⟨hv, _⟩ | ⟨g, cap, cur, fz, hv, _⟩
    · exact ⟨_, _, _, hv⟩
    · exact ⟨_, _, _, hv⟩
  go_wp2
  go_ret2
  refine ⟨rfl, .inr ?_, ?_, (hk1.grown hgrow (Lib.ownsRowF_kind hown)).setCell ⟨b, 1, none⟩ rfl _⟩
  · exact Lib.BuilderAtF.put (T := 43) (e := 5) hB hb2 (bs' := Lib.byteCells (l ++ s.data.toList)) (by rw [Lib.byteCells_length, byteCells_app, List.length_append, ← strCells_bytes]; simpa using hown') (by decide)
  · exact (hb1.grown hgrow (by have := hb1.size; omega) (fun k hk => (hown.lt k hk).1)).setCell (p := ⟨b, 1, none⟩) hB _
end Go.Proofs.YbulkdneaFmt
