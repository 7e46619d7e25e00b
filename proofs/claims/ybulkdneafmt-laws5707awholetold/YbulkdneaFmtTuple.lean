/- WALKS: describeTuple, bound, description. -/
import Derived.Test.YbulkdneaFmtText
import Derived.Test.YbulkdneaFmtUint
import Derived.Test.YbulkdneaFmtOne
namespace Go.Proofs.YbulkdneaFmt
open Go.RowKit

/-- A run of values in memory. -/
def ValsAt (w : World) (vb vo : Nat) (vs : List VV) : Prop := ∀ j, j < vs.length → w.cell? ⟨vb, vo + j * 3, none⟩ = some (.int .u8 (vs[j]!).1.1) ∧ w.cell? ⟨vb, vo + j * 3 + 1, none⟩ = some (.int .i64 (vs[j]!).1.2) ∧ w.cell? ⟨vb, vo + j * 3 + 2, none⟩ = some (.string (vs[j]!).2)
def ValsOk (vs : List VV) : Prop := ∀ v ∈ vs, v.2.size ≤ 1048576 ∧ -9223372036854775808 ≤ v.1.2 ∧ v.1.2 ≤ 9223372036854775807
theorem ValsOk.at {vs : List VV} (h : ValsOk vs) {j : Nat} (hj : j < vs.length) : (vs[j]!).2.size ≤ 1048576 ∧ -9223372036854775808 ≤ (vs[j]!).1.2 ∧ (vs[j]!).1.2 ≤ 9223372036854775807 := by
  rw [getElem!_pos vs j hj]
  exact h _ (List.getElem_mem hj)
theorem ValsAt.below {w w' : World} {vb vo B : Nat} {vs : List VV} (h : ValsAt w vb vo vs) (hb : RowKit.Below B w w') (hv : vb < B) : ValsAt w' vb vo vs := fun j hj =>
  ⟨(hb.cell (p := ⟨vb, vo + j * 3, none⟩) hv).trans (h j hj).1, (hb.cell (p := ⟨vb, vo + j * 3 + 1, none⟩) hv).trans (h j hj).2.1, (hb.cell (p := ⟨vb, vo + j * 3 + 2, none⟩) hv).trans (h j hj).2.2⟩

theorem grown_below {w w' : World} (h : RowKit.Below w.heap.size w w') : w.grownBy w' none := ⟨h.os, h.tape, h.output, h.size, fun k hk _ => h.block k hk⟩
theorem bld_below {B b : Nat} {bs : List Value} {w w' : World} (h : Lib.IsBuilderF 43 5 B b bs w) (hb : RowKit.Below w.heap.size w w') : Lib.IsBuilderF 43 5 B b bs w' := by
  have key : ∀ p, Lib.BuilderAtF 43 5 B b p bs w → Lib.BuilderAtF 43 5 B b p bs w' := by
    rintro p ⟨hB, v, hbk, hown, hne⟩
    refine ⟨hB, v, (hb.block b (Array.getElem?_eq_some_iff.1 hbk).1).trans hbk, hown.kept (grown_below hb) ?_, hne⟩
    cases hv : v.ownBlock <;> simp
  exact h.elim (fun x => .inl (key _ x)) (fun x => .inr (key _ x))
theorem bld_alloc {B b : Nat} {bs : List Value} {w : World} (h : Lib.IsBuilderF 43 5 B b bs w) (o : Obj) : Lib.IsBuilderF 43 5 B b bs (w.alloc o) := bld_below h ((RowKit.Below.refl _ _).alloc (Nat.le_refl _) o)
theorem bld_lt {B b : Nat} {bs : List Value} {w : World} (h : Lib.IsBuilderF 43 5 B b bs w) : b < w.heap.size := h.elim (fun x => x.lt) (fun x => x.lt)

theorem joinL_len (vs : List VV) (ok : ValsOk vs) : ∀ i, i ≤ vs.length → (joinL vs i).length ≤ 2097155 * i
  | 0, _ => by simp [joinL]
  | i + 1, h => by
    have ih := joinL_len vs ok i (by omega)
    have h2 := ok.at (j := i) (by omega)
    have h3 := oneL_len vs[i]! h2.1 h2.2.1 h2.2.2
    rw [joinL, List.length_append, List.length_append]
    have : ((if 0 < i then [44] else []) : List UInt8).length ≤ 1 := by split <;> simp
    omega

set_option maxHeartbeats 2000000 in
set_option maxRecDepth 100000 in
theorem tuple_any (B b vb vo n vc : Nat) (vs : List VV) (w : World) (h : Lib.IsBuilderF 43 5 B b (Lib.byteCells []) w) (hBw : B ≤ w.heap.size) (hv : ValsAt w vb vo vs) (hvb : vb < B) (hn : vs.length = n) (hn4 : n ≤ 4) (ok : ValsOk vs) (htab : ∀ w', RowKit.Below B w w' → Tab w') :
    Calls Ybaf.prog 8 #[.pointer (some ⟨b, 0, none⟩), .slice (some ⟨vb, vo, none⟩) n vc] w fun e w' => e = .returned (.tuple #[]) ∧ Lib.IsBuilderF 43 5 B b (Lib.byteCells (joinL vs n)) w' ∧ RowKit.Below B w w' := by
  have HV : Hid (ValsAt w vb vo vs) := hv
  have HT : Hid (∀ w', RowKit.Below B w w' → Tab w') := htab
  have HO : Hid (ValsOk vs) := ok
  have R0 : Hid (Lib.IsBuilderF 43 5 B b (Lib.byteCells (joinL vs 0)) w ∧ RowKit.Below B w w) := (⟨h, RowKit.Below.refl _ _⟩ : Lib.IsBuilderF 43 5 B b (Lib.byteCells (joinL vs 0)) w ∧ RowKit.Below B w w)
  clear hv htab ok h
  go_enter Ybaf.func8, Ybaf.ntmps8
  go_wp2_with fail
  go_loopg [8] n (fun gg s8 wr => ∃ i : Nat, s8 = .int .i64 i ∧ i ≤ n ∧ n - i ≤ gg ∧ Hid (Lib.IsBuilderF 43 5 B b (Lib.byteCells (joinL vs i)) wr ∧ RowKit.Below B w wr))
  case atStart => exact ⟨0, rfl, by omega, by omega, R0⟩
  case round =>
    obtain ⟨i, rfl, hi, hg, RR⟩ := hrel
    clear R0
    have hjl := joinL_len vs HO.out i (by omega)
    by_cases hlt : i < n
    · have d1 : (i : Int) < (n : Int) := by omega
      obtain ⟨c0, c1, c2⟩ := (HV.out.below RR.out.2 hvb) i (by omega)
      obtain ⟨o1, o2, o3⟩ := HO.out.at (j := i) (by omega)
      have hjs : joinL vs (i + 1) = joinL vs i ++ ((if 0 < i then [44] else []) ++ oneL vs[i]!) := rfl
      obtain ⟨vv, hvv⟩ : ∃ vv, vs[i]! = vv := ⟨_, rfl⟩
      rw [hvv] at c0 c1 c2 o1 o2 o3 hjs
      obtain ⟨⟨kd, nn⟩, s⟩ := vv
      simp only at c0 c1 c2 o1 o2 o3
      have HJ : Hid (joinL vs (i + 1) = joinL vs i ++ ((if 0 < i then [44] else []) ++ oneL ((kd, nn), s))) := hjs
      have hol := oneL_len ((kd, nn), s) o1 o2 o3
      clear hvv hjs
      obtain ⟨q, hq⟩ : ∃ q, wr.heap.size = q := ⟨_, rfl⟩
      have hqn := heap_alloc_new wr (Obj.cells #[Value.int IntKind.u8 kd, Value.int IntKind.i64 nn, Value.string s] 29)
      rw [hq] at hqn
      have A5 := bld_alloc RR.out.1 (Obj.cells #[Value.int IntKind.u8 kd, Value.int IntKind.i64 nn, Value.string s] 29)
      have hBr : B ≤ wr.heap.size := Nat.le_trans hBw RR.out.2.size
      have B5 := RR.out.2.alloc hBr (Obj.cells #[Value.int IntKind.u8 kd, Value.int IntKind.i64 nn, Value.string s] 29)
      have hqb : q ≠ b := by have := bld_lt RR.out.1; omega
      by_cases hi0 : i = 0
      · have d2 : decide (0 < i) = false := decide_eq_false (by omega)
        have HJ5 : Hid (joinL vs (i + 1) = joinL vs i ++ oneL ((kd, nn), s)) := by have := HJ.out; rw [if_neg (by omega)] at this; exact this
        have R5 : Hid (Lib.IsBuilderF 43 5 B b (Lib.byteCells (joinL vs i)) (wr.alloc (Obj.cells #[Value.int IntKind.u8 kd, Value.int IntKind.i64 nn, Value.string s] 29)) ∧ RowKit.Below B w (wr.alloc (Obj.cells #[Value.int IntKind.u8 kd, Value.int IntKind.i64 nn, Value.string s] 29))) := ⟨A5, B5⟩
        clear A5 B5 hqn hi0
        have hl5 : (joinL vs i).length ≤ 90000000 := by omega
        have hB5 : B ≤ (wr.alloc (Obj.cells #[Value.int IntKind.u8 kd, Value.int IntKind.i64 nn, Value.string s] 29)).heap.size := Nat.le_trans hBw R5.out.2.size
        by_cases k34 : kd = 3 ∨ kd = 4
        · have e34 : oneL ((kd, nn), s) = quoteL s := by unfold oneL; rw [if_pos k34]
          rcases k34 with e3 | e3
          · subst e3
            go_wp2_with fail
            refine (text_any B b _ s _ R5.out.1 hB5 o1 (by omega)).mono ?_
            rintro e w6 ⟨rfl, R6, bl6, _⟩
            have R7 : Hid (Lib.IsBuilderF 43 5 B b (Lib.byteCells (joinL vs (i + 1))) w6 ∧ RowKit.Below B w w6) := by
              refine (⟨?_, R5.out.2.trans bl6⟩ : Lib.IsBuilderF 43 5 B b (Lib.byteCells (joinL vs (i + 1))) w6 ∧ RowKit.Below B w w6)
              rw [HJ5.out, e34]; exact R6
            clear R6 bl6
            go_wp2_with fail
            go_roundg (n - (i + 1))
            case measure => omega
            case rel => exact ⟨i + 1, by go_num, by omega, by omega, R7⟩
          · subst e3
            go_wp2_with fail
            refine (text_any B b _ s _ R5.out.1 hB5 o1 (by omega)).mono ?_
            rintro e w6 ⟨rfl, R6, bl6, _⟩
            have R7 : Hid (Lib.IsBuilderF 43 5 B b (Lib.byteCells (joinL vs (i + 1))) w6 ∧ RowKit.Below B w w6) := by
              refine (⟨?_, R5.out.2.trans bl6⟩ : Lib.IsBuilderF 43 5 B b (Lib.byteCells (joinL vs (i + 1))) w6 ∧ RowKit.Below B w w6)
              rw [HJ5.out, e34]; exact R6
            clear R6 bl6
            go_wp2_with fail
            go_roundg (n - (i + 1))
            case measure => omega
            case rel => exact ⟨i + 1, by go_num, by omega, by omega, R7⟩
        · have k3 : kd ≠ 3 := fun e => k34 (.inl e)
          have k4 : kd ≠ 4 := fun e => k34 (.inr e)
          go_wp2_with fail
          refine (string_any kd nn s _ k3 k4 o2 o3 (HT.out _ R5.out.2)).mono ?_
          rintro e w6 ⟨rfl, bl6⟩
          have b6 := bld_below R5.out.1 bl6
          have hs6 := bl6.size
          have hz6 : (⟨(oneL ((kd, nn), s)).toArray⟩ : ByteArray).size = (oneL ((kd, nn), s)).length := by simp [ByteArray.size]
          go_wp2_with fail
          refine (wstr B b _ _ _ b6 (by rw [hz6]; omega) (by omega)).mono ?_
          rintro e w7 ⟨rfl, R8, bl8, _⟩
          have R7 : Hid (Lib.IsBuilderF 43 5 B b (Lib.byteCells (joinL vs (i + 1))) w7 ∧ RowKit.Below B w w7) := by
            refine (⟨?_, (R5.out.2.trans (bl6.mono hB5)).trans bl8⟩ : Lib.IsBuilderF 43 5 B b (Lib.byteCells (joinL vs (i + 1))) w7 ∧ RowKit.Below B w w7)
            rw [HJ5.out]; exact R8
          clear R8 bl8 b6 bl6
          go_wp2_with fail
          go_roundg (n - (i + 1))
          case measure => omega
          case rel => exact ⟨i + 1, by go_num, by omega, by omega, R7⟩
      · have d2 : 0 < i := by omega
        have HJ5 : Hid (joinL vs (i + 1) = (joinL vs i ++ [44]) ++ oneL ((kd, nn), s)) := by have := HJ.out; rw [if_pos (by omega), ← List.append_assoc] at this; exact this
        go_wp2_with fail
        refine (wbyte B b _ 44 _ A5 (by omega) (by rw [World.size_alloc]; omega)).mono ?_
        rintro e W5 ⟨rfl, R4, bl4, ok4⟩
        have hx5 := ok4 q _ hqn (fun e => hqb (Option.some.inj e)) (fun c fz e => by cases e)
        have HX : Hid (W5.heap[q]? = some (Obj.cells #[Value.int IntKind.u8 kd, Value.int IntKind.i64 nn, Value.string s] 29)) := hx5
        have R5 : Hid (Lib.IsBuilderF 43 5 B b (Lib.byteCells (joinL vs i ++ [44])) W5 ∧ RowKit.Below B w W5) := ⟨R4, B5.trans bl4⟩
        clear A5 B5 hqn R4 bl4 ok4 hx5
        have hl5 : (joinL vs i ++ [44]).length ≤ 90000000 := by rw [List.length_append]; simp; omega
        have s0 : W5.cell? ⟨q, 0, none⟩ = some (.int .u8 kd) := by simp [World.cell?, HX.out]
        have s1 : W5.cell? ⟨q, 1, none⟩ = some (.int .i64 nn) := by simp [World.cell?, HX.out]
        have s2 : W5.cell? ⟨q, 2, none⟩ = some (.string s) := by simp [World.cell?, HX.out]
        have hB5 : B ≤ W5.heap.size := Nat.le_trans hBw R5.out.2.size
        by_cases k34 : kd = 3 ∨ kd = 4
        · have e34 : oneL ((kd, nn), s) = quoteL s := by unfold oneL; rw [if_pos k34]
          rcases k34 with e3 | e3
          · subst e3
            go_wp2_with fail
            refine (text_any B b _ s _ R5.out.1 hB5 o1 (by omega)).mono ?_
            rintro e w6 ⟨rfl, R6, bl6, _⟩
            have R7 : Hid (Lib.IsBuilderF 43 5 B b (Lib.byteCells (joinL vs (i + 1))) w6 ∧ RowKit.Below B w w6) := by
              refine (⟨?_, R5.out.2.trans bl6⟩ : Lib.IsBuilderF 43 5 B b (Lib.byteCells (joinL vs (i + 1))) w6 ∧ RowKit.Below B w w6)
              rw [HJ5.out, e34]; exact R6
            clear R6 bl6
            go_wp2_with fail
            go_roundg (n - (i + 1))
            case measure => omega
            case rel => exact ⟨i + 1, by go_num, by omega, by omega, R7⟩
          · subst e3
            go_wp2_with fail
            refine (text_any B b _ s _ R5.out.1 hB5 o1 (by omega)).mono ?_
            rintro e w6 ⟨rfl, R6, bl6, _⟩
            have R7 : Hid (Lib.IsBuilderF 43 5 B b (Lib.byteCells (joinL vs (i + 1))) w6 ∧ RowKit.Below B w w6) := by
              refine (⟨?_, R5.out.2.trans bl6⟩ : Lib.IsBuilderF 43 5 B b (Lib.byteCells (joinL vs (i + 1))) w6 ∧ RowKit.Below B w w6)
              rw [HJ5.out, e34]; exact R6
            clear R6 bl6
            go_wp2_with fail
            go_roundg (n - (i + 1))
            case measure => omega
            case rel => exact ⟨i + 1, by go_num, by omega, by omega, R7⟩
        · have k3 : kd ≠ 3 := fun e => k34 (.inl e)
          have k4 : kd ≠ 4 := fun e => k34 (.inr e)
          go_wp2_with fail
          refine (string_any kd nn s _ k3 k4 o2 o3 (HT.out _ R5.out.2)).mono ?_
          rintro e w6 ⟨rfl, bl6⟩
          have b6 := bld_below R5.out.1 bl6
          have hs6 := bl6.size
          have hz6 : (⟨(oneL ((kd, nn), s)).toArray⟩ : ByteArray).size = (oneL ((kd, nn), s)).length := by simp [ByteArray.size]
          go_wp2_with fail
          refine (wstr B b _ _ _ b6 (by rw [hz6]; omega) (by omega)).mono ?_
          rintro e w7 ⟨rfl, R8, bl8, _⟩
          have R7 : Hid (Lib.IsBuilderF 43 5 B b (Lib.byteCells (joinL vs (i + 1))) w7 ∧ RowKit.Below B w w7) := by
            refine (⟨?_, (R5.out.2.trans (bl6.mono hB5)).trans bl8⟩ : Lib.IsBuilderF 43 5 B b (Lib.byteCells (joinL vs (i + 1))) w7 ∧ RowKit.Below B w w7)
            rw [HJ5.out]; exact R8
          clear R8 bl8 b6 bl6
          go_wp2_with fail
          go_roundg (n - (i + 1))
          case measure => omega
          case rel => exact ⟨i + 1, by go_num, by omega, by omega, R7⟩
    · have hin : i = n := by omega
      subst hin
      have d1 : decide ((i : Int) < (i : Int)) = false := decide_eq_false (by omega)
      go_wp2_with fail
      go_end0
      exact ⟨rfl, RR.out.1, RR.out.2⟩
end Go.Proofs.YbulkdneaFmt
