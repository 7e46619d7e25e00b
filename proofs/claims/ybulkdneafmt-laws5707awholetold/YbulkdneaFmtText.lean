/- WALK: quoteText. -/
import Derived.Test.YbulkdneaFmtBld
import Derived.Test.YbulkdneaFmtQuote
namespace Go.Proofs.YbulkdneaFmt
open Go.RowKit

set_option maxHeartbeats 1000000 in
set_option maxRecDepth 100000 in
theorem text_any (B b : Nat) (l : List UInt8) (s : ByteArray) (w : World) (h : Lib.IsBuilderF 43 5 B b (Lib.byteCells l) w) (hBw : B ≤ w.heap.size) (hs : s.size ≤ 1048576) (hl : l.length ≤ 100000000) :
    Calls Ybaf.prog 14 #[.pointer (some ⟨b, 0, none⟩), .string s] w fun e w' => e = .returned (.tuple #[]) ∧ Lib.IsBuilderF 43 5 B b (Lib.byteCells (l ++ quoteL s)) w' ∧ RowKit.Below B w w' ∧ Lib.OthersKept 5 (some b) w w' := by
  go_enter Ybaf.func14, Ybaf.ntmps14
  go_wp2_with fail
  refine (wbyte B b l 39 _ h (by omega) hBw).mono ?_
  rintro e w1 ⟨rfl, R, bl, ok⟩
  have R0 : Hid (Lib.IsBuilderF 43 5 B b (Lib.byteCells (l ++ 39 :: body s 0)) w1 ∧ RowKit.Below B w w1 ∧ Lib.OthersKept 5 (some b) w w1) := (⟨R, bl, ok⟩ : Lib.IsBuilderF 43 5 B b (Lib.byteCells (l ++ 39 :: body s 0)) w1 ∧ RowKit.Below B w w1 ∧ Lib.OthersKept 5 (some b) w w1)
  clear R bl ok h
  go_wp2_with fail
  go_loopg [4] s.size (fun gg s4 wr => ∃ j : Nat, s4 = .int .i64 j ∧ j ≤ s.size ∧ s.size - j ≤ gg ∧ Hid (Lib.IsBuilderF 43 5 B b (Lib.byteCells (l ++ 39 :: body s j)) wr ∧ RowKit.Below B w wr ∧ Lib.OthersKept 5 (some b) w wr))
  case atStart => exact ⟨0, rfl, by omega, by omega, R0⟩
  case round =>
    obtain ⟨j, rfl, hj, hg, RR⟩ := hrel
    clear R0
    have hlen := body_len s j
    have hm : (l ++ 39 :: body s j).length = l.length + 1 + (body s j).length := by rw [List.length_append, List.length_cons]; omega
    have hBr : B ≤ wr.heap.size := Nat.le_trans hBw RR.out.2.1.size
    by_cases hlt : j < s.size
    · have d1 : (j : Int) < (s.size : Int) := by omega
      obtain ⟨c, hc⟩ : ∃ c, s[j]'hlt = c := ⟨_, rfl⟩
      rcases esc_cases c with e | e | e | e | e | e | ⟨q1, q2, q3, q4, q5, q6⟩
      · subst e
        have HE : Hid (esc 39 = [39, 39]) := (by decide : esc 39 = [39, 39])
        go_wp2_with fail
        refine (wstr B b _ ⟨#[39, 39]⟩ _ RR.out.1 (by rw [hm]; simp [ByteArray.size]; omega) hBr).mono ?_
        rintro e w2 ⟨rfl, R, bl, ok⟩
        have R2 : Hid (Lib.IsBuilderF 43 5 B b (Lib.byteCells (l ++ 39 :: body s (j + 1))) w2 ∧ RowKit.Below B w w2 ∧ Lib.OthersKept 5 (some b) w w2) := by
          refine (⟨?_, RR.out.2.1.trans bl, RR.out.2.2.trans ok⟩ : Lib.IsBuilderF 43 5 B b (Lib.byteCells (l ++ 39 :: body s (j + 1))) w2 ∧ RowKit.Below B w w2 ∧ Lib.OthersKept 5 (some b) w w2)
          rw [body_succ s j hlt, hc, HE.out]
          rw [List.append_assoc, List.cons_append] at R
          exact R
        clear R bl ok
        go_wp2_with fail
        go_roundg (s.size - (j + 1))
        case measure => omega
        case rel => exact ⟨j + 1, by go_num, by omega, by omega, R2⟩
      · subst e
        have HE : Hid (esc 92 = [92, 92]) := (by decide : esc 92 = [92, 92])
        go_wp2_with fail
        refine (wstr B b _ ⟨#[92, 92]⟩ _ RR.out.1 (by rw [hm]; simp [ByteArray.size]; omega) hBr).mono ?_
        rintro e w2 ⟨rfl, R, bl, ok⟩
        have R2 : Hid (Lib.IsBuilderF 43 5 B b (Lib.byteCells (l ++ 39 :: body s (j + 1))) w2 ∧ RowKit.Below B w w2 ∧ Lib.OthersKept 5 (some b) w w2) := by
          refine (⟨?_, RR.out.2.1.trans bl, RR.out.2.2.trans ok⟩ : Lib.IsBuilderF 43 5 B b (Lib.byteCells (l ++ 39 :: body s (j + 1))) w2 ∧ RowKit.Below B w w2 ∧ Lib.OthersKept 5 (some b) w w2)
          rw [body_succ s j hlt, hc, HE.out]
          rw [List.append_assoc, List.cons_append] at R
          exact R
        clear R bl ok
        go_wp2_with fail
        go_roundg (s.size - (j + 1))
        case measure => omega
        case rel => exact ⟨j + 1, by go_num, by omega, by omega, R2⟩
      · subst e
        have HE : Hid (esc 0 = [92, 48]) := (by decide : esc 0 = [92, 48])
        go_wp2_with fail
        refine (wstr B b _ ⟨#[92, 48]⟩ _ RR.out.1 (by rw [hm]; simp [ByteArray.size]; omega) hBr).mono ?_
        rintro e w2 ⟨rfl, R, bl, ok⟩
        have R2 : Hid (Lib.IsBuilderF 43 5 B b (Lib.byteCells (l ++ 39 :: body s (j + 1))) w2 ∧ RowKit.Below B w w2 ∧ Lib.OthersKept 5 (some b) w w2) := by
          refine (⟨?_, RR.out.2.1.trans bl, RR.out.2.2.trans ok⟩ : Lib.IsBuilderF 43 5 B b (Lib.byteCells (l ++ 39 :: body s (j + 1))) w2 ∧ RowKit.Below B w w2 ∧ Lib.OthersKept 5 (some b) w w2)
          rw [body_succ s j hlt, hc, HE.out]
          rw [List.append_assoc, List.cons_append] at R
          exact R
        clear R bl ok
        go_wp2_with fail
        go_roundg (s.size - (j + 1))
        case measure => omega
        case rel => exact ⟨j + 1, by go_num, by omega, by omega, R2⟩
      · subst e
        have HE : Hid (esc 10 = [92, 110]) := (by decide : esc 10 = [92, 110])
        go_wp2_with fail
        refine (wstr B b _ ⟨#[92, 110]⟩ _ RR.out.1 (by rw [hm]; simp [ByteArray.size]; omega) hBr).mono ?_
        rintro e w2 ⟨rfl, R, bl, ok⟩
        have R2 : Hid (Lib.IsBuilderF 43 5 B b (Lib.byteCells (l ++ 39 :: body s (j + 1))) w2 ∧ RowKit.Below B w w2 ∧ Lib.OthersKept 5 (some b) w w2) := by
          refine (⟨?_, RR.out.2.1.trans bl, RR.out.2.2.trans ok⟩ : Lib.IsBuilderF 43 5 B b (Lib.byteCells (l ++ 39 :: body s (j + 1))) w2 ∧ RowKit.Below B w w2 ∧ Lib.OthersKept 5 (some b) w w2)
          rw [body_succ s j hlt, hc, HE.out]
          rw [List.append_assoc, List.cons_append] at R
          exact R
        clear R bl ok
        go_wp2_with fail
        go_roundg (s.size - (j + 1))
        case measure => omega
        case rel => exact ⟨j + 1, by go_num, by omega, by omega, R2⟩
      · subst e
        have HE : Hid (esc 13 = [92, 114]) := (by decide : esc 13 = [92, 114])
        go_wp2_with fail
        refine (wstr B b _ ⟨#[92, 114]⟩ _ RR.out.1 (by rw [hm]; simp [ByteArray.size]; omega) hBr).mono ?_
        rintro e w2 ⟨rfl, R, bl, ok⟩
        have R2 : Hid (Lib.IsBuilderF 43 5 B b (Lib.byteCells (l ++ 39 :: body s (j + 1))) w2 ∧ RowKit.Below B w w2 ∧ Lib.OthersKept 5 (some b) w w2) := by
          refine (⟨?_, RR.out.2.1.trans bl, RR.out.2.2.trans ok⟩ : Lib.IsBuilderF 43 5 B b (Lib.byteCells (l ++ 39 :: body s (j + 1))) w2 ∧ RowKit.Below B w w2 ∧ Lib.OthersKept 5 (some b) w w2)
          rw [body_succ s j hlt, hc, HE.out]
          rw [List.append_assoc, List.cons_append] at R
          exact R
        clear R bl ok
        go_wp2_with fail
        go_roundg (s.size - (j + 1))
        case measure => omega
        case rel => exact ⟨j + 1, by go_num, by omega, by omega, R2⟩
      · subst e
        have HE : Hid (esc 26 = [92, 90]) := (by decide : esc 26 = [92, 90])
        go_wp2_with fail
        refine (wstr B b _ ⟨#[92, 90]⟩ _ RR.out.1 (by rw [hm]; simp [ByteArray.size]; omega) hBr).mono ?_
        rintro e w2 ⟨rfl, R, bl, ok⟩
        have R2 : Hid (Lib.IsBuilderF 43 5 B b (Lib.byteCells (l ++ 39 :: body s (j + 1))) w2 ∧ RowKit.Below B w w2 ∧ Lib.OthersKept 5 (some b) w w2) := by
          refine (⟨?_, RR.out.2.1.trans bl, RR.out.2.2.trans ok⟩ : Lib.IsBuilderF 43 5 B b (Lib.byteCells (l ++ 39 :: body s (j + 1))) w2 ∧ RowKit.Below B w w2 ∧ Lib.OthersKept 5 (some b) w w2)
          rw [body_succ s j hlt, hc, HE.out]
          rw [List.append_assoc, List.cons_append] at R
          exact R
        clear R bl ok
        go_wp2_with fail
        go_roundg (s.size - (j + 1))
        case measure => omega
        case rel => exact ⟨j + 1, by go_num, by omega, by omega, R2⟩
      · have HE : Hid (esc c = [c]) := (by unfold esc; simp [q1, q2, q3, q4, q5, q6] : esc c = [c])
        have e1 : (c.toNat : Int) ≠ 39 := ne_byte q1
        have e2 : (c.toNat : Int) ≠ 92 := ne_byte q2
        have e3 : (c.toNat : Int) ≠ 0 := ne_byte q3
        have e4 : (c.toNat : Int) ≠ 10 := ne_byte q4
        have e5 : (c.toNat : Int) ≠ 13 := ne_byte q5
        have e6 : (c.toNat : Int) ≠ 26 := ne_byte q6
        clear q1 q2 q3 q4 q5 q6
        go_wp2_with fail
        refine (wbyte B b _ c _ RR.out.1 (by rw [hm]; omega) hBr).mono ?_
        rintro e w2 ⟨rfl, R, bl, ok⟩
        have R2 : Hid (Lib.IsBuilderF 43 5 B b (Lib.byteCells (l ++ 39 :: body s (j + 1))) w2 ∧ RowKit.Below B w w2 ∧ Lib.OthersKept 5 (some b) w w2) := by
          refine (⟨?_, RR.out.2.1.trans bl, RR.out.2.2.trans ok⟩ : Lib.IsBuilderF 43 5 B b (Lib.byteCells (l ++ 39 :: body s (j + 1))) w2 ∧ RowKit.Below B w w2 ∧ Lib.OthersKept 5 (some b) w w2)
          rw [body_succ s j hlt, hc, HE.out]
          rw [List.append_assoc, List.cons_append] at R
          exact R
        clear R bl ok
        go_wp2_with fail
        go_roundg (s.size - (j + 1))
        case measure => omega
        case rel => exact ⟨j + 1, by go_num, by omega, by omega, R2⟩
    · have hjn : j = s.size := by omega
      subst hjn
      have d1 : decide ((s.size : Int) < (s.size : Int)) = false := decide_eq_false (by omega)
      go_wp2_with fail
      refine (wbyte B b _ 39 _ RR.out.1 (by rw [hm]; omega) hBr).mono ?_
      rintro e w2 ⟨rfl, R, bl, ok⟩
      go_wp2_with fail
      go_end0
      refine ⟨rfl, ?_, RR.out.2.1.trans bl, RR.out.2.2.trans ok⟩
      rw [List.append_assoc, List.cons_append, body_all] at R
      exact R
end Go.Proofs.YbulkdneaFmt
