/- WALK: (*OffsetMonitor).drop. -/
import Derived.Test.YbulkdndmSmall
import Derived.Maps.OwnSet
import Derived.Below
namespace Go.Proofs.Ybulkdndm
open Go.RowKit Go.Maps

theorem law9 : Keyed Yba.prog 9 := string_keyed Yba.underlying9
theorem zero25 (w : World) : (zeroValue 25).run Yba.prog w = .ok (.int .i64 0) w := by kernel_rfl
theorem zero2 (w : World) : (zeroValue 2).run Yba.prog w = .ok (.int .i64 0) w := by kernel_rfl

set_option maxHeartbeats 400000 in
/-- The peer is not there. -/
theorem drop_no (sb bm n : Nat) (D : DataW Unit) (s : ByteArray) (w : World) (c3 : w.cell? ⟨sb, 3, none⟩ = some (.map (some bm)))
    (hown : w.ownsMap Yba.prog 9 (plainElem Yba.prog 25) bm n D) (kl : Lit) (hkl : keyOf Yba.prog 9 (.string s) = some kl) (hno : Maps.has D kl = false) :
    Calls Yba.prog 11 #[.pointer (some ⟨sb, 0, none⟩), .string s] w fun e w' => e = .returned (.tuple #[]) ∧ w' = w := by
  go_enter Yba.func11, Yba.ntmps11
  go_wp2_with (first
    | (at_lookup; refine wpList_lookup_own_ok_int _ rfl _ _ 41 rfl 9 25 .i64 law9 Yba.underlying41 Yba.underlying25 (zero25 _) bm n D rfl hown _ _ rfl hkl ?_; intro c hat hwc)
    | go_in)
  exact bodyPost_ret (v := .tuple #[]) (by simp [results, Yba.results11, go_sem]) rfl ⟨rfl, rfl⟩

theorem cell_kept {w w' : World} {b : Nat} (h : w'.heap[b]? = w.heap[b]?) (o : Nat) : w'.cell? ⟨b, o, none⟩ = w.cell? ⟨b, o, none⟩ ∧ w'.frozen? ⟨b, o, none⟩ = w.frozen? ⟨b, o, none⟩ := by
  simp [World.cell?, World.frozen?, h]
theorem heap_set_other (w : World) (b k : Nat) (v : Value) (j : Nat) (h : j ≠ b) : (w.setCell ⟨b, k, none⟩ v).heap[j]? = w.heap[j]? := by
  simp only [World.setCell, Array.getElem?_modify]
  rw [if_neg (fun e => h e.symm)]

/-- The monitor's cells that matter. -/
structure Mon (w : World) (sb bm : Nat) (mx out : Int) : Prop where
  c0 : w.cell? ⟨sb, 0, none⟩ = some (.int .i64 mx)
  c3 : w.cell? ⟨sb, 3, none⟩ = some (.map (some bm))
  c4 : w.cell? ⟨sb, 4, none⟩ = some (.int .i64 out)
  f3 : w.frozen? ⟨sb, 3, none⟩ = false
  f4 : w.frozen? ⟨sb, 4, none⟩ = false
  lt : sb < w.heap.size
  ne : sb ≠ bm

set_option maxHeartbeats 1000000 in
/-- The peer is there. -/
theorem drop_yes (sb bm n base : Nat) (D : DataW Unit) (s : ByteArray) (mx out : Int) (w : World) (M : Mon w sb bm mx out) (m0 : 0 ≤ mx) (m1 : mx ≤ 9223372036854775807)
    (hown : w.ownsMap Yba.prog 9 (plainElem Yba.prog 25) bm n D) (kl : Lit) (hkl : keyOf Yba.prog 9 (.string s) = some kl) (hyes : Maps.has D kl = true) (hb1 : base ≤ sb) (hb2 : base ≤ bm) (hbw : base ≤ w.heap.size) :
    Calls Yba.prog 11 #[.pointer (some ⟨sb, 0, none⟩), .string s] w fun e w' => e = .returned (.tuple #[]) ∧ ∃ c, D.atKey kl (.lit (.int .i64 0)) = .lit (.int .i64 c) ∧ (Lit.int .i64 c).wf = true ∧
      w'.ownsMap Yba.prog 9 (plainElem Yba.prog 25) bm n (D.del kl) ∧ Mon w' sb bm mx (if ex c mx = true then wrap64 (out - 1) else out) ∧ w.heap.size ≤ w'.heap.size ∧ (∀ j, j < w.heap.size → j ≠ bm → j ≠ sb → w'.heap[j]? = w.heap[j]?) ∧ RowKit.Below base w w' := by
  have c3 := M.c3
  have MM : Hid (Mon w sb bm mx out) := M
  clear M
  go_enter Yba.func11, Yba.ntmps11
  go_wp2_with (first
    | (at_lookup; refine wpList_lookup_own_ok_int _ rfl _ _ 41 rfl 9 25 .i64 law9 Yba.underlying41 Yba.underlying25 (zero25 _) bm n D rfl hown _ _ rfl hkl ?_; intro c hat hwc)
    | (at_delete; refine wpList_delete_own _ rfl _ _ 41 9 rfl 25 law9 Yba.underlying41 _ bm n D rfl hown _ _ rfl hkl ?_; intro w1 hown1 hturn1))
  have kb := hturn1.grown.block sb MM.out.lt (fun e => MM.out.ne (Option.some.inj e))
  have k0 := (cell_kept kb 0).1.trans MM.out.c0
  have k3 := (cell_kept kb 3).1.trans MM.out.c3
  have k4 := (cell_kept kb 4).1.trans MM.out.c4
  have g3 := (cell_kept kb 3).2.trans MM.out.f3
  have g4 := (cell_kept kb 4).2.trans MM.out.f4
  have hz := hturn1.grown.size
  have hbel : RowKit.Below base w w1 := (RowKit.Below.refl _ _).grown hturn1.grown hbw (fun k e => by cases e; exact hb2)
  have M1 : Hid (Mon w1 sb bm mx out) := (⟨k0, k3, k4, g3, g4, by have := MM.out.lt; omega, MM.out.ne⟩ : Mon w1 sb bm mx out)
  have HO : Hid (w1.ownsMap Yba.prog 9 (plainElem Yba.prog 25) bm n (D.del kl)) := hown1
  have HT : Hid (w.grownBy w1 (some bm)) := hturn1.grown
  have HB : Hid (RowKit.Below base w w1) := hbel
  clear hown1 hturn1 hbel hown
  refine (exc_any sb mx c _ k0 m0 m1).mono ?_
  rintro e w2 ⟨rfl, rfl⟩
  cases he : ex c mx with
  | true =>
    go_wp2
    go_end0
    refine ⟨rfl, c, hat, hwc, HO.out.setCell (Ne.symm MM.out.ne) _, ?_, by simpa [World.setCell] using hz, fun j hj h1 h2 => (heap_set_other _ _ _ _ _ h2).trans (HT.out.block j hj (fun e => h1 (Option.some.inj e))), HB.out.setCell hb1 _⟩
    simp only [he, if_true]
    refine ⟨?_, ?_, ?_, ?_, ?_, by simpa [World.setCell] using M1.out.lt, MM.out.ne⟩
    · rw [World.cell?_setCell_other _ _ _ _ (fun e => by cases e)]; exact k0
    · rw [World.cell?_setCell_other _ _ _ _ (fun e => by cases e)]; exact k3
    · exact World.cell?_setCell_same _ _ _ k4
    · rw [World.frozen?_setCell]; exact g3
    · rw [World.frozen?_setCell]; exact g4
  | false =>
    go_wp2
    go_end0
    refine ⟨rfl, c, hat, hwc, HO.out, ?_, hz, fun j hj h1 h2 => HT.out.block j hj (fun e => h1 (Option.some.inj e)), HB.out⟩
    simp only [he]
    exact M1.out
end Go.Proofs.Ybulkdndm
