/- WALKS: bound, description. -/
import Derived.Test.YbulkdneaFmtTuple
namespace Go.Proofs.YbulkdneaFmt
open Go.RowKit

set_option maxHeartbeats 1000000 in
theorem tuple_zero (b : Nat) (a : Option Addr) (vc : Nat) (w : World) :
    Calls Ybaf.prog 8 #[.pointer (some ⟨b, 0, none⟩), .slice a 0 vc] w fun e w' => e = .returned (.tuple #[]) ∧ w' = w := by
  go_enter Ybaf.func8, Ybaf.ntmps8
  go_wp2_with fail
  go_loopg [8] 1 (fun _ s8 wr => s8 = .int .i64 0 ∧ wr = w)
  case atStart => exact ⟨rfl, rfl⟩
  case round =>
    obtain ⟨rfl, rfl⟩ := hrel
    go_wp2_with fail
    go_end0
    exact ⟨rfl, rfl⟩

set_option maxHeartbeats 1000000 in
set_option maxRecDepth 100000 in
theorem bound_any (pb k tc nb cb i : Nat) (vb : Nat) (ta : Option Addr) (w : World) (c0 : w.cell? ⟨pb, 0, none⟩ = some (.slice ta k tc)) (c1 : w.cell? ⟨pb, 1, none⟩ = some (.slice (some ⟨vb, 0, none⟩) nb cb)) (hk : 0 < k) (hk4 : k ≤ 4) (hi : i * k + k ≤ nb) (hnb : nb ≤ 65536) (hc : nb ≤ cb) :
    Calls Ybaf.prog 9 #[.pointer (some ⟨pb, 0, none⟩), .int .i64 i] w fun e w' => ∃ cap, e = .returned (.slice (some ⟨vb, i * k * 3, none⟩) k cap) ∧ w' = w := by
  have hik : i * k ≤ 65536 := by omega
  go_enter Ybaf.func9, Ybaf.ntmps9
  go_wp2_with fail
  go_ret
  have e : i * k + k - i * k = k := by omega
  exact ⟨cb - i * k, by rw [← e]; simp, rfl⟩

set_option maxHeartbeats 1000000 in
theorem bound_zero (pb tc cb : Nat) (i : Int) (a ta : Option Addr) (w : World) (c0 : w.cell? ⟨pb, 0, none⟩ = some (.slice ta 0 tc)) (c1 : w.cell? ⟨pb, 1, none⟩ = some (.slice a 0 cb)) :
    Calls Ybaf.prog 9 #[.pointer (some ⟨pb, 0, none⟩), .int .i64 i] w fun e w' => ∃ a' cap, e = .returned (.slice a' 0 cap) ∧ w' = w := by
  go_enter Ybaf.func9, Ybaf.ntmps9
  go_wp2_with fail
  go_ret
  exact ⟨_, _, rfl, rfl⟩

theorem bld_new (w : World) : Lib.IsBuilderF 43 5 w.heap.size w.heap.size (Lib.byteCells []) (w.alloc (.cells #[.pointer none, .slice none 0 0] 43)) :=
  .inl ⟨Nat.le_refl _, .slice none 0 0, heap_alloc_new _ _, World.ownsRowF_of (World.ownsRow_nil _ _ _ _), by simp [Value.ownBlock]⟩

set_option maxHeartbeats 1000000 in
set_option maxRecDepth 100000 in
theorem desc_any (pb k tc nb cb i : Nat) (vb : Nat) (ta : Option Addr) (vs : List VV) (w : World) (c0 : w.cell? ⟨pb, 0, none⟩ = some (.slice ta k tc)) (c1 : w.cell? ⟨pb, 1, none⟩ = some (.slice (some ⟨vb, 0, none⟩) nb cb)) (hk : 0 < k) (hk4 : k ≤ 4) (hi : i * k + k ≤ nb) (hnb : nb ≤ 65536) (hc : nb ≤ cb)
    (hv : ValsAt w vb (i * k * 3) vs) (hvl : vs.length = k) (ok : ValsOk vs) (hvb : vb < w.heap.size) (hpb : pb < w.heap.size) (htab : ∀ w', RowKit.Below w.heap.size w w' → Tab w') :
    Calls Ybaf.prog 5 #[.pointer (some ⟨pb, 0, none⟩), .int .i64 i] w fun e w' => e = .returned (.string ⟨(joinL vs k).toArray⟩) ∧ RowKit.Below w.heap.size w w' := by
  have bel1 := (RowKit.Below.refl w.heap.size w).alloc (Nat.le_refl _) (Obj.cells #[.pointer none, .slice none 0 0] 43)
  have b1 := bld_new w
  have k0 := (bel1.cell (p := ⟨pb, 0, none⟩) hpb).trans c0
  have k1 := (bel1.cell (p := ⟨pb, 1, none⟩) hpb).trans c1
  have hv1 := hv.below bel1 hvb
  have hs1 := bel1.size
  have HBel : Hid (RowKit.Below w.heap.size w (w.alloc (Obj.cells #[.pointer none, .slice none 0 0] 43))) := bel1
  have HB1 : Hid (Lib.IsBuilderF 43 5 w.heap.size w.heap.size (Lib.byteCells []) (w.alloc (Obj.cells #[.pointer none, .slice none 0 0] 43))) := b1
  have HV1 : Hid (ValsAt (w.alloc (Obj.cells #[.pointer none, .slice none 0 0] 43)) vb (i * k * 3) vs) := hv1
  clear bel1 b1 hv1 hv c0 c1
  go_enter Ybaf.func5, Ybaf.ntmps5
  go_wp2_with fail
  refine (bound_any pb k tc nb cb i vb ta _ k0 k1 hk hk4 hi hnb hc).mono ?_
  rintro e w2 ⟨cap, rfl, hw2⟩
  have hw2' := hw2.symm
  subst hw2'
  clear hw2
  go_wp2_with fail
  refine (tuple_any w.heap.size w.heap.size vb (i * k * 3) k cap vs _ HB1.out hs1 HV1.out hvb hvl hk4 ok (fun w' h' => htab w' (HBel.out.trans h'))).mono ?_
  rintro e w3 ⟨rfl, R3, bl3⟩
  have hs3 := bl3.size
  go_wp2_with fail
  refine (Ybaf.Builder_String_any_k w.heap.size w.heap.size _ _ R3 (by omega)).mono ?_
  rintro e w4 ⟨rfl, _, bl4, _⟩
  go_wp2_with fail
  go_ret
  exact ⟨rfl, (HBel.out.trans bl3).trans bl4⟩

set_option maxHeartbeats 1000000 in
set_option maxRecDepth 100000 in
theorem desc_zero (pb tc cb : Nat) (i : Int) (a ta : Option Addr) (w : World) (c0 : w.cell? ⟨pb, 0, none⟩ = some (.slice ta 0 tc)) (c1 : w.cell? ⟨pb, 1, none⟩ = some (.slice a 0 cb)) (hpb : pb < w.heap.size) :
    Calls Ybaf.prog 5 #[.pointer (some ⟨pb, 0, none⟩), .int .i64 i] w fun e w' => e = .returned (.string ⟨#[]⟩) ∧ RowKit.Below w.heap.size w w' := by
  have bel1 := (RowKit.Below.refl w.heap.size w).alloc (Nat.le_refl _) (Obj.cells #[.pointer none, .slice none 0 0] 43)
  have b1 := bld_new w
  have k0 := (bel1.cell (p := ⟨pb, 0, none⟩) hpb).trans c0
  have k1 := (bel1.cell (p := ⟨pb, 1, none⟩) hpb).trans c1
  have hs1 := bel1.size
  have HBel : Hid (RowKit.Below w.heap.size w (w.alloc (Obj.cells #[.pointer none, .slice none 0 0] 43))) := bel1
  have HB1 : Hid (Lib.IsBuilderF 43 5 w.heap.size w.heap.size (Lib.byteCells []) (w.alloc (Obj.cells #[.pointer none, .slice none 0 0] 43))) := b1
  clear bel1 b1 c0 c1
  go_enter Ybaf.func5, Ybaf.ntmps5
  go_wp2_with fail
  refine (bound_zero pb tc cb i a ta _ k0 k1).mono ?_
  rintro e w2 ⟨a', cap, rfl, hw2⟩
  have hw2' := hw2.symm
  subst hw2'
  clear hw2
  go_wp2_with fail
  refine (tuple_zero _ a' cap _).mono ?_
  rintro e w3 ⟨rfl, hw3⟩
  have hw3' := hw3.symm
  subst hw3'
  clear hw3
  go_wp2_with fail
  refine (Ybaf.Builder_String_any_k w.heap.size w.heap.size [] _ HB1.out hs1).mono ?_
  rintro e w4 ⟨rfl, _, bl4, _⟩
  go_wp2_with fail
  go_ret
  exact ⟨rfl, HBel.out.trans bl4⟩
end Go.Proofs.YbulkdneaFmt
