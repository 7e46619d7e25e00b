/- WALKS: compareHolders, (heads).less. -/
import Derived.Test.YbulkdnbwSmall
import Derived.Test.YbulkdnbwTail
import Derived.Shelf.GgSortFunc.RowK
import Derived.BigQuiet
namespace Go.Proofs.Ybulkdnbw
open Go.RowKit Go.Lib Go.Sort

/-- Some draws on, some blocks laid behind. -/
def Gr (w w' : World) : Prop := ∃ q os', w' = grow (w.drewN q) os'
theorem Gr.refl (w : World) : Gr w w := ⟨0, #[], by rw [grow_empty]; rfl⟩
theorem Gr.trans {w w1 w2 : World} (h1 : Gr w w1) (h2 : Gr w1 w2) : Gr w w2 := by
  obtain ⟨q, os, rfl⟩ := h1
  obtain ⟨q', os', rfl⟩ := h2
  exact ⟨q + q', os ++ os', by show grow (grow ((w.drewN q).drewN q') os) os' = _; rw [grow_grow, World.drewN_drewN]⟩
theorem Gr.alloc {w w1 : World} (h : Gr w w1) (o : Obj) : Gr w (w1.alloc o) := h.trans ⟨0, #[o], by rw [alloc_eq_grow]; rfl⟩
theorem Gr.drewN {w w1 : World} (h : Gr w w1) (q : Nat) : Gr w (w1.drewN q) := h.trans ⟨q, #[], by rw [grow_empty]⟩
theorem Gr.drew {w w1 : World} (h : Gr w w1) : Gr w w1.drew := h.drewN 1
theorem Gr.grown {w w1 : World} (h : Gr w w1) (n : Nat) (os : Array Obj) : Gr w (grow (w1.drewN n) os) := h.trans ⟨n, os, rfl⟩
theorem Gr.le {w w1 : World} (h : Gr w w1) : w.heap.size ≤ w1.heap.size := by
  obtain ⟨q, os, rfl⟩ := h; rw [size_grow]; exact Nat.le_add_right _ _
theorem Gr.cell {w w1 : World} (h : Gr w w1) {a : Addr} (hb : a.block < w.heap.size) : w1.cell? a = w.cell? a := by
  obtain ⟨q, os, rfl⟩ := h; rw [cell?_grow _ _ _ (by exact hb)]; rfl
theorem Gr.frozen {w w1 : World} (h : Gr w w1) {a : Addr} (hb : a.block < w.heap.size) : w1.frozen? a = w.frozen? a := by
  obtain ⟨q, os, rfl⟩ := h; rw [frozen?_grow _ _ _ (by exact hb)]; rfl

theorem or_cf (p q : Int) (w : World) (b c : Nat) (h0 : w.cell? ⟨b, 0, none⟩ = some (.int .i64 p)) (h1 : w.cell? ⟨b, 1, none⟩ = some (.int .i64 q)) :
    Calls Yba.prog 16 #[.slice (some ⟨b, 0, none⟩) 2 c] w fun e w' => e = .returned (.int .i64 (orI p q)) ∧ w' = w := or_any p q c w b h0 h1

/-- A callee that leaves the world alone, in a world of the class. -/
theorem grown_same {P : Program} {f : FuncId} {args : Array Value} {w : World} {n : Nat} {os : Array Obj} {v : Value}
    (h : Calls P f args (grow (w.drewN n) os) fun e w' => e = .returned v ∧ w' = grow (w.drewN n) os) : Calls P f args (grow (w.drewN n) os) fun e w'' => e = .returned v ∧ ∃ p : GrownBy, w'' = grow (w.drewN p.n) p.os :=
  h.mono fun _ _ ⟨he, hq⟩ => ⟨he, ⟨n, os⟩, hq⟩
theorem grown_gr {P : Program} {f : FuncId} {args : Array Value} {w : World} {n : Nat} {os : Array Obj} {v : Value}
    (h : Calls P f args (grow (w.drewN n) os) fun e w' => e = .returned v ∧ Gr (grow (w.drewN n) os) w') : Calls P f args (grow (w.drewN n) os) fun e w'' => e = .returned v ∧ ∃ p : GrownBy, w'' = grow (w.drewN p.n) p.os := Calls.grown_of h

set_option maxHeartbeats 1000000 in
set_option maxRecDepth 100000 in
theorem holders_any (a c a' c' : ByteArray) (w : World) : Calls Yba.prog 17 #[.agg #[.string a, .string c], .agg #[.string a', .string c']] w fun e w' => e = .returned (.int .i64 (orI (cb a a') (cb c c'))) ∧ Gr w w' := by
  have hs := fun (x y : ByteArray) (W : World) => (show Calls Yba.prog 21 #[.string x, .string y] W fun e w' => e = .returned (.int .i64 (cb x y)) ∧ w' = W from strCmp_any x y W)
  go_enter Yba.func17, Yba.ntmps17
  go_wp2_with fail
  have G0 : Hid (Gr w ((w.alloc (Obj.cells #[Value.string a, Value.string c] 29)).alloc (Obj.cells #[Value.string a', Value.string c'] 29))) := ((Gr.refl w).alloc _).alloc _
  have c0 : ∀ n os, (grow ((((w.alloc (Obj.cells #[Value.string a, Value.string c] 29)).alloc (Obj.cells #[Value.string a', Value.string c'] 29))).drewN n) os).cell? ⟨w.heap.size, 0, none⟩ = some (.string a) := fun n os => cell_grown (by simp; omega) (by simp) n os
  have c1 : ∀ n os, (grow ((((w.alloc (Obj.cells #[Value.string a, Value.string c] 29)).alloc (Obj.cells #[Value.string a', Value.string c'] 29))).drewN n) os).cell? ⟨w.heap.size, 1, none⟩ = some (.string c) := fun n os => cell_grown (by simp; omega) (by simp) n os
  have c2 : ∀ n os, (grow ((((w.alloc (Obj.cells #[Value.string a, Value.string c] 29)).alloc (Obj.cells #[Value.string a', Value.string c'] 29))).drewN n) os).cell? ⟨w.heap.size + 1, 0, none⟩ = some (.string a') := fun n os => cell_grown (by simp) (by simp) n os
  have c3 : ∀ n os, (grow ((((w.alloc (Obj.cells #[Value.string a, Value.string c] 29)).alloc (Obj.cells #[Value.string a', Value.string c'] 29))).drewN n) os).cell? ⟨w.heap.size + 1, 1, none⟩ = some (.string c') := fun n os => cell_grown (by simp) (by simp) n os
  generalize ((w.alloc (Obj.cells #[Value.string a, Value.string c] 29)).alloc (Obj.cells #[Value.string a', Value.string c'] 29)) = W at c0 c1 c2 c3 G0 ⊢
  refine wp_region_grown_tail 10 (by kernel_rfl) (by kernel_rfl) ?_
  simp only [List.take_succ_cons, List.take_zero, List.drop_succ_cons, List.drop_zero]
  repeat (quiet_step (first | (go_at_call 21; refine grown_same (hs _ _ _))))
  refine wpQuiet_nil ?_
  intro w' hw'
  obtain ⟨⟨nq, osq⟩, hw''⟩ := hw'
  subst hw''
  have G1 : Hid (Gr w (grow (W.drewN nq) osq)) := G0.out.grown nq osq
  clear c0 c1 c2 c3 G0 hs
  generalize grow (W.drewN nq) osq = w2 at G1 ⊢
  go_wp2_with (go_at_call 16; refine (or_cf (cb a a') (cb c c') _ _ _ (by simp) (by simp)).mono ?_; rintro e w' ⟨rfl, rfl⟩)
  go_ret
  exact ⟨rfl, G1.out.alloc _⟩

/-- A head's cells. -/
def encH (x : Item) : List Value := hcells x.1.1 x.1.2 x.2

set_option maxHeartbeats 2000000 in
set_option maxRecDepth 100000 in
theorem less_any (blk off n cap : Nat) (d : Array Item) (i j : Nat) (w : World) (hH : HoldsK encH 11 w blk off d) (hb : blk < w.heap.size) (hn : n ≤ d.size) (hi : i < n) (hj : j < n) :
    Calls Yba.prog 12 #[.slice (some ⟨blk, off, none⟩) n cap, .int .i64 i, .int .i64 j] w fun e w' => e = .returned (.bool (lt d[i]! d[j]!)) ∧ Gr w w' := by
  obtain ⟨⟨⟨a, c⟩, s⟩, hx⟩ : ∃ x, d[i]! = x := ⟨_, rfl⟩
  obtain ⟨⟨⟨a', c'⟩, s'⟩, hy⟩ : ∃ x, d[j]! = x := ⟨_, rfl⟩
  have hlt : lt d[i]! d[j]! = decide (orI (orI (cb a a') (cb c c')) (ci s s') < 0) := by rw [hx, hy]; rfl
  rw [hlt]
  have k0 := (hH.cell (i := i) (c := 0) (by omega) (by omega)).1
  have k1 := (hH.cell (i := i) (c := 1) (by omega) (by omega)).1
  have k2 := (hH.cell (i := i) (c := 10) (by omega) (by omega)).1
  have l0 := (hH.cell (i := j) (c := 0) (by omega) (by omega)).1
  have l1 := (hH.cell (i := j) (c := 1) (by omega) (by omega)).1
  have l2 := (hH.cell (i := j) (c := 10) (by omega) (by omega)).1
  rw [hx] at k0 k1 k2
  rw [hy] at l0 l1 l2
  simp [encH, hcells] at k0 k1 k2 l0 l1 l2
  clear hx hy hlt hH
  have K0 := fun n os => cell_grown (w := w) hb k0 n os
  have K1 := fun n os => cell_grown (w := w) hb k1 n os
  have K2 := fun n os => cell_grown (w := w) hb k2 n os
  have L0 := fun n os => cell_grown (w := w) hb l0 n os
  have L1 := fun n os => cell_grown (w := w) hb l1 n os
  have L2 := fun n os => cell_grown (w := w) hb l2 n os
  clear k0 k1 k2 l0 l1 l2
  have bi : (i : Int) < (n : Int) := by omega
  have bj : (j : Int) < (n : Int) := by omega
  have hs := fun (x y : Int) (W : World) => (show Calls Yba.prog 18 #[.int .i64 x, .int .i64 y] W fun e w' => e = .returned (.int .i64 (ci x y)) ∧ w' = W from cmpInt_any x y W)
  go_enter Yba.func12, Yba.ntmps12
  go_wp2_with fail
  refine wp_region_grown_tail 24 (by kernel_rfl) (by kernel_rfl) ?_
  simp only [List.take_succ_cons, List.take_zero, List.drop_succ_cons, List.drop_zero]
  repeat (quiet_step (first | (go_at_call 17; refine grown_gr (holders_any _ _ _ _ _)) | (go_at_call 18; refine grown_same (hs _ _ _))))
  refine wpQuiet_nil ?_
  intro w' hw'
  obtain ⟨⟨nq, osq⟩, hw''⟩ := hw'
  subst hw''
  have G1 : Hid (Gr w (grow (w.drewN nq) osq)) := (Gr.refl w).grown nq osq
  clear K0 K1 K2 L0 L1 L2 hs
  generalize grow (w.drewN nq) osq = w2 at G1 ⊢
  go_wp2_with (go_at_call 16; refine (or_cf (orI (cb a a') (cb c c')) (ci s s') _ _ _ (by simp) (by simp)).mono ?_; rintro e w' ⟨rfl, rfl⟩)
  go_ret
  exact ⟨rfl, G1.out.alloc _⟩
end Go.Proofs.Ybulkdnbw
