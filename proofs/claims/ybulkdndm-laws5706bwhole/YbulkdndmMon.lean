/- WALKS: the monitor's methods, by what they make of the list of peers. -/
import Derived.Test.YbulkdndmRel
import Derived.Test.YbulkdndmLocks
import Derived.Conc.MuLone
namespace Go.Proofs.Ybulkdndm
open Go.RowKit Go.Maps Go.MuLone

/-- The monitor in memory. -/
def monB (mx lk : Int) (bm : Nat) (out : Int) : Obj := .cells #[.int .i64 mx, .int .i32 lk, .int .u32 0, .map (some bm), .int .i64 out] 43

/-- New blocks, the monitor's two blocks, draws: no more is turned. -/
structure Fr2 (sb bm : Nat) (w w' : World) : Prop where
  os : w'.os = w.os
  tape : w'.tape = w.tape
  output : w'.output = w.output
  size : w.heap.size ≤ w'.heap.size
  block : ∀ j, j < w.heap.size → j ≠ sb → j ≠ bm → w'.heap[j]? = w.heap[j]?

theorem Fr2.refl (sb bm : Nat) (w : World) : Fr2 sb bm w w := ⟨rfl, rfl, rfl, Nat.le_refl _, fun _ _ _ _ => rfl⟩
theorem Fr2.trans {sb bm : Nat} {a b c : World} (h : Fr2 sb bm a b) (k : Fr2 sb bm b c) : Fr2 sb bm a c :=
  ⟨k.os.trans h.os, k.tape.trans h.tape, k.output.trans h.output, Nat.le_trans h.size k.size, fun j hj h1 h2 => (k.block j (Nat.lt_of_lt_of_le hj h.size) h1 h2).trans (h.block j hj h1 h2)⟩
theorem Fr2.set (sb bm : Nat) (w : World) (k : Nat) (v : Value) : Fr2 sb bm w (w.setCell ⟨sb, k, none⟩ v) :=
  ⟨rfl, rfl, rfl, by simp [World.setCell], fun j _ h1 _ => Below.heap_setCell _ _ _ _ h1⟩
theorem Fr2.turn {sb bm : Nat} {w w' : World} (h : w.grownBy w' (some bm)) : Fr2 sb bm w w' :=
  ⟨h.os, h.tape, h.output, h.size, fun j hj _ h2 => h.block j hj (fun e => h2 (Option.some.inj e))⟩

structure Box (w : World) (sb : Nat) (mx lk : Int) (bm : Nat) (out : Int) : Prop where
  box : w.heap[sb]? = some (monB mx lk bm out)
  ne : sb ≠ bm

section
variable {w : World} {sb bm : Nat} {mx lk out : Int}
theorem Box.lt (h : Box w sb mx lk bm out) : sb < w.heap.size := (Array.getElem?_eq_some_iff.1 h.box).1
theorem Box.c0 (h : Box w sb mx lk bm out) : w.cell? ⟨sb, 0, none⟩ = some (.int .i64 mx) := by simp [World.cell?, h.box, monB]
theorem Box.c1 (h : Box w sb mx lk bm out) : w.cell? ⟨sb, 1, none⟩ = some (.int .i32 lk) := by simp [World.cell?, h.box, monB]
theorem Box.c3 (h : Box w sb mx lk bm out) : w.cell? ⟨sb, 3, none⟩ = some (.map (some bm)) := by simp [World.cell?, h.box, monB]
theorem Box.c4 (h : Box w sb mx lk bm out) : w.cell? ⟨sb, 4, none⟩ = some (.int .i64 out) := by simp [World.cell?, h.box, monB]
theorem Box.fz (h : Box w sb mx lk bm out) (k : Nat) : w.frozen? ⟨sb, k, none⟩ = false := by simp [World.frozen?, h.box, monB]
theorem Box.set1 (h : Box w sb mx lk bm out) (l : Int) : Box (w.setCell ⟨sb, 1, none⟩ (.int .i32 l)) sb mx l bm out :=
  ⟨by simp [World.setCell, Array.getElem?_modify, h.box, monB], h.ne⟩
theorem Box.set4 (h : Box w sb mx lk bm out) (o : Int) : Box (w.setCell ⟨sb, 4, none⟩ (.int .i64 o)) sb mx lk bm o :=
  ⟨by simp [World.setCell, Array.getElem?_modify, h.box, monB], h.ne⟩
theorem Box.keep (h : Box w sb mx lk bm out) {w' : World} (g : w'.heap[sb]? = w.heap[sb]?) : Box w' sb mx lk bm out := ⟨g.trans h.box, h.ne⟩
theorem Box.turn (h : Box w sb mx lk bm out) {w' : World} (g : w.grownBy w' (some bm)) : Box w' sb mx lk bm out :=
  h.keep (g.block sb h.lt (fun e => h.ne (Option.some.inj e)))
end

/-- The monitor holds just the peers of L. -/
structure MI (w : World) (sb bm : Nat) (mx lk : Int) (N : Nat) (L : Peers) : Prop where
  box : Box w sb mx lk bm (cnt mx L)
  own : ∃ D n, n ≤ N ∧ w.ownsMap Yba.prog 9 (plainElem Yba.prog 25) bm n D ∧ Rel D L

theorem MI.perm {w : World} {sb bm : Nat} {mx lk : Int} {N : Nat} {L L' : Peers} (h : MI w sb bm mx lk N L) (p : L.Perm L') : MI w sb bm mx lk N L' := by
  obtain ⟨b, D, n, hn, o, r⟩ := h
  exact ⟨by rw [← cnt_perm p]; exact b, D, n, hn, o, r.perm p⟩
theorem MI.set1 {w : World} {sb bm : Nat} {mx lk : Int} {N : Nat} {L : Peers} (h : MI w sb bm mx lk N L) (l : Int) : MI (w.setCell ⟨sb, 1, none⟩ (.int .i32 l)) sb bm mx l N L := by
  obtain ⟨b, D, n, hn, o, r⟩ := h
  exact ⟨b.set1 l, D, n, hn, o.setCell (Ne.symm b.ne) _, r⟩
theorem MI.keep {w w' : World} {sb bm : Nat} {mx lk : Int} {N : Nat} {L : Peers} (h : MI w sb bm mx lk N L) (g1 : w'.heap[sb]? = w.heap[sb]?) (g2 : w'.heap[bm]? = w.heap[bm]?) : MI w' sb bm mx lk N L := by
  obtain ⟨b, D, n, hn, ⟨es, clock, hb, F, hs, hD⟩, r⟩ := h
  exact ⟨b.keep g1, D, n, hn, ⟨es, clock, g2.trans hb, F, hs, hD⟩, r⟩
theorem MI.up {w : World} {sb bm : Nat} {mx lk : Int} {N M : Nat} {L : Peers} (h : MI w sb bm mx lk N L) (hm : N ≤ M) : MI w sb bm mx lk M L := by
  obtain ⟨b, D, n, hn, o, r⟩ := h
  exact ⟨b, D, n, Nat.le_trans hn hm, o, r⟩
theorem MI.bm_lt {w : World} {sb bm : Nat} {mx lk : Int} {N : Nat} {L : Peers} (h : MI w sb bm mx lk N L) : bm < w.heap.size := by
  obtain ⟨_, D, n, _, o, _⟩ := h
  exact o.lt
theorem MI.len {w : World} {sb bm : Nat} {mx lk : Int} {N : Nat} {L : Peers} (h : MI w sb bm mx lk N L) : L.length ≤ N := by
  obtain ⟨_, D, n, hn, o, r⟩ := h
  have := o.size_le
  have := r.sz
  omega

set_option maxHeartbeats 1000000 in
theorem drop_mi (sb bm N : Nat) (mx lk : Int) (L : Peers) (s : ByteArray) (w : World) (m0 : 0 ≤ mx) (m1 : mx ≤ 9223372036854775807) (hN : N ≤ 1048576) (hsz : s.size ≤ maxLen) (M : MI w sb bm mx lk N L) :
    Calls Yba.prog 11 #[.pointer (some ⟨sb, 0, none⟩), .string s] w fun e w' => e = .returned (.tuple #[]) ∧ MI w' sb bm mx lk N (less L s) ∧ Fr2 sb bm w w' := by
  have hlen := M.len
  obtain ⟨b, D, n, hn, hown, r⟩ := M
  have hkl := key_ok hsz
  cases hh : Maps.has D (keyL s) with
  | false =>
    refine (drop_no sb bm n D s w b.c3 hown _ hkl hh).mono ?_
    rintro e w' ⟨rfl, rfl⟩
    have : s ∉ L.map Prod.fst := fun c => by rw [(r.hs s).2 c] at hh; cases hh
    rw [less_none this]
    exact ⟨rfl, ⟨b, D, n, hn, hown, r⟩, Fr2.refl _ _ _⟩
  | true =>
    have c3 := b.c3
    have BB : Hid (Box w sb mx lk bm (cnt mx L)) := b
    have RR : Hid (Rel D L) := r
    obtain ⟨p, hp, rfl⟩ := List.mem_map.1 ((r.hs s).1 hh)
    obtain ⟨s, v⟩ := p
    simp only at hsz hkl hh ⊢
    have hval := r.vl s v hp
    have hcl := cnt_less (mx := mx) r.nd hp
    have HC : Hid (cnt mx L = cnt mx (less L s) + (if ex v mx = true then 1 else 0)) := hcl
    have ht := hown.tidy law9
    have hR2 : Hid (Rel (D.del (keyL s)) (less L s)) := r.del ht s
    have hcle := cnt_le mx L
    clear b r hcl hp
    go_enter Yba.func11, Yba.ntmps11
    go_wp2_with (first
      | (at_lookup; refine wpList_lookup_own_ok_int _ rfl _ _ 41 rfl 9 25 .i64 law9 Yba.underlying41 Yba.underlying25 (zero25 _) bm n D rfl hown _ _ rfl hkl ?_; intro c hat hwc; obtain rfl := lit_inj (hval.symm.trans hat))
      | (at_delete; refine wpList_delete_own _ rfl _ _ 41 9 rfl 25 law9 Yba.underlying41 _ bm n D rfl hown _ _ rfl hkl ?_; intro w1 hown1 hturn1))
    have B1 := BB.out.turn hturn1.grown
    have F1 : Hid (Fr2 sb bm w w1) := Fr2.turn hturn1.grown
    have HO : Hid (w1.ownsMap Yba.prog 9 (plainElem Yba.prog 25) bm n (D.del (keyL s))) := hown1
    have B2 : Hid (Box w1 sb mx lk bm (cnt mx L)) := B1
    clear hown1 hturn1 hown hval hat
    refine (exc_any sb mx v _ B1.c0 m0 m1).mono ?_
    rintro e w2 ⟨rfl, hw2⟩
    have hw2' := hw2.symm
    subst hw2'
    clear hw2 B1
    cases he : ex v mx with
    | true =>
      have k4 := B2.out.c4
      have g4 := B2.out.fz 4
      have hc1 := HC.out
      rw [if_pos he] at hc1
      rw [hc1] at k4
      have hle2 : cnt mx (less L s) < 1048576 := by omega
      clear hc1
      go_wp2
      go_end0
      refine ⟨rfl, ⟨?_, D.del (keyL s), n, hn, HO.out.setCell (Ne.symm BB.out.ne) _, hR2.out⟩, F1.out.trans (Fr2.set _ _ _ _ _)⟩
      have := B2.out.set4 (cnt mx (less L s))
      exact this
    | false =>
      have hc1 := HC.out
      rw [if_neg (by rw [he]; decide)] at hc1
      go_wp2
      go_end0
      refine ⟨rfl, ⟨?_, D.del (keyL s), n, hn, HO.out, hR2.out⟩, F1.out⟩
      rw [← Nat.add_zero (cnt mx (less L s)), ← hc1]
      exact B2.out

set_option maxHeartbeats 1000000 in
theorem forget_mi (sb bm N : Nat) (mx : Int) (L : Peers) (s : ByteArray) (w : World) (m0 : 0 ≤ mx) (m1 : mx ≤ 9223372036854775807) (hN : N ≤ 1048576) (hsz : s.size ≤ maxLen) (M : MI w sb bm mx 0 N L) :
    Calls Yba.prog 9 #[.pointer (some ⟨sb, 0, none⟩), .string s] w fun e w' => e = .returned (.tuple #[]) ∧ MI w' sb bm mx 0 N (less L s) ∧ Fr2 sb bm w w' := by
  have h1 := M.box.c1
  have f1 := M.box.fz 1
  have c0 := M.box.c0
  have MM : Hid (MI w sb bm mx 0 N L) := M
  clear M
  go_enter_defers Yba.func9, Yba.ntmps9
  go_wp2_with (go_at_call 19; refine (lock_free Yba.muLib ⟨sb, 1, none⟩ _ h1 f1).mono ?_; rintro e w' ⟨rfl, rfl⟩)
  have M1 := MM.out.set1 1
  have F1 : Hid (Fr2 sb bm w (w.setCell ⟨sb, 1, none⟩ (.int .i32 1))) := Fr2.set _ _ _ _ _
  generalize w.setCell ⟨sb, 1, none⟩ (.int .i32 1) = W1 at M1 F1 ⊢
  refine (drop_mi sb bm N mx 1 L s W1 m0 m1 hN hsz M1).mono ?_
  rintro e W2 ⟨rfl, M2, F2⟩
  go_wp2_with fail
  refine leaves_cons (f := 20) (args := #[.pointer (some ⟨sb, 1, none⟩)]) (by simp) (by simp [go_sem]) ?_
  refine (unlock_deferred Yba.muLib ⟨sb, 1, none⟩ .returning _ M2.box.c1 (M2.box.fz 1)).mono ?_
  rintro e u' w'' ⟨rfl, rfl, rfl⟩
  exact ⟨_, results_none rfl _ _ _, rfl, M2.set1 0, (F1.out.trans F2).trans (Fr2.set _ _ _ _ _)⟩
end Go.Proofs.Ybulkdndm
