/- WALKS: Record, NewOffsetMonitor, the names. -/
import Derived.Test.YbulkdndmMon
namespace Go.Proofs.Ybulkdndm
open Go.RowKit Go.Maps Go.MuLone

set_option maxHeartbeats 1000000 in
theorem record_mi (sb bm N : Nat) (mx : Int) (L : Peers) (s : ByteArray) (v : Int) (w : World) (m0 : 0 ≤ mx) (m1 : mx ≤ 9223372036854775807) (hN : N < 1048576) (hsz : s.size ≤ maxLen) (hwv : (Lit.int .i64 v).wf = true) (M : MI w sb bm mx 0 N L) :
    Calls Yba.prog 10 #[.pointer (some ⟨sb, 0, none⟩), .string s, .int .i64 v] w fun e w' => e = .returned (.tuple #[]) ∧ MI w' sb bm mx 0 (N + 1) (less L s ++ [(s, v)]) ∧ Fr2 sb bm w w' := by
  have h1 := M.box.c1
  have f1 := M.box.fz 1
  have c0 := M.box.c0
  have MM : Hid (MI w sb bm mx 0 N L) := M
  clear M
  go_enter_defers Yba.func10, Yba.ntmps10
  go_wp2_with (go_at_call 19; refine (lock_free Yba.muLib ⟨sb, 1, none⟩ _ h1 f1).mono ?_; rintro e w' ⟨rfl, rfl⟩)
  have M1 := MM.out.set1 1
  have F1 : Hid (Fr2 sb bm w (w.setCell ⟨sb, 1, none⟩ (.int .i32 1))) := Fr2.set _ _ _ _ _
  generalize w.setCell ⟨sb, 1, none⟩ (.int .i32 1) = W1 at M1 F1 ⊢
  refine (drop_mi sb bm N mx 1 L s W1 m0 m1 (by omega) hsz M1).mono ?_
  rintro e W2 ⟨rfl, M2, F2⟩
  have FF : Hid (Fr2 sb bm w W2) := F1.out.trans F2
  have hlen := M2.len
  obtain ⟨b2, D, n, hn, hown, r⟩ := M2
  have hkl := key_ok hsz
  have c3 := b2.c3
  have BB : Hid (Box W2 sb mx 1 bm (cnt mx (less L s))) := b2
  have HR : Hid (Rel (D.put (keyL s) (.lit (.int .i64 v))) (less L s ++ [(s, v)])) := r.put (hown.tidy law9) (not_mem_less L s) v
  have hcle := cnt_le mx (less L s)
  clear b2 r F1 F2 M1 h1 f1 c0
  go_wp2_with (at_mapUpdate; refine wpList_mapUpdate_in _ rfl _ _ _ 41 rfl 9 25 law9 Yba.underlying41 _ bm n D rfl hown (by unfold maxLen; omega) _ _ _ rfl rfl hkl _ [] (plainElem_int Yba.underlying25 (a := v) hwv) ?_; intro W3 hU tU)
  have B3 := BB.out.turn tU.grown
  have F3 : Hid (Fr2 sb bm w W3) := FF.out.trans (Fr2.turn tU.grown)
  have HO : Hid (W3.ownsMap Yba.prog 9 (plainElem Yba.prog 25) bm (n + 1) (D.put (keyL s) (.lit (.int .i64 v)))) := hU
  have B4 : Hid (Box W3 sb mx 1 bm (cnt mx (less L s))) := B3
  clear hU tU hown c3
  refine (exc_any sb mx v _ B3.c0 m0 m1).mono ?_
  rintro e w2 ⟨rfl, hw2⟩
  have hw2' := hw2.symm
  subst hw2'
  clear hw2 B3
  have HC : Hid (cnt mx (less L s ++ [(s, v)]) = cnt mx (less L s) + (if ex v mx = true then 1 else 0)) := cnt_app _ _ _ _
  cases he : ex v mx with
  | true =>
    have k4 := B4.out.c4
    have g4 := B4.out.fz 4
    go_wp2
    have hc := HC.out
    rw [if_pos he] at hc
    have B5 := B4.out.set4 ((cnt mx (less L s) : Int) + 1)
    have M5 : MI (W3.setCell ⟨sb, 4, none⟩ (.int .i64 ((cnt mx (less L s) : Int) + 1))) sb bm mx 1 (N + 1) (less L s ++ [(s, v)]) := by
      refine ⟨?_, _, n + 1, by omega, HO.out.setCell (Ne.symm BB.out.ne) _, HR.out⟩
      rw [hc]; exact B5
    have F5 := F3.out.trans (Fr2.set sb bm W3 4 (.int .i64 ((cnt mx (less L s) : Int) + 1)))
    refine leaves_cons (f := 20) (args := #[.pointer (some ⟨sb, 1, none⟩)]) (by simp) (by simp [go_sem]) ?_
    refine (unlock_deferred Yba.muLib ⟨sb, 1, none⟩ .returning _ M5.box.c1 (M5.box.fz 1)).mono ?_
    rintro e u' w'' ⟨rfl, rfl, rfl⟩
    exact ⟨_, results_none rfl _ _ _, rfl, M5.set1 0, F5.trans (Fr2.set _ _ _ _ _)⟩
  | false =>
    have hc := HC.out
    rw [if_neg (by rw [he]; decide)] at hc
    go_wp2
    have M5 : MI W3 sb bm mx 1 (N + 1) (less L s ++ [(s, v)]) := by
      refine ⟨?_, _, n + 1, by omega, HO.out, HR.out⟩
      rw [hc]; exact B4.out
    refine leaves_cons (f := 20) (args := #[.pointer (some ⟨sb, 1, none⟩)]) (by simp) (by simp [go_sem]) ?_
    refine (unlock_deferred Yba.muLib ⟨sb, 1, none⟩ .returning _ M5.box.c1 (M5.box.fz 1)).mono ?_
    rintro e u' w'' ⟨rfl, rfl, rfl⟩
    exact ⟨_, results_none rfl _ _ _, rfl, M5.set1 0, F3.out.trans (Fr2.set _ _ _ _ _)⟩

theorem new_box (m : Int) (w : World) : MI ((w.alloc (Obj.map #[] 0)).alloc (monB m 0 w.heap.size 0)) (w.heap.size + 1) w.heap.size m 0 0 [] ∧ ((w.alloc (Obj.map #[] 0)).alloc (monB m 0 w.heap.size 0)).heap.size = w.heap.size + 2 ∧ RowKit.Below w.heap.size w ((w.alloc (Obj.map #[] 0)).alloc (monB m 0 w.heap.size 0)) := by
  refine ⟨⟨⟨?_, by omega⟩, .map [], 0, Nat.le_refl _, (World.ownsMap_made w _ _ _).alloc _, Rel.nil⟩, by simp, ((RowKit.Below.refl _ _).alloc (Nat.le_refl _) _).alloc (by rw [World.size_alloc]; omega) _⟩
  have := heap_alloc_new (w.alloc (Obj.map #[] 0)) (monB m 0 w.heap.size 0)
  rw [World.size_alloc] at this
  exact this

set_option maxHeartbeats 1000000 in
theorem new_mi (x : Int) (w : World) :
    Calls Yba.prog 7 #[.int .i64 x] w fun e w' => e = .returned (.pointer (some ⟨w.heap.size + 1, 0, none⟩)) ∧ MI w' (w.heap.size + 1) w.heap.size (clamp x) 0 0 [] ∧ w'.heap.size = w.heap.size + 2 ∧ RowKit.Below w.heap.size w w' := by
  have hmm := @run_makeMap Yba.prog
  by_cases h : x < 0
  · have e : clamp x = 0 := by unfold clamp; rw [if_pos h]
    rw [e]
    go_enter Yba.func7, Yba.ntmps7
    go_wp2_with fail
    go_ret
    exact ⟨rfl, new_box 0 w⟩
  · have h' : 0 ≤ x := by omega
    have e : clamp x = x := by unfold clamp; rw [if_neg h]
    rw [e]
    go_enter Yba.func7, Yba.ntmps7
    go_wp2_with fail
    go_ret
    exact ⟨rfl, new_box x w⟩

def nm (i : Int) : ByteArray := if i % 5 = 0 then ⟨#[97]⟩ else if i % 5 = 1 then ⟨#[98]⟩ else if i % 5 = 2 then ⟨#[99]⟩ else if i % 5 = 3 then ⟨#[100]⟩ else ⟨#[]⟩
theorem nm_size (i : Int) : (nm i).size ≤ maxLen := by
  unfold nm
  split
  · decide
  split
  · decide
  split
  · decide
  split <;> decide

theorem name_any (i : Int) (w : World) (h0 : 0 ≤ i) : Calls Yba.prog 8 #[.int .u8 i] w fun e w' => e = .returned (.string (nm i)) ∧ w' = w := by
  have e : i.tmod 5 = i % 5 := Int.tmod_eq_emod_of_nonneg h0
  have hr : i % 5 = 0 ∨ i % 5 = 1 ∨ i % 5 = 2 ∨ i % 5 = 3 ∨ i % 5 = 4 := by omega
  rcases hr with hr | hr | hr | hr | hr <;>
    (have hn := nm.eq_def i
     rw [hr] at hn e
     simp at hn
     rw [hn]
     clear hn
     go_enter Yba.func8, Yba.ntmps8
     go_wp2_with fail
     go_ret
     exact ⟨rfl, rfl⟩)
end Go.Proofs.Ybulkdndm
