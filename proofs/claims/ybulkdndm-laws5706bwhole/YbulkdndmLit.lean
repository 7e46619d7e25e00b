/- WALK: LawS5706BLiteral. -/
import Derived.Test.YbulkdndmLook
import Derived.Deep.LoopGhost
import Derived.BigRegion
import Derived.Lib.Bytealg
import Derived.Lib.Small
import Derived.Lib.Strings
import Derived.OpenShut
namespace Go.Proofs.Ybulkdndm
open Go.RowKit Go.Maps

set_option maxHeartbeats 400000 in
theorem lit_big (ka va : Option Addr) (nk kcap nv vcap : Nat) (a0 out : Int) (peer : ByteArray) (w : World) (h : 1048576 < nk) (hn : nk ≤ maxLen) :
    Calls Yba.prog 4 #[.int .i64 a0, .slice ka nk kcap, .slice va nv vcap, .int .i64 out, .string peer] w fun e w' => e = .returned (.bool true) ∧ w' = w := by
  unfold maxLen at hn
  have d : (1048576 : Int) < (nk : Int) := by omega
  go_enter Yba.func4, Yba.ntmps4
  go_wp2
  go_ret
  exact ⟨rfl, rfl⟩

theorem ne_list {a b : ByteArray} (h : a ≠ b) : (a.toList == b.toList) = false := by
  rw [Lib.toList_data, Lib.toList_data]
  refine beq_eq_false_iff_ne.2 fun e => h ?_
  cases a; cases b
  simp at e
  rw [e]
theorem mon_new (w : World) (B : Nat) (mx out : Int) (hB : B < w.heap.size) : Mon (w.alloc (Obj.cells #[Value.int IntKind.i64 mx, Value.int IntKind.i32 0, Value.int IntKind.u32 0, Value.map (some B), Value.int IntKind.i64 out] 43)) w.heap.size B mx out := by
  exact ⟨by simp, by simp, by simp, by simp, by simp, by rw [World.size_alloc]; omega, by omega⟩
theorem LL.alloc {w : World} {B : Nat} {ks : List ByteArray} {k : Nat} {D : DataW Unit} {wr : World} (h : LL w B ks k D wr) (o : Obj) : LL w B ks k D (wr.alloc o) :=
  ⟨h.o1.alloc o, h.o2.alloc o, h.has, h.bel.alloc h.bel.size o, h.hB⟩

set_option maxHeartbeats 1000000 in
set_option maxRecDepth 100000 in
theorem lit_any (ka va : Option Addr) (nk kcap nv vcap : Nat) (ks : List ByteArray) (vs : List Int) (a0 out : Int) (peer : ByteArray) (w : World) (hk : StrsAt w ka ks) (hnk : ks.length = nk) (hv : IntsAt w va vs) (hnv : vs.length = nv) (hm : nv ≤ maxLen) (hp : peer.size ≤ maxLen) (h : nk ≤ 1048576)
    (w0 : -9223372036854775808 ≤ a0) (w1 : a0 ≤ 9223372036854775807) :
    Calls Yba.prog 4 #[.int .i64 a0, .slice ka nk kcap, .slice va nv vcap, .int .i64 out, .string peer] w fun e w' => e = .returned (.bool true) ∧ RowKit.Below w.heap.size w w' := by
  unfold maxLen at hm
  have d : decide ((1048576 : Int) < (nk : Int)) = false := decide_eq_false (by omega)
  have HK : Hid (StrsAt w ka ks) := hk
  have HV : Hid (IntsAt w va vs) := hv
  clear hk hv
  have hmm := @run_makeMap Yba.prog
  go_enter Yba.func4, Yba.ntmps4
  go_wp2_with fail
  refine (clamp_any a0 _).mono ?_
  rintro e wA ⟨rfl, hw⟩
  have hw' := hw.symm
  subst hw'
  clear hw
  obtain ⟨mx, hmx⟩ : ∃ mx, clamp a0 = mx := ⟨_, rfl⟩
  have m0 : 0 ≤ mx ∧ mx ≤ 9223372036854775807 := by rw [← hmx]; unfold clamp; split <;> omega
  obtain ⟨m0, m1⟩ := m0
  rw [hmx]
  clear hmx
  go_wp2_with fail
  have L0 : Hid (LL w w.heap.size ks 0 (.map []) ((w.alloc (Obj.map #[] 0)).alloc (Obj.map #[] 0))) := by
    refine (⟨(World.ownsMap_made w _ _ _).alloc _, ?_, fun j hj => by omega, ((RowKit.Below.refl _ _).alloc (Nat.le_refl _) _).alloc (by rw [World.size_alloc]; omega) _, Nat.le_refl _⟩ : LL w w.heap.size ks 0 (.map []) _)
    have := World.ownsMap_made (w.alloc (Obj.map #[] 0)) Yba.prog 9 (plainElem (H := Unit) Yba.prog 2)
    rw [World.size_alloc] at this
    exact this
  obtain ⟨B, hB⟩ : ∃ B, w.heap.size = B := ⟨_, rfl⟩
  have hBw : w.heap.size ≤ B := by omega
  rw [hB] at L0 ⊢
  generalize (w.alloc (Obj.map #[] 0)).alloc (Obj.map #[] 0) = W1 at L0 ⊢
  clear hB hmm
  go_loopg [35] nk (fun gg s35 wr => ∃ (k : Nat) (D : DataW Unit), s35 = .int .i64 k ∧ k ≤ nk ∧ nk - k ≤ gg ∧ Hid (LL w B ks k D wr))
  case atStart => exact ⟨0, _, rfl, by omega, by omega, L0⟩
  case round =>
    obtain ⟨k, D, rfl, hk, hg, LR⟩ := hrel
    clear L0
    by_cases hlt : k < nk
    · have d1 : (k : Int) < (nk : Int) := by omega
      rcases HK.out with e | ⟨kb, ko, rfl, kbw, kc⟩
      · rw [e] at hnk; simp at hnk; omega
      have c1 := (LR.out.bel.cell (p := ⟨kb, ko + k, none⟩) kbw).trans (kc k (by omega)).1
      have ks1 := (kc k (by omega)).2
      obtain ⟨s, hs⟩ : ∃ s, ks[k]! = s := ⟨_, rfl⟩
      rw [hs] at c1 ks1
      have hkey := key_ok ks1
      have HS : Hid (ks[k]! = s) := hs
      have o1 := LR.out.o1
      have o2 := LR.out.o2
      have kbl : kb < wr.heap.size := Nat.lt_of_lt_of_le kbw LR.out.bel.size
      have kbn : some kb ≠ some B := fun e => by cases e; omega
      clear hs kc
      by_cases hz : nv = 0
      · subst hz
        go_wp2_with (first
          | (at_mapUpdate; refine wpList_mapUpdate_in _ rfl _ _ _ 41 rfl 9 25 law9 Yba.underlying41 _ B k D rfl o1 (by unfold maxLen; omega) _ _ _ rfl rfl hkey _ [] (plainElem_int Yba.underlying25 (a := 0) (by decide)) ?_; intro wU hU tU; have cU := (cell_kept (tU.grown.block kb kbl kbn) (ko + k)).1.trans c1)
          | (at_mapUpdate; refine wpList_mapUpdate_in _ rfl _ _ _ 47 rfl 9 2 law9 Yba.underlying47 _ (B + 1) k D rfl (o2.kept tU.grown (by simp)) (by unfold maxLen; omega) _ _ _ rfl rfl hkey _ [] (plainElem_int Yba.underlying2 (a := 0) (by decide)) ?_; intro wV hV tV))
        have LS := LR.out.step (v := 0) (by rw [HS.out]; exact hU) tU (by rw [HS.out]; exact hV) tV
        have LS' : Hid (LL w B ks (k + 1) _ wV) := LS
        clear LS hU tU hV tV cU
        go_wp2
        go_roundg (nk - (k + 1))
        case measure => omega
        case rel => exact ⟨k + 1, _, by go_num, by omega, by omega, LS'⟩
      · rcases HV.out with e | ⟨vb, vo, rfl, vbw, vc⟩
        · rw [e] at hnv; simp at hnv; omega
        have hmod : k % nv < nv := Nat.mod_lt _ (by omega)
        have v1 := (LR.out.bel.cell (p := ⟨vb, vo + k % nv, none⟩) vbw).trans (vc (k % nv) (by omega)).1
        have vw := (vc (k % nv) (by omega)).2
        obtain ⟨v, hv⟩ : ∃ v, vs[k % nv]! = v := ⟨_, rfl⟩
        rw [hv] at v1 vw
        clear hv vc
        have q1 : (0 : Int) < (nv : Int) := by omega
        have q2 : (k : Int) % (nv : Int) < (nv : Int) := Int.emod_lt_of_pos _ q1
        have q3 : (0 : Int) ≤ (k : Int) % (nv : Int) := Int.emod_nonneg _ (by omega)
        go_wp2_with (first
          | (at_mapUpdate; refine wpList_mapUpdate_in _ rfl _ _ _ 41 rfl 9 25 law9 Yba.underlying41 _ B k D rfl o1 (by unfold maxLen; omega) _ _ _ rfl rfl hkey _ [] (plainElem_int Yba.underlying25 (a := v) vw) ?_; intro wU hU tU; have cU := (cell_kept (tU.grown.block kb kbl kbn) (ko + k)).1.trans c1)
          | (at_mapUpdate; refine wpList_mapUpdate_in _ rfl _ _ _ 47 rfl 9 2 law9 Yba.underlying47 _ (B + 1) k D rfl (o2.kept tU.grown (by simp)) (by unfold maxLen; omega) _ _ _ rfl rfl hkey _ [] (plainElem_int Yba.underlying2 (a := v) vw) ?_; intro wV hV tV))
        have LS := LR.out.step (v := v) (by rw [HS.out]; exact hU) tU (by rw [HS.out]; exact hV) tV
        have LS' : Hid (LL w B ks (k + 1) _ wV) := LS
        clear LS hU tU hV tV cU
        go_wp2
        go_roundg (nk - (k + 1))
        case measure => omega
        case rel => exact ⟨k + 1, _, by go_num, by omega, by omega, LS'⟩
    · have hkn : k = nk := by omega
      subst hkn
      have d1 : decide ((k : Int) < (k : Int)) = false := decide_eq_false (by omega)
      have hkp := key_ok hp
      have o1 := LR.out.o1
      have o2 := LR.out.o2
      cases hh : Maps.has D (keyL peer) with
      | false =>
        go_wp2_with (at_lookup; refine wpList_lookup_own_ok_int _ rfl _ _ 47 rfl 9 2 .i64 law9 Yba.underlying47 Yba.underlying2 (zero2 _) (B + 1) k D rfl (o2.alloc _) _ _ rfl hkp ?_; intro c hat hwc)
        have ZM := mon_new wr B mx out LR.out.o1.lt
        have L2 : Hid (LL w B ks k D (wr.alloc (Obj.cells #[Value.int IntKind.i64 mx, Value.int IntKind.i32 0, Value.int IntKind.u32 0, Value.map (some B), Value.int IntKind.i64 out] 43))) := LR.out.alloc _
        obtain ⟨sb, hsb⟩ : ∃ sb, wr.heap.size = sb := ⟨_, rfl⟩
        rw [hsb] at ZM ⊢
        generalize wr.alloc (Obj.cells #[Value.int IntKind.i64 mx, Value.int IntKind.i32 0, Value.int IntKind.u32 0, Value.map (some B), Value.int IntKind.i64 out] 43) = W2 at ZM L2 ⊢
        clear o1 o2 LR hsb
        have o1 := L2.out.o1
        have o2 := L2.out.o2
        refine (drop_no sb B k D peer _ ZM.c3 o1 _ hkp hh).mono ?_
        rintro e W3 ⟨rfl, hW3⟩
        have hW3' := hW3.symm
        subst hW3'
        clear hW3
        have k0 := ZM.c0
        have k3 := ZM.c3
        have k4 := ZM.c4
        have hl1 := o1.len Yba.underlying41
        clear hat hwc
        go_wp2_with (first
          | (at_len; refine wpList_len_own _ rfl _ 47 rfl 9 2 Yba.underlying47 _ (B + 1) k D rfl o2 ?_)
          | (at_lookup; refine wpList_lookup_own_ok_int _ rfl _ _ 41 rfl 9 25 .i64 law9 Yba.underlying41 Yba.underlying25 (zero25 _) B k D rfl o1 _ _ rfl hkp ?_; intro c2 hat2 hwc2))
        have HD : Hid (∀ j, j < k → keyL ks[j]! ≠ keyL peer → Maps.has D (keyL ks[j]!) = true ∧ D.atKey (keyL ks[j]!) (.lit (.int .i64 0)) = D.atKey (keyL ks[j]!) (.lit (.int .i64 0))) := fun j hj _ => ⟨L2.out.has j hj, rfl⟩
        clear hat2 hwc2 hl1 k0 k4
        go_loopg [121] k (fun gg s121 wr => ∃ (q n : Nat), s121 = .int .i64 q ∧ q ≤ k ∧ k - q ≤ gg ∧ wr = W2.drewN n)
        case atStart => exact ⟨0, 0, rfl, by omega, by omega, rfl⟩
        case round =>
          obtain ⟨q, n, rfl, hq, hgq, rfl⟩ := hrel
          by_cases hlt2 : q < k
          · have d2 : (q : Int) < (k : Int) := by omega
            rcases HK.out with e | ⟨kb, ko, rfl, kbw, kc⟩
            · rw [e] at hnk; simp at hnk; omega
            have c1 := (L2.out.bel.cell (p := ⟨kb, ko + q, none⟩) kbw).trans (kc q (by omega)).1
            have ks1 := (kc q (by omega)).2
            obtain ⟨s, hs⟩ : ∃ s, ks[q]! = s := ⟨_, rfl⟩
            rw [hs] at c1 ks1
            have hkey := key_ok ks1
            have c1' : ∀ n, (W2.drewN n).cell? ⟨kb, ko + q, none⟩ = some (.string s) := fun _ => c1
            by_cases hsp : s = peer
            · subst hsp
              go_wp2_with fail
              go_roundg (k - (q + 1))
              case measure => omega
              case rel => exact ⟨q + 1, n, by go_num, by omega, by omega, rfl⟩
            · have d4 : (s.toList == peer.toList) = false := ne_list hsp
              have hne : keyL ks[q]! ≠ keyL peer := by rw [hs]; exact fun e => hsp (keyL_inj e)
              obtain ⟨hh1, hh2⟩ := HD.out q (by omega) hne
              rw [hs] at hh1 hh2
              obtain ⟨cv, hcv, hcw⟩ := atKey_some o2 hkey
              have l1 := fun m => look41 o1 hkey (hh2.trans hcv) hh1 m
              have l2 := fun m => look47 o2 hkey hcv m
              have k3' : ∀ n, (W2.drewN n).cell? ⟨sb, 3, none⟩ = some (.map (some B)) := fun _ => k3
              clear hh1 hh2 hne hs kc
              go_wp2_with fail
              go_region
              go_wp2_with fail
              go_roundg (k - (q + 1))
              case measure => omega
              case rel => exact ⟨q + 1, n + 1, by go_num, by omega, by omega, rfl⟩
          · have d2 : decide ((q : Int) < (k : Int)) = false := decide_eq_false (by omega)
            go_wp2_with fail
            go_ret
            exact ⟨rfl, ⟨L2.out.bel.os, L2.out.bel.tape, L2.out.bel.output, L2.out.bel.size, L2.out.bel.block⟩⟩
      | true =>
        go_wp2_with (at_lookup; refine wpList_lookup_own_ok_int _ rfl _ _ 47 rfl 9 2 .i64 law9 Yba.underlying47 Yba.underlying2 (zero2 _) (B + 1) k D rfl (o2.alloc _) _ _ rfl hkp ?_; intro c hat hwc)
        have ZM := mon_new wr B mx out LR.out.o1.lt
        have L2 : Hid (LL w B ks k D (wr.alloc (Obj.cells #[Value.int IntKind.i64 mx, Value.int IntKind.i32 0, Value.int IntKind.u32 0, Value.map (some B), Value.int IntKind.i64 out] 43))) := LR.out.alloc _
        obtain ⟨sb, hsb⟩ : ∃ sb, wr.heap.size = sb := ⟨_, rfl⟩
        have zsb : w.heap.size ≤ sb := by rw [← hsb]; exact LR.out.bel.size
        rw [hsb] at ZM ⊢
        generalize wr.alloc (Obj.cells #[Value.int IntKind.i64 mx, Value.int IntKind.i32 0, Value.int IntKind.u32 0, Value.map (some B), Value.int IntKind.i64 out] 43) = W2 at ZM L2 ⊢
        clear o1 o2 LR hsb
        have o1 := L2.out.o1
        have o2 := L2.out.o2
        have zl := L2.out.bel.size
        refine (drop_yes sb B k w.heap.size D peer mx out _ ZM m0 m1 o1 _ hkp hh zsb hBw zl).mono ?_
        rintro e W3 ⟨rfl, c3, hat3, hwc3, o13, M3, sz3, blk3, bel3⟩
        obtain rfl := lit_inj (hat.symm.trans hat3)
        have o23 : W3.ownsMap Yba.prog 9 (plainElem Yba.prog 2) (B + 1) k D := by
          have hl := o2.lt
          have hne := ZM.ne
          obtain ⟨es, clock, hb, F, hs, hD⟩ := o2
          refine ⟨es, clock, (blk3 (B + 1) hl (by omega) (fun e => ?_)).trans hb, F, hs, hD⟩
          have := ZM.c0
          rw [← e] at this
          simp [World.cell?, hb] at this
        have hsd := size_del (k := keyL peer) (o1.tidy law9)
        rw [if_pos hh] at hsd
        have k0 := M3.c0
        have k3 := M3.c3
        have k4 := M3.c4
        have hl1 := o13.len Yba.underlying41
        have hsl := o1.size_le
        obtain ⟨sd, hsd'⟩ : ∃ sd, Maps.size (D.del (keyL peer)) = sd := ⟨_, rfl⟩
        rw [hsd'] at hsd hl1
        have hsd2 : Maps.size D = sd + 1 := by omega
        obtain ⟨b0, b1⟩ := bounds_i64 hwc
        clear hsd hsd' hat3 hwc3
        go_wp2_with (first
          | (at_len; refine wpList_len_own _ rfl _ 47 rfl 9 2 Yba.underlying47 _ (B + 1) k D rfl o23 ?_; rw [hsd2]))
        refine (zex_any c mx _ m0 m1 b0 b1).mono ?_
        rintro e W4 ⟨rfl, hW4⟩
        have hW4' := hW4.symm
        subst hW4'
        clear hW4
        have hdel : Maps.has (D.del (keyL peer)) (keyL peer) = false := has_del_same
        have HB3 : Hid (RowKit.Below w.heap.size w W3) := L2.out.bel.trans bel3
        have HD : Hid (∀ j, j < k → keyL ks[j]! ≠ keyL peer → Maps.has (D.del (keyL peer)) (keyL ks[j]!) = true ∧ (D.del (keyL peer)).atKey (keyL ks[j]!) (.lit (.int .i64 0)) = D.atKey (keyL ks[j]!) (.lit (.int .i64 0))) := fun j hj hne => ⟨(has_del_other hne).trans (L2.out.has j hj), atKey_del_other hne _⟩
        cases hex : ex c mx with
        | true =>
          rw [if_pos hex] at k4
          go_wp2_with (first
            | (at_lookup; refine wpList_lookup_own_ok_int _ rfl _ _ 41 rfl 9 25 .i64 law9 Yba.underlying41 Yba.underlying25 (zero25 _) B k (D.del (keyL peer)) rfl o13 _ _ rfl hkp ?_; rw [hdel]; intro c2 hat2 hwc2))
          clear hat2 hwc2 hl1 k0 k4
          go_loopg [121] k (fun gg s121 wr => ∃ (q n : Nat), s121 = .int .i64 q ∧ q ≤ k ∧ k - q ≤ gg ∧ wr = W3.drewN n)
          case atStart => exact ⟨0, 0, rfl, by omega, by omega, rfl⟩
          case round =>
            obtain ⟨q, n, rfl, hq, hgq, rfl⟩ := hrel
            by_cases hlt2 : q < k
            · have d2 : (q : Int) < (k : Int) := by omega
              rcases HK.out with e | ⟨kb, ko, rfl, kbw, kc⟩
              · rw [e] at hnk; simp at hnk; omega
              have c1 := (HB3.out.cell (p := ⟨kb, ko + q, none⟩) kbw).trans (kc q (by omega)).1
              have ks1 := (kc q (by omega)).2
              obtain ⟨s, hs⟩ : ∃ s, ks[q]! = s := ⟨_, rfl⟩
              rw [hs] at c1 ks1
              have hkey := key_ok ks1
              have c1' : ∀ n, (W3.drewN n).cell? ⟨kb, ko + q, none⟩ = some (.string s) := fun _ => c1
              by_cases hsp : s = peer
              · subst hsp
                go_wp2_with fail
                go_roundg (k - (q + 1))
                case measure => omega
                case rel => exact ⟨q + 1, n, by go_num, by omega, by omega, rfl⟩
              · have d4 : (s.toList == peer.toList) = false := ne_list hsp
                have hne : keyL ks[q]! ≠ keyL peer := by rw [hs]; exact fun e => hsp (keyL_inj e)
                obtain ⟨hh1, hh2⟩ := HD.out q (by omega) hne
                rw [hs] at hh1 hh2
                obtain ⟨cv, hcv, hcw⟩ := atKey_some o23 hkey
                have l1 := fun m => look41 o13 hkey (hh2.trans hcv) hh1 m
                have l2 := fun m => look47 o23 hkey hcv m
                have k3' : ∀ n, (W3.drewN n).cell? ⟨sb, 3, none⟩ = some (.map (some B)) := fun _ => k3
                clear hh1 hh2 hne hs kc
                go_wp2_with fail
                go_region
                go_wp2_with fail
                go_roundg (k - (q + 1))
                case measure => omega
                case rel => exact ⟨q + 1, n + 1, by go_num, by omega, by omega, rfl⟩
            · have d2 : decide ((q : Int) < (k : Int)) = false := decide_eq_false (by omega)
              go_wp2_with fail
              go_ret
              exact ⟨rfl, ⟨HB3.out.os, HB3.out.tape, HB3.out.output, HB3.out.size, HB3.out.block⟩⟩
        | false =>
          rw [if_neg (by rw [hex]; decide)] at k4
          go_wp2_with (first
            | (at_lookup; refine wpList_lookup_own_ok_int _ rfl _ _ 41 rfl 9 25 .i64 law9 Yba.underlying41 Yba.underlying25 (zero25 _) B k (D.del (keyL peer)) rfl o13 _ _ rfl hkp ?_; rw [hdel]; intro c2 hat2 hwc2))
          clear hat2 hwc2 hl1 k0 k4
          go_loopg [121] k (fun gg s121 wr => ∃ (q n : Nat), s121 = .int .i64 q ∧ q ≤ k ∧ k - q ≤ gg ∧ wr = W3.drewN n)
          case atStart => exact ⟨0, 0, rfl, by omega, by omega, rfl⟩
          case round =>
            obtain ⟨q, n, rfl, hq, hgq, rfl⟩ := hrel
            by_cases hlt2 : q < k
            · have d2 : (q : Int) < (k : Int) := by omega
              rcases HK.out with e | ⟨kb, ko, rfl, kbw, kc⟩
              · rw [e] at hnk; simp at hnk; omega
              have c1 := (HB3.out.cell (p := ⟨kb, ko + q, none⟩) kbw).trans (kc q (by omega)).1
              have ks1 := (kc q (by omega)).2
              obtain ⟨s, hs⟩ : ∃ s, ks[q]! = s := ⟨_, rfl⟩
              rw [hs] at c1 ks1
              have hkey := key_ok ks1
              have c1' : ∀ n, (W3.drewN n).cell? ⟨kb, ko + q, none⟩ = some (.string s) := fun _ => c1
              by_cases hsp : s = peer
              · subst hsp
                go_wp2_with fail
                go_roundg (k - (q + 1))
                case measure => omega
                case rel => exact ⟨q + 1, n, by go_num, by omega, by omega, rfl⟩
              · have d4 : (s.toList == peer.toList) = false := ne_list hsp
                have hne : keyL ks[q]! ≠ keyL peer := by rw [hs]; exact fun e => hsp (keyL_inj e)
                obtain ⟨hh1, hh2⟩ := HD.out q (by omega) hne
                rw [hs] at hh1 hh2
                obtain ⟨cv, hcv, hcw⟩ := atKey_some o23 hkey
                have l1 := fun m => look41 o13 hkey (hh2.trans hcv) hh1 m
                have l2 := fun m => look47 o23 hkey hcv m
                have k3' : ∀ n, (W3.drewN n).cell? ⟨sb, 3, none⟩ = some (.map (some B)) := fun _ => k3
                clear hh1 hh2 hne hs kc
                go_wp2_with fail
                go_region
                go_wp2_with fail
                go_roundg (k - (q + 1))
                case measure => omega
                case rel => exact ⟨q + 1, n + 1, by go_num, by omega, by omega, rfl⟩
            · have d2 : decide ((q : Int) < (k : Int)) = false := decide_eq_false (by omega)
              go_wp2_with fail
              go_ret
              exact ⟨rfl, ⟨HB3.out.os, HB3.out.tape, HB3.out.output, HB3.out.size, HB3.out.block⟩⟩
end Go.Proofs.Ybulkdndm
