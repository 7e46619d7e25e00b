/- WALK: LawS5706BWhole. -/
import Derived.Test.YbulkdndmWStep
import Derived.Test.YbulkdndmLit
namespace Go.Proofs.Ybulkdndm
open Go.RowKit Go.Maps

set_option maxHeartbeats 400000 in
set_option maxRecDepth 100000 in
theorem whole_big (a0 : Int) (sa : Option Addr) (ns scap : Nat) (pick : Int) (raw : ByteArray) (w : World) (h : 65536 < ns) (hn : ns ≤ maxLen) :
    Calls Yba.prog 3 #[.int .i64 a0, .slice sa ns scap, .int .u8 pick, .string raw] w fun e w' => e = .returned (.bool true) ∧ w' = w := by
  unfold maxLen at hn
  have d : (65536 : Int) < (ns : Int) := by omega
  go_enter Yba.func3, Yba.ntmps3
  go_wp2
  go_ret
  exact ⟨rfl, rfl⟩

set_option maxHeartbeats 1000000 in
set_option maxRecDepth 100000 in
theorem whole_any (a0 : Int) (sa : Option Addr) (ns scap : Nat) (sts : List Step) (pick : Int) (raw : ByteArray) (w : World) (hk : StepsAt w sa sts) (hns : sts.length = ns) (hraw : raw.size ≤ maxLen) (h : ns ≤ 65536)
    (w0 : -9223372036854775808 ≤ a0) (w1 : a0 ≤ 9223372036854775807) (p0 : 0 ≤ pick) (p1 : pick ≤ 255) :
    Calls Yba.prog 3 #[.int .i64 a0, .slice sa ns scap, .int .u8 pick, .string raw] w fun e w' => e = .returned (.bool true) ∧ RowKit.Below w.heap.size w w' := by
  have d : decide ((65536 : Int) < (ns : Int)) = false := decide_eq_false (by omega)
  have HK : Hid (StepsAt w sa sts) := hk
  obtain ⟨i9, hi9, hz90, hz91, hz92⟩ := info_parts info9
  obtain ⟨i2, hi2, hz20, hz21, hz22⟩ := info_parts info2
  clear hk
  go_enter Yba.func3, Yba.ntmps3
  go_wp2_with fail
  refine (new_mi a0 _).mono ?_
  rintro e W1 ⟨rfl, M1, hz1, bel1⟩
  obtain ⟨mx, hmx⟩ : ∃ mx, clamp a0 = mx := ⟨_, rfl⟩
  have m0 : 0 ≤ mx ∧ mx ≤ 9223372036854775807 := by rw [← hmx]; unfold clamp; split <;> omega
  obtain ⟨m0, m1⟩ := m0
  rw [hmx] at M1
  have HM : Hid (clamp a0 = mx) := hmx
  have I0 : Hid (WI w w.heap.size (w.heap.size + 1) w.heap.size mx 0 [] (.slice none 0 0) (.slice none 0 0) W1) :=
    (⟨M1, ⟨World.ownsRow_nil _ _ _ _, World.ownsRow_nil _ _ _ _, fun g e => (by cases e), fun g e => (by cases e), fun g e => (by cases e)⟩, fun p hp => (by cases hp), bel1, (by omega), (by omega)⟩ : WI w w.heap.size (w.heap.size + 1) w.heap.size mx 0 [] (.slice none 0 0) (.slice none 0 0) W1)
  obtain ⟨B, hB⟩ : ∃ B, w.heap.size = B := ⟨_, rfl⟩
  rw [hB] at I0 ⊢
  have HBB : Hid (w.heap.size = B) := hB
  clear hmx hB M1 hz1 bel1
  go_wp2_with fail
  go_loopg [10, 11, 36] ns (fun gg s10 s11 s36 wr => ∃ (k : Nat) (L : Peers), s36 = .int .i64 k ∧ k ≤ ns ∧ ns - k ≤ gg ∧ Hid (WI w B (B + 1) B mx k L s10 s11 wr))
  case atStart => exact ⟨0, [], rfl, by omega, by omega, I0⟩
  case round =>
    obtain ⟨k, L, rfl, hk, hg, IR⟩ := hrel
    clear I0
    have hL : L.length ≤ k := IR.out.mi.len
    obtain ⟨ka, kc, hka, hkg⟩ := shape IR.out.rows.rk
    obtain ⟨va, vc, hva, hvg⟩ := shape IR.out.rows.rv
    obtain ⟨n, hn⟩ : ∃ n, L.length = n := ⟨_, rfl⟩
    rw [hn] at hka hva hkg hvg
    subst hka hva
    by_cases hlt : k < ns
    · have d1 : (k : Int) < (ns : Int) := by omega
      rcases HK.out with e | ⟨tb, to, rfl, tbw, tc⟩
      · rw [e] at hns; simp at hns; omega
      obtain ⟨⟨t1, t2, t3⟩, t4, t5⟩ := tc k (by omega)
      have c1 := (IR.out.bel.cell (p := ⟨tb, to + k * 3, none⟩) (by rw [← HBB.out]; exact tbw)).trans t1
      have c2 := (IR.out.bel.cell (p := ⟨tb, to + k * 3 + 1, none⟩) (by rw [← HBB.out]; exact tbw)).trans t2
      have c3 := (IR.out.bel.cell (p := ⟨tb, to + k * 3 + 2, none⟩) (by rw [← HBB.out]; exact tbw)).trans t3
      obtain ⟨st, hst⟩ : ∃ st, sts[k]! = st := ⟨_, rfl⟩
      rw [hst] at c1 c2 c3 t4 t5
      obtain ⟨⟨ni, off⟩, fg⟩ := st
      simp only at c1 c2 c3 t4 t5
      clear t1 t2 t3 tc hst
      go_wp2_with fail
      have I2 : Hid (WI w B (B + 1) B mx k L (.slice ka n kc) (.slice va n vc) (wr.alloc (Obj.cells #[Value.int IntKind.u8 ni, Value.int IntKind.i64 off, Value.bool fg] 29))) := IR.out.alloc _
      have hq := heap_alloc_new wr (Obj.cells #[Value.int IntKind.u8 ni, Value.int IntKind.i64 off, Value.bool fg] 29)
      have hqb : wr.heap.size ≠ B + 1 ∧ wr.heap.size ≠ B := by have h1 := IR.out.mi.box.lt; have h2 := IR.out.mi.bm_lt; omega
      obtain ⟨q, hqq⟩ : ∃ q, wr.heap.size = q := ⟨_, rfl⟩
      rw [hqq] at hq hqb ⊢
      generalize wr.alloc (Obj.cells #[Value.int IntKind.u8 ni, Value.int IntKind.i64 off, Value.bool fg] 29) = W2 at I2 hq ⊢
      have HQ : Hid (W2.heap[q]? = some (Obj.cells #[Value.int IntKind.u8 ni, Value.int IntKind.i64 off, Value.bool fg] 29)) := hq
      have HQB : Hid (q ≠ B + 1 ∧ q ≠ B) := hqb
      have HKQ : Hid ((Value.slice ka n kc).ownBlock ≠ some q) := fun e => by have := (IR.out.rows.rk.lt q e).2; omega
      clear hq hqb hqq IR c1 c2 c3
      refine (name_any ni _ t4).mono ?_
      rintro e w3 ⟨rfl, hw3⟩
      have hw3' := hw3.symm
      subst hw3'
      clear hw3
      have hnz := nm_size ni
      generalize nm ni = nam at hnz ⊢
      have s3 : W2.cell? ⟨q, 2, none⟩ = some (.bool fg) := by simp [World.cell?, HQ.out]
      go_wp2_with fail
      have L2 : Hid (∀ i, i < 0 → (L[i]!).1 ≠ nam) := fun i hi => by omega
      go_loopg [15, 48] n (fun gg s15 s48 wr => ∃ j : Nat, s48 = .int .i64 j ∧ s15 = .int .i64 (-1) ∧ j ≤ n ∧ n - j ≤ gg ∧ wr = W2 ∧ Hid (∀ i, i < j → (L[i]!).1 ≠ nam))
      case atStart => exact ⟨0, rfl, rfl, by omega, by omega, rfl, L2⟩
      case round =>
        obtain ⟨j, rfl, rfl, hj, hgj, hwr, LJ⟩ := hrel
        have hwr' := hwr.symm
        subst hwr'
        clear L2 hwr
        by_cases hjn : j < n
        · have d2 : (j : Int) < (n : Int) := by omega
          obtain ⟨kg, rfl, hkl, hkf⟩ := hkg (by omega)
          have kcell := row_cell I2.out.rows.rk (kcells_get L (j := j) (by omega))
          obtain ⟨ky, hky⟩ : ∃ ky, (L[j]!).1 = ky := ⟨_, rfl⟩
          rw [hky] at kcell
          by_cases hsp : ky = nam
          · subst hsp
            cases fg with
            | true =>
              go_wp2_with fail
              refine (forget_mi (B + 1) B k mx L ky W2 m0 m1 (by omega) hnz I2.out.mi).mono ?_
              rintro e W4 ⟨rfl, M4, F4⟩
              have R4 : Hid (Rows2 W4 B (B + 1) B L (.slice (some ⟨kg, 0, none⟩) n kc) (.slice va n vc)) := I2.out.rows.keep F4.block
              have HM4 : Hid (MI W4 (B + 1) B mx 0 k (less L ky)) := M4
              have HF4 : Hid (Fr2 (B + 1) B W2 W4) := F4
              have HKY : Hid ((L[j]!).1 = ky) := hky
              clear M4 F4 hky
              go_wp2_with fail
              have R30 : Hid (R3 W4 (B + 1) B L ky 0 (.slice none 0 0) (.slice none 0 0) W4) := R3.zero _ _ _ _ _
              go_loopg [17, 18, 68] n (fun gg s17 s18 s68 wr => ∃ i : Nat, s68 = .int .i64 i ∧ i ≤ n ∧ n - i ≤ gg ∧ Hid (R3 W4 (B + 1) B L ky i s17 s18 wr))
              case atStart => exact ⟨0, rfl, by omega, by omega, R30⟩
              case round =>
                obtain ⟨i, rfl, hi, hgi, R3i⟩ := hrel
                clear R30
                obtain ⟨na, nc, hna, z8⟩ := shape R3i.out.rows.rk
                obtain ⟨ua, uc, hua, z9⟩ := shape R3i.out.rows.rv
                clear z8 z9
                have hml := less_len L i ky
                obtain ⟨m, hm⟩ : ∃ m, (less (L.take i) ky).length = m := ⟨_, rfl⟩
                rw [hm] at hna hua hml
                subst hna hua
                by_cases hin : i < n
                · have d3 : (i : Int) < (n : Int) := by omega
                  obtain ⟨vg, rfl, _, _⟩ := hvg (by omega)
                  by_cases hij : i = j
                  · subst hij
                    have R5 : Hid (R3 W4 (B + 1) B L ky (i + 1) (.slice na m nc) (.slice ua m uc) wr) := by
                      refine (⟨?_, R3i.out.bel⟩ : R3 W4 (B + 1) B L ky (i + 1) (.slice na m nc) (.slice ua m uc) wr)
                      rw [less_take (by omega), if_pos HKY.out]
                      exact R3i.out.rows
                    clear hkg hvg
                    go_wp2_with fail
                    go_roundg (n - (i + 1))
                    case measure => omega
                    case rel => exact ⟨i + 1, by go_num, by omega, by omega, R5⟩
                  · have dj : (i : Int) ≠ (j : Int) := by omega
                    have r0 := I2.out.mi.own
                    obtain ⟨_, _, _, _, r0⟩ := r0
                    have hne := nodup_ne r0.nd (i := i) (j := j) (by omega) (by omega) hij
                    rw [HKY.out] at hne
                    have kc1 := (R3i.out.bel.cell (p := ⟨kg, i, none⟩) (R4.out.rk.lt kg rfl).2).trans (row_cell R4.out.rk (kcells_get L (j := i) (by omega)))
                    have vc1 := (R3i.out.bel.cell (p := ⟨vg, i, none⟩) (R4.out.rv.lt vg rfl).2).trans (row_cell R4.out.rv (vcells_get L (j := i) (by omega)))
                    have LT := less_take (L := L) (i := i) (by omega) ky
                    rw [if_neg hne] at LT
                    obtain ⟨kx, hkx⟩ : ∃ kx, (L[i]!).1 = kx := ⟨_, rfl⟩
                    obtain ⟨vx, hvx⟩ : ∃ vx, (L[i]!).2 = vx := ⟨_, rfl⟩
                    rw [hkx] at kc1 LT
                    rw [hvx] at vc1 LT
                    have HLT : Hid (less (List.take (i + 1) L) ky = less (List.take i L) ky ++ [(kx, vx)]) := LT
                    have rkk := R3i.out.rows.rk
                    have rvv := R3i.out.rows.rv
                    rw [hm] at rkk rvv
                    have hvl := (R4.out.rv.lt vg rfl).2
                    obtain ⟨Z, hZ⟩ : ∃ Z, W4.heap.size = Z := ⟨_, rfl⟩
                    rw [hZ] at rkk rvv hvl
                    have hZr : Z ≤ wr.heap.size := by rw [← hZ]; exact R3i.out.bel.size
                    have hrb : ∀ g, (Value.slice na m nc).ownBlock = some g → Z ≤ g := fun g e => (rkk.lt g e).1
                    have HRB : Hid (∀ g, (Value.slice na m nc).ownBlock = some g → Z ≤ g) := hrb
                    have HZ : Hid (W4.heap.size = Z) := hZ
                    clear hkx hvx LT hne r0 hrb hZ
                    clear hkg hvg
                    go_wp2_with (first
                      | (at_builtin; refine wpList_append_lies _ rfl (.tmp 74) (.tmp 79) 26 rfl Z 9 i9 _ 1 16 Yba.underlying26 hi9 hz90 hz91 hz92 rfl (by decide) (.slice na m nc) m (kcells (less (L.take i) ky)) rfl (rkk.alloc _) ⟨wr.heap.size, 0, none⟩ 1 1 [.string kx] rfl rfl (news1 _ _ _) (one_str _) (by decide) (by unfold maxLen; omega) (by omega) (by rw [World.size_alloc]; omega) (wr.heap.size + 1) (by rw [World.size_alloc]) ?_; intro g1 cp1 wy o1 y1 z1 l1; have sy := (cell_kept ((y1.block vg (by rw [World.size_alloc]; omega) (fun e => by have := HRB.out vg e.symm; omega)).trans (heap_alloc_old _ _ (by omega))) i).1.trans vc1; have hsy := y1.size; rw [World.size_alloc] at hsy)
                      | (at_builtin; refine wpList_append_lies _ rfl (.tmp 81) (.tmp 86) 27 rfl Z 2 i2 _ 1 8 Yba.underlying27 hi2 hz20 hz21 hz22 rfl (by decide) (.slice ua m uc) m (vcells (less (L.take i) ky)) rfl (((rvv.alloc _).kept y1 R3i.out.rows.sep).alloc _) ⟨wy.heap.size, 0, none⟩ 1 1 [.int .i64 vx] rfl rfl (news1 _ _ _) (one_int _) (by decide) (by unfold maxLen; omega) (by omega) (by rw [World.size_alloc]; omega) (wy.heap.size + 1) (by rw [World.size_alloc]) ?_; intro g2 cp2 wz o2 y2 z2 l2))
                    have hsb := Nat.lt_of_lt_of_le HM4.out.box.lt R3i.out.bel.size
                    have hbm := Nat.lt_of_lt_of_le HM4.out.bm_lt R3i.out.bel.size
                    rw [← HZ.out] at o1 o2
                    have AA := app2 hm R3i.out.rows hsb hbm R3i.out.bel.size o1 y1 z1 l1 o2 y2 z2
                    have R5 : Hid (R3 W4 (B + 1) B L ky (i + 1) (.slice (some ⟨g1, 0, none⟩) (m + 1) cp1) (.slice (some ⟨g2, 0, none⟩) (m + 1) cp2) wz) := by
                      refine (⟨?_, R3i.out.bel.trans AA.2.1⟩ : R3 W4 (B + 1) B L ky (i + 1) (.slice (some ⟨g1, 0, none⟩) (m + 1) cp1) (.slice (some ⟨g2, 0, none⟩) (m + 1) cp2) wz)
                      rw [HLT.out]
                      exact AA.1
                    clear AA o1 y1 z1 l1 o2 y2 z2 l2 sy hsy rkk rvv hsb hbm kc1 vc1
                    go_wp2_with fail
                    go_roundg (n - (i + 1))
                    case measure => omega
                    case rel => exact ⟨i + 1, by go_num, by omega, by omega, R5⟩
                · have d3 : decide ((i : Int) < (n : Int)) = false := decide_eq_false (by omega)
                  have hin' : i = L.length := by omega
                  have I5 : Hid (WI w B (B + 1) B mx (k + 1) (less L ky) (.slice na m nc) (.slice ua m uc) wr) := by
                    have RR := R3i.out
                    rw [hin'] at RR
                    have R6 := RR.rows
                    rw [List.take_length] at R6
                    exact WI.fresh I2.out (HM4.out.up (by omega)) HF4.out R6 RR.bel
                  clear hkg hvg
                  go_wp2_with fail
                  go_roundg (ns - (k + 1))
                  case measure => omega
                  case rel => exact ⟨k + 1, _, by go_num, by omega, by omega, I5⟩
            | false =>
              have s2 : W2.cell? ⟨q, 1, none⟩ = some (.int .i64 off) := by simp [World.cell?, HQ.out]
              go_wp2_with fail
              refine (record_mi (B + 1) B k mx L ky off W2 m0 m1 (by omega) hnz t5 I2.out.mi).mono ?_
              rintro e W4 ⟨rfl, M4, F4⟩
              have hqs : q < W2.heap.size := (Array.getElem?_eq_some_iff.1 HQ.out).1
              have R4 : Hid (Rows2 W4 B (B + 1) B L (.slice (some ⟨kg, 0, none⟩) n kc) (.slice va n vc)) := I2.out.rows.keep F4.block
              have s4 := (cell_kept (F4.block q hqs HQB.out.1 HQB.out.2) 1).1.trans s2
              obtain ⟨vg, rfl, _, _⟩ := hvg (by omega)
              have vc1 := row_cell R4.out.rv (vcells_get L (j := j) (by omega))
              have vf1 : W4.frozen? ⟨vg, j, none⟩ = false := by
                rcases R4.out.rv.2 with ⟨e, _⟩ | ⟨gb, cap, cur, e, _, hg, _⟩
                · cases e
                · cases e; simp [World.frozen?, hg]
              have I5 : Hid (WI w B (B + 1) B mx (k + 1) (L.set j (ky, off)) (.slice (some ⟨kg, 0, none⟩) n kc) (.slice (some ⟨vg, 0, none⟩) n vc) (W4.setCell ⟨vg, j, none⟩ (.int .i64 off))) := WI.store I2.out (by omega) hky hnz t5 M4 F4
              obtain ⟨ov, hov⟩ : ∃ ov, (L[j]!).2 = ov := ⟨_, rfl⟩
              rw [hov] at vc1
              clear M4 F4 s2 hkg hvg R4 hov hky
              go_wp2_with fail
              go_roundg (ns - (k + 1))
              case measure => omega
              case rel => exact ⟨k + 1, _, by go_num, by omega, by omega, I5⟩
          · have d4 : (ky.toList == nam.toList) = false := ne_list hsp
            go_wp2_with fail
            go_roundg (n - (j + 1))
            case measure => omega
            case rel =>
              refine ⟨j + 1, by go_num, rfl, by omega, by omega, rfl, ?_⟩
              refine (fun i hi => ?_ : ∀ i, i < j + 1 → (L[i]!).1 ≠ nam)
              rcases Nat.lt_or_ge i j with e | e
              · exact LJ.out i e
              · obtain rfl : i = j := by omega
                rw [hky]; exact hsp
        · have d2 : decide ((j : Int) < (n : Int)) = false := decide_eq_false (by omega)
          have hnot : nam ∉ L.map Prod.fst := not_in hn (fun i hi => LJ.out i (by omega))
          cases fg with
          | true =>
            go_wp2_with fail
            refine (forget_mi (B + 1) B k mx L nam W2 m0 m1 (by omega) hnz I2.out.mi).mono ?_
            rintro e W4 ⟨rfl, M4, F4⟩
            rw [less_none hnot] at M4
            have I4 : Hid (WI w B (B + 1) B mx (k + 1) L (.slice ka n kc) (.slice va n vc) W4) := I2.out.turn (M4.up (by omega)) F4
            clear M4 F4
            go_wp2_with fail
            clear hkg hvg
            go_roundg (ns - (k + 1))
            case measure => omega
            case rel => exact ⟨k + 1, L, by go_num, by omega, by omega, I4⟩
          | false =>
            have s2 : W2.cell? ⟨q, 1, none⟩ = some (.int .i64 off) := by simp [World.cell?, HQ.out]
            go_wp2_with fail
            refine (record_mi (B + 1) B k mx L nam off W2 m0 m1 (by omega) hnz t5 I2.out.mi).mono ?_
            rintro e W4 ⟨rfl, M4, F4⟩
            rw [less_none hnot] at M4
            have hqs : q < W2.heap.size := (Array.getElem?_eq_some_iff.1 HQ.out).1
            have R4 : Hid (Rows2 W4 B (B + 1) B L (.slice ka n kc) (.slice va n vc)) := I2.out.rows.keep F4.block
            have s4 := (cell_kept (F4.block q hqs HQB.out.1 HQB.out.2) 1).1.trans s2
            have hq4 : q < W4.heap.size := Nat.lt_of_lt_of_le hqs F4.size
            have hB4 : B ≤ W4.heap.size := Nat.le_trans I2.out.hB F4.size
            have HM4 : Hid (MI W4 (B + 1) B mx 0 (k + 1) (L ++ [(nam, off)])) := M4
            have HF4 : Hid (Fr2 (B + 1) B W2 W4) := F4
            have rk4 := R4.out.rk
            have rv4 := R4.out.rv
            rw [hn] at rk4 rv4
            clear M4 F4 s2
            go_wp2_with (first
              | (at_builtin; refine wpList_append_lies _ rfl (.tmp 103) (.tmp 105) 26 rfl B 9 i9 _ 1 16 Yba.underlying26 hi9 hz90 hz91 hz92 rfl (by decide) (.slice ka n kc) n (kcells L) rfl (rk4.alloc _) ⟨W4.heap.size, 0, none⟩ 1 1 [.string nam] rfl rfl (news1 _ _ _) (one_str _) (by decide) (by unfold maxLen; omega) (by omega) (by rw [World.size_alloc]; omega) (W4.heap.size + 1) (by rw [World.size_alloc]) ?_; intro g1 cp1 wy o1 y1 z1 l1; have sy := (cell_kept ((y1.block q (by rw [World.size_alloc]; omega) (Ne.symm HKQ.out)).trans (heap_alloc_old _ _ hq4)) 1).1.trans s4; have hsy := y1.size; rw [World.size_alloc] at hsy)
              | (at_builtin; refine wpList_append_lies _ rfl (.tmp 107) (.tmp 110) 27 rfl B 2 i2 _ 1 8 Yba.underlying27 hi2 hz20 hz21 hz22 rfl (by decide) (.slice va n vc) n (vcells L) rfl (((rv4.alloc _).kept y1 R4.out.sep).alloc _) ⟨wy.heap.size, 0, none⟩ 1 1 [.int .i64 off] rfl rfl (news1 _ _ _) (one_int _) (by decide) (by unfold maxLen; omega) (by omega) (by rw [World.size_alloc]; omega) (wy.heap.size + 1) (by rw [World.size_alloc]) ?_; intro g2 cp2 wz o2 y2 z2 l2))
            have AA := app2 hn R4.out HM4.out.box.lt HM4.out.bm_lt hB4 o1 y1 z1 l1 o2 y2 z2
            have I5 : Hid (WI w B (B + 1) B mx (k + 1) (L ++ [(nam, off)]) (.slice (some ⟨g1, 0, none⟩) (n + 1) cp1) (.slice (some ⟨g2, 0, none⟩) (n + 1) cp2) wz) :=
              ⟨HM4.out.keep AA.2.2.1 AA.2.2.2, AA.1, fun p hp => (by
                rcases List.mem_append.1 hp with e | e
                · exact I2.out.ok p e
                · simp at e; subst e; exact ⟨hnz, t5⟩), (I2.out.bel.trans (HF4.out.below I2.out.hs.1 I2.out.hs.2 I2.out.hB)).trans AA.2.1, Nat.le_trans hB4 AA.2.1.size, I2.out.hs⟩
            clear AA o1 y1 z1 l1 o2 y2 z2 l2 sy hsy rk4 rv4
            go_wp2_with fail
            clear hkg hvg
            go_roundg (ns - (k + 1))
            case measure => omega
            case rel => exact ⟨k + 1, _, by go_num, by omega, by omega, I5⟩
    · have hkn : k = ns := by omega
      subst hkn
      have d1 : decide ((k : Int) < (k : Int)) = false := decide_eq_false (by omega)
      by_cases hpk : pick % 6 < 5
      · have e6 : pick.tmod 6 = pick % 6 := Int.tmod_eq_emod_of_nonneg p0
        go_wp2_with fail
        refine (name_any pick _ p0).mono ?_
        rintro e w6 ⟨rfl, hw6⟩
        have hw6' := hw6.symm
        subst hw6'
        clear hw6
        have hpz := nm_size pick
        generalize nm pick = peer at hpz ⊢
        go_wp2_with fail
        refine (drop_mi (B + 1) B k mx 0 L peer wr m0 m1 (by omega) hpz IR.out.mi).mono ?_
        rintro e W4 ⟨rfl, M4, F4⟩
        have R4 : Hid (Rows2 W4 B (B + 1) B L (.slice ka n kc) (.slice va n vc)) := IR.out.rows.keep F4.block
        have HBL : Hid (RowKit.Below B w W4) := IR.out.bel.trans (F4.below IR.out.hs.1 IR.out.hs.2 IR.out.hB)
        have HOK : Hid (PeersOk L) := IR.out.ok
        have HBX : Hid (Box W4 (B + 1) mx 0 B (cnt mx (less L peer))) := M4.box
        obtain ⟨D, dn, hdn, hown, r⟩ := M4.own
        have HRR : Hid (Rel D (less L peer)) := r
        have HND : Hid ((L.map Prod.fst).Nodup) := by obtain ⟨_, _, _, _, r0⟩ := IR.out.mi.own; exact r0.nd
        clear M4 F4 r IR
        have x0 := HBX.out.c0
        go_wp2_with fail
        refine (clamp_any a0 _).mono ?_
        rintro e w5 ⟨rfl, hw⟩
        have hw' := hw.symm
        subst hw'
        clear hw
        rw [HM.out]
        go_wp2_with fail
        have Z0 : Hid (0 = (less (L.take 0) peer).length ∧ 0 = cnt mx (less (L.take 0) peer)) := (⟨rfl, rfl⟩ : 0 = (less (L.take 0) peer).length ∧ 0 = cnt mx (less (L.take 0) peer))
        go_loopg [22, 23, 133] n (fun gg s22 s23 s133 wr => ∃ (i dm ln cn : Nat), s133 = .int .i64 i ∧ s22 = .int .i64 ln ∧ s23 = .int .i64 cn ∧ i ≤ n ∧ n - i ≤ gg ∧ wr = W4.drewN dm ∧ Hid (ln = (less (L.take i) peer).length ∧ cn = cnt mx (less (L.take i) peer)))
        case atStart => exact ⟨0, 0, 0, 0, rfl, rfl, rfl, by omega, by omega, rfl, Z0⟩
        case round =>
          obtain ⟨i, dm, ln, cn, rfl, rfl, rfl, hi, hgi, rfl, HZ⟩ := hrel
          clear Z0
          have hml := less_len L i peer
          have hcl := cnt_le mx (less (L.take i) peer)
          rw [← HZ.out.1] at hml hcl
          rw [← HZ.out.2] at hcl
          have x3 : ∀ n, (W4.drewN n).cell? ⟨B + 1, 3, none⟩ = some (.map (some B)) := fun _ => HBX.out.c3
          by_cases hin : i < n
          · have d3 : (i : Int) < (n : Int) := by omega
            obtain ⟨kg, rfl, _, _⟩ := hkg (by omega)
            obtain ⟨vg, rfl, _, _⟩ := hvg (by omega)
            have kc1 := row_cell R4.out.rk (kcells_get L (j := i) (by omega))
            have vc1 := row_cell R4.out.rv (vcells_get L (j := i) (by omega))
            have hok := HOK.out (L[i]!) (by rw [getElem!_pos L i (by omega)]; exact List.getElem_mem _)
            have LT := less_take (L := L) (i := i) (by omega) peer
            have hin2 : L[i]! ∈ L := by rw [getElem!_pos L i (by omega)]; exact List.getElem_mem _
            obtain ⟨pr, hpr⟩ : ∃ pr, L[i]! = pr := ⟨_, rfl⟩
            rw [hpr] at kc1 vc1 hok LT hin2
            obtain ⟨kx, vx⟩ := pr
            simp only at kc1 vc1 hok LT
            obtain ⟨hkz, hvw⟩ := hok
            have kc2 : ∀ n, (W4.drewN n).cell? ⟨kg, i, none⟩ = some (.string kx) := fun _ => kc1
            have vc2 : ∀ n, (W4.drewN n).cell? ⟨vg, i, none⟩ = some (.int .i64 vx) := fun _ => vc1
            clear hkg hvg hpr
            by_cases hsp : kx = peer
            · rw [if_pos hsp] at LT
              have HLT : Hid (less (L.take (i + 1)) peer = less (L.take i) peer) := LT
              have hno := HRR.out.none (not_mem_less L peer)
              have l1 := fun m => look41 hown (key_ok hpz) (atKey_of_not_has hno _) hno m
              rw [hsp] at kc1 kc2
              clear LT hno
              go_wp2_with fail
              go_roundg (n - (i + 1))
              case measure => omega
              case rel => exact ⟨i + 1, dm, ln, cn, by go_num, rfl, rfl, by omega, by omega, rfl, (by rw [HLT.out]; exact HZ)⟩
            · rw [if_neg hsp] at LT
              have HLT : Hid (less (L.take (i + 1)) peer = less (L.take i) peer ++ [(kx, vx)]) := LT
              have d4 : (kx.toList == peer.toList) = false := ne_list hsp
              have hm := mem_less.2 ⟨hin2, hsp⟩
              have hyes := (HRR.out.hs kx).2 (List.mem_map_of_mem hm)
              have l1 := fun m => look41 hown (key_ok hkz) (HRR.out.vl kx vx hm) hyes m
              obtain ⟨b0, b1⟩ := bounds_i64 hvw
              have HL1 : Hid ((less (L.take (i + 1)) peer).length = ln + 1) := by rw [HLT.out, List.length_append, ← HZ.out.1]; rfl
              have HC1 : Hid (cnt mx (less (L.take (i + 1)) peer) = cn + (if ex vx mx = true then 1 else 0)) := by rw [HLT.out, cnt_app, ← HZ.out.2]; rfl
              clear LT hm hyes hin2
              go_wp2_with fail
              go_region
              go_wp2_with fail
              refine (zex_any vx mx _ m0 m1 b0 b1).mono ?_
              rintro e w6 ⟨rfl, hw6⟩
              have hw6' := hw6.symm
              subst hw6'
              clear hw6
              cases hex : ex vx mx with
              | true =>
                have hc := HC1.out
                rw [if_pos hex] at hc
                have HH : Hid (ln + 1 = (less (L.take (i + 1)) peer).length ∧ cn + 1 = cnt mx (less (L.take (i + 1)) peer)) := ⟨HL1.out.symm, hc.symm⟩
                clear hc
                go_wp2_with fail
                go_roundg (n - (i + 1))
                case measure => omega
                case rel => exact ⟨i + 1, dm + 1, ln + 1, cn + 1, by go_num, by go_num, by go_num, by omega, by omega, rfl, HH⟩
              | false =>
                have hc := HC1.out
                rw [if_neg (by rw [hex]; decide)] at hc
                have HH : Hid (ln + 1 = (less (L.take (i + 1)) peer).length ∧ cn = cnt mx (less (L.take (i + 1)) peer)) := ⟨HL1.out.symm, hc.symm⟩
                clear hc
                go_wp2_with fail
                go_roundg (n - (i + 1))
                case measure => omega
                case rel => exact ⟨i + 1, dm + 1, ln + 1, cn, by go_num, by go_num, rfl, by omega, by omega, rfl, HH⟩
          · have d3 : decide ((i : Int) < (n : Int)) = false := decide_eq_false (by omega)
            have hin' : i = L.length := by omega
            have e1 := HZ.out.1
            have e2 := HZ.out.2
            rw [hin', List.take_length] at e1 e2
            have hl1 : ∀ m, _ := fun m => World.ownsMap.len (w := W4.drewN m) hown Yba.underlying41 3
            rw [HRR.out.sz, ← e1] at hl1
            have x4 : ∀ n, (W4.drewN n).cell? ⟨B + 1, 4, none⟩ = some (.int .i64 cn) := fun _ => by rw [e2]; exact HBX.out.c4
            clear e1 e2 hin' hkg hvg
            go_wp2_with fail
            go_ret
            exact ⟨rfl, by rw [HBB.out]; exact ⟨HBL.out.os, HBL.out.tape, HBL.out.output, HBL.out.size, HBL.out.block⟩⟩
      · have e6 : pick.tmod 6 = pick % 6 := Int.tmod_eq_emod_of_nonneg p0
        have hpk' : decide (pick % 6 < 5) = false := decide_eq_false hpk
        go_wp2_with fail
        refine (drop_mi (B + 1) B k mx 0 L raw wr m0 m1 (by omega) hraw IR.out.mi).mono ?_
        rintro e W4 ⟨rfl, M4, F4⟩
        have R4 : Hid (Rows2 W4 B (B + 1) B L (.slice ka n kc) (.slice va n vc)) := IR.out.rows.keep F4.block
        have HBL : Hid (RowKit.Below B w W4) := IR.out.bel.trans (F4.below IR.out.hs.1 IR.out.hs.2 IR.out.hB)
        have HOK : Hid (PeersOk L) := IR.out.ok
        have HBX : Hid (Box W4 (B + 1) mx 0 B (cnt mx (less L raw))) := M4.box
        obtain ⟨D, dn, hdn, hown, r⟩ := M4.own
        have HRR : Hid (Rel D (less L raw)) := r
        have HND : Hid ((L.map Prod.fst).Nodup) := by obtain ⟨_, _, _, _, r0⟩ := IR.out.mi.own; exact r0.nd
        clear M4 F4 r IR
        have x0 := HBX.out.c0
        go_wp2_with fail
        refine (clamp_any a0 _).mono ?_
        rintro e w5 ⟨rfl, hw⟩
        have hw' := hw.symm
        subst hw'
        clear hw
        rw [HM.out]
        go_wp2_with fail
        have Z0 : Hid (0 = (less (L.take 0) raw).length ∧ 0 = cnt mx (less (L.take 0) raw)) := (⟨rfl, rfl⟩ : 0 = (less (L.take 0) raw).length ∧ 0 = cnt mx (less (L.take 0) raw))
        go_loopg [22, 23, 133] n (fun gg s22 s23 s133 wr => ∃ (i dm ln cn : Nat), s133 = .int .i64 i ∧ s22 = .int .i64 ln ∧ s23 = .int .i64 cn ∧ i ≤ n ∧ n - i ≤ gg ∧ wr = W4.drewN dm ∧ Hid (ln = (less (L.take i) raw).length ∧ cn = cnt mx (less (L.take i) raw)))
        case atStart => exact ⟨0, 0, 0, 0, rfl, rfl, rfl, by omega, by omega, rfl, Z0⟩
        case round =>
          obtain ⟨i, dm, ln, cn, rfl, rfl, rfl, hi, hgi, rfl, HZ⟩ := hrel
          clear Z0
          have hml := less_len L i raw
          have hcl := cnt_le mx (less (L.take i) raw)
          rw [← HZ.out.1] at hml hcl
          rw [← HZ.out.2] at hcl
          have x3 : ∀ n, (W4.drewN n).cell? ⟨B + 1, 3, none⟩ = some (.map (some B)) := fun _ => HBX.out.c3
          by_cases hin : i < n
          · have d3 : (i : Int) < (n : Int) := by omega
            obtain ⟨kg, rfl, _, _⟩ := hkg (by omega)
            obtain ⟨vg, rfl, _, _⟩ := hvg (by omega)
            have kc1 := row_cell R4.out.rk (kcells_get L (j := i) (by omega))
            have vc1 := row_cell R4.out.rv (vcells_get L (j := i) (by omega))
            have hok := HOK.out (L[i]!) (by rw [getElem!_pos L i (by omega)]; exact List.getElem_mem _)
            have LT := less_take (L := L) (i := i) (by omega) raw
            have hin2 : L[i]! ∈ L := by rw [getElem!_pos L i (by omega)]; exact List.getElem_mem _
            obtain ⟨pr, hpr⟩ : ∃ pr, L[i]! = pr := ⟨_, rfl⟩
            rw [hpr] at kc1 vc1 hok LT hin2
            obtain ⟨kx, vx⟩ := pr
            simp only at kc1 vc1 hok LT
            obtain ⟨hkz, hvw⟩ := hok
            have kc2 : ∀ n, (W4.drewN n).cell? ⟨kg, i, none⟩ = some (.string kx) := fun _ => kc1
            have vc2 : ∀ n, (W4.drewN n).cell? ⟨vg, i, none⟩ = some (.int .i64 vx) := fun _ => vc1
            clear hkg hvg hpr
            by_cases hsp : kx = raw
            · rw [if_pos hsp] at LT
              have HLT : Hid (less (L.take (i + 1)) raw = less (L.take i) raw) := LT
              have hno := HRR.out.none (not_mem_less L raw)
              have l1 := fun m => look41 hown (key_ok hraw) (atKey_of_not_has hno _) hno m
              rw [hsp] at kc1 kc2
              clear LT hno
              go_wp2_with fail
              go_roundg (n - (i + 1))
              case measure => omega
              case rel => exact ⟨i + 1, dm, ln, cn, by go_num, rfl, rfl, by omega, by omega, rfl, (by rw [HLT.out]; exact HZ)⟩
            · rw [if_neg hsp] at LT
              have HLT : Hid (less (L.take (i + 1)) raw = less (L.take i) raw ++ [(kx, vx)]) := LT
              have d4 : (kx.toList == raw.toList) = false := ne_list hsp
              have hm := mem_less.2 ⟨hin2, hsp⟩
              have hyes := (HRR.out.hs kx).2 (List.mem_map_of_mem hm)
              have l1 := fun m => look41 hown (key_ok hkz) (HRR.out.vl kx vx hm) hyes m
              obtain ⟨b0, b1⟩ := bounds_i64 hvw
              have HL1 : Hid ((less (L.take (i + 1)) raw).length = ln + 1) := by rw [HLT.out, List.length_append, ← HZ.out.1]; rfl
              have HC1 : Hid (cnt mx (less (L.take (i + 1)) raw) = cn + (if ex vx mx = true then 1 else 0)) := by rw [HLT.out, cnt_app, ← HZ.out.2]; rfl
              clear LT hm hyes hin2
              go_wp2_with fail
              go_region
              go_wp2_with fail
              refine (zex_any vx mx _ m0 m1 b0 b1).mono ?_
              rintro e w6 ⟨rfl, hw6⟩
              have hw6' := hw6.symm
              subst hw6'
              clear hw6
              cases hex : ex vx mx with
              | true =>
                have hc := HC1.out
                rw [if_pos hex] at hc
                have HH : Hid (ln + 1 = (less (L.take (i + 1)) raw).length ∧ cn + 1 = cnt mx (less (L.take (i + 1)) raw)) := ⟨HL1.out.symm, hc.symm⟩
                clear hc
                go_wp2_with fail
                go_roundg (n - (i + 1))
                case measure => omega
                case rel => exact ⟨i + 1, dm + 1, ln + 1, cn + 1, by go_num, by go_num, by go_num, by omega, by omega, rfl, HH⟩
              | false =>
                have hc := HC1.out
                rw [if_neg (by rw [hex]; decide)] at hc
                have HH : Hid (ln + 1 = (less (L.take (i + 1)) raw).length ∧ cn = cnt mx (less (L.take (i + 1)) raw)) := ⟨HL1.out.symm, hc.symm⟩
                clear hc
                go_wp2_with fail
                go_roundg (n - (i + 1))
                case measure => omega
                case rel => exact ⟨i + 1, dm + 1, ln + 1, cn, by go_num, by go_num, rfl, by omega, by omega, rfl, HH⟩
          · have d3 : decide ((i : Int) < (n : Int)) = false := decide_eq_false (by omega)
            have hin' : i = L.length := by omega
            have e1 := HZ.out.1
            have e2 := HZ.out.2
            rw [hin', List.take_length] at e1 e2
            have hl1 : ∀ m, _ := fun m => World.ownsMap.len (w := W4.drewN m) hown Yba.underlying41 3
            rw [HRR.out.sz, ← e1] at hl1
            have x4 : ∀ n, (W4.drewN n).cell? ⟨B + 1, 4, none⟩ = some (.int .i64 cn) := fun _ => by rw [e2]; exact HBX.out.c4
            clear e1 e2 hin' hkg hvg
            go_wp2_with fail
            go_ret
            exact ⟨rfl, by rw [HBB.out]; exact ⟨HBL.out.os, HBL.out.tape, HBL.out.output, HBL.out.size, HBL.out.block⟩⟩
end Go.Proofs.Ybulkdndm
