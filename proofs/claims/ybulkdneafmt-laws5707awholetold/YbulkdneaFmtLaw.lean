/- WALK: LawS5707AWhole. -/
import Derived.Test.YbulkdneaFmtDesc
import Derived.Test.YbulkdneaFmtSl
import Derived.Test.YbulkdneaFmtArith
import Derived.Test.YbulkdneaFmtConv
import Derived.BigRegion
namespace Go.Proofs.YbulkdneaFmt
open Go.RowKit

set_option maxHeartbeats 400000 in
set_option maxRecDepth 100000 in
theorem law_big (k i : Int) (a : Option Addr) (nv cap : Nat) (w : World) (h : 65536 < nv) (hn : nv ≤ maxLen) :
    Calls Ybaf.prog 3 #[.int .u8 k, .slice a nv cap, .int .i64 i] w fun e w' => e = .returned (.bool true) ∧ w' = w := by
  unfold maxLen at hn
  have d : (65536 : Int) < (nv : Int) := by omega
  go_enter Ybaf.func3, Ybaf.ntmps3
  go_wp2
  go_ret
  exact ⟨rfl, rfl⟩

/-- The bounds, filled so far. -/
structure BD (w : World) (bb n j : Nat) (vs : List VV) (wr : World) : Prop where
  box : ∃ cs : Array Value, wr.heap[bb]? = some (.cells cs 29) ∧ cs.size = n * 3 ∧ ∀ t, t < j → cs[t * 3]? = some (.int .u8 (vs[t]!).1.1) ∧ cs[t * 3 + 1]? = some (.int .i64 (vs[t]!).1.2) ∧ cs[t * 3 + 2]? = some (.string (vs[t]!).2)
  bel : RowKit.Below w.heap.size w wr
  hb : w.heap.size ≤ bb

theorem BD.made {w wr w2 : World} {n : Nat} {vs : List VV} {xs : List Value} (b : RowKit.Below w.heap.size w wr) (o : w2.ownsRow wr.heap.size 29 3 (.slice (some ⟨wr.heap.size, 0, none⟩) n n) n xs) (g : wr.grownBy w2 none) : BD w wr.heap.size n 0 vs w2 := by
  rcases o.2 with ⟨e, _⟩ | ⟨g', cap, cur, e, _, hg, _, _, hs, _⟩
  · cases e
  · cases e
    exact ⟨⟨cur, hg, hs, fun t ht => by omega⟩, b.grown g b.size (fun k e => by cases e), b.size⟩
theorem BD.any {w : World} {bb n j : Nat} {vs : List VV} {wr : World} (h : BD w bb n j vs wr) {i : Nat} (hi : i < n * 3) : (∃ v, wr.cell? ⟨bb, i, none⟩ = some v) ∧ wr.frozen? ⟨bb, i, none⟩ = false := by
  obtain ⟨cs, hb, hs, hc⟩ := h.box
  refine ⟨⟨cs[i]'(by omega), ?_⟩, by simp [World.frozen?, hb]⟩
  simp [World.cell?, hb, hs, hi]
theorem BD.lt {w : World} {bb n j : Nat} {vs : List VV} {wr : World} (h : BD w bb n j vs wr) : bb < wr.heap.size := by
  obtain ⟨cs, hb, _⟩ := h.box
  exact (Array.getElem?_eq_some_iff.1 hb).1
theorem BD.vals {w : World} {bb n : Nat} {vs : List VV} {wr : World} (h : BD w bb n n vs wr) (hn : n ≤ vs.length) : ValsAt wr bb 0 (vs.take n) := by
  obtain ⟨cs, hb, hs, hc⟩ := h.box
  intro j hj
  have hj' : j < n := by rw [List.length_take] at hj; omega
  obtain ⟨h0, h1, h2⟩ := hc j hj'
  have e : (vs.take n)[j]! = vs[j]! := by
    rw [getElem!_pos (vs.take n) j hj, getElem!_pos vs j (by omega)]; simp
  rw [e]
  simp [World.cell?, hb, h0, h1, h2]
theorem BD.step {w : World} {bb n j : Nat} {vs : List VV} {wr : World} (h : BD w bb n j vs wr) (hj : j < n) {kd nn : Int} {s : ByteArray} (hv : vs[j]! = ((kd, nn), s)) :
    BD w bb n (j + 1) vs (((wr.setCell ⟨bb, j * 3, none⟩ (.int .u8 kd)).setCell ⟨bb, j * 3 + 1, none⟩ (.int .i64 nn)).setCell ⟨bb, j * 3 + 2, none⟩ (.string s)) := by
  obtain ⟨cs, hb, hs, hc⟩ := h.box
  refine ⟨⟨((cs.setIfInBounds (j * 3) (.int .u8 kd)).setIfInBounds (j * 3 + 1) (.int .i64 nn)).setIfInBounds (j * 3 + 2) (.string s), by simp [World.setCell, Array.getElem?_modify, hb], by simpa using hs, fun t ht => ?_⟩, ((h.bel.setCell h.hb _).setCell h.hb _).setCell h.hb _, h.hb⟩
  rcases Nat.lt_or_ge t j with e | e
  · obtain ⟨h0, h1, h2⟩ := hc t e
    refine ⟨?_, ?_, ?_⟩
    · rw [Array.getElem?_setIfInBounds_ne (by omega), Array.getElem?_setIfInBounds_ne (by omega), Array.getElem?_setIfInBounds_ne (by omega)]; exact h0
    · rw [Array.getElem?_setIfInBounds_ne (by omega), Array.getElem?_setIfInBounds_ne (by omega), Array.getElem?_setIfInBounds_ne (by omega)]; exact h1
    · rw [Array.getElem?_setIfInBounds_ne (by omega), Array.getElem?_setIfInBounds_ne (by omega), Array.getElem?_setIfInBounds_ne (by omega)]; exact h2
  · obtain rfl : t = j := by omega
    rw [hv]
    refine ⟨?_, ?_, ?_⟩
    · rw [Array.getElem?_setIfInBounds_ne (by omega), Array.getElem?_setIfInBounds_ne (by omega), Array.getElem?_setIfInBounds_self_of_lt (by omega)]
    · rw [Array.getElem?_setIfInBounds_ne (by omega), Array.getElem?_setIfInBounds_self_of_lt (by simp; omega)]
    · rw [Array.getElem?_setIfInBounds_self_of_lt (by simp; omega)]

theorem BD.drew {w : World} {bb n j : Nat} {vs : List VV} {wr : World} (h : BD w bb n j vs wr) : BD w bb n j vs wr.drew := ⟨h.box, h.bel.drew, h.hb⟩

def ArgAt (w : World) (a : Option Addr) (nv : Nat) (vs : List VV) : Prop := nv = 0 ∨ ∃ b o, a = some ⟨b, o, none⟩ ∧ b < w.heap.size ∧ ValsAt w b o vs

set_option maxHeartbeats 2000000 in
set_option maxRecDepth 100000 in
theorem law_any (k i : Int) (a : Option Addr) (nv cap : Nat) (vs : List VV) (w : World) (h : nv ≤ 65536) (hvl : vs.length = nv) (hA : ArgAt w a nv vs) (hS : ∀ v ∈ vs, v.2.size ≤ 140737488355327 ∧ (Lit.int .i64 v.1.2).wf = true) (k0 : 0 ≤ k) (htab : Tab w) :
    Calls Ybaf.prog 3 #[.int .u8 k, .slice a nv cap, .int .i64 i] w fun e w' => e = .returned (.bool true) ∧ RowKit.Below w.heap.size w w' := by
  have d : decide ((65536 : Int) < (nv : Int)) = false := decide_eq_false (by omega)
  have HA : Hid (ArgAt w a nv vs) := hA
  have HS : Hid (∀ v ∈ vs, v.2.size ≤ 140737488355327 ∧ (Lit.int .i64 v.1.2).wf = true) := hS
  have HT : Hid (∀ w', RowKit.Below w.heap.size w w' → Tab w') := Lib.tabBelow_of_tabIs htab
  have htl : Hid (∀ q, q ≤ nv → tot vs q ≤ q * 140737488355327) := fun q hq => tot_le vs _ (fun v hv => (hS v hv).1) q (by omega)
  clear hA hS htab
  obtain ⟨k5, hk5⟩ : ∃ k5 : Nat, (k % 5).toNat = k5 := ⟨_, rfl⟩
  have hk54 : k5 ≤ 4 := by omega
  have e5 : k.tmod 5 = (k5 : Int) := by rw [Int.tmod_eq_emod_of_nonneg k0]; omega
  have e5' : k % 5 = (k5 : Int) := by omega
  clear hk5
  go_enter Ybaf.func3, Ybaf.ntmps3
  go_wp2_with fail
  have R0 : Hid (0 = tot vs 0 ∧ RowKit.Below w.heap.size w w) := (⟨by simp [tot], RowKit.Below.refl _ _⟩ : 0 = tot vs 0 ∧ RowKit.Below w.heap.size w w)
  go_loopg [7, 25] nv (fun gg s7 s25 wr => ∃ (q t : Nat), s7 = .int .i64 t ∧ s25 = .int .i64 q ∧ q ≤ nv ∧ nv - q ≤ gg ∧ Hid (t = tot vs q ∧ RowKit.Below w.heap.size w wr))
  case atStart => exact ⟨0, 0, rfl, rfl, by omega, by omega, R0⟩
  case round =>
    obtain ⟨q, t, rfl, rfl, hq, hg, RR⟩ := hrel
    clear R0
    have htq := htl.out q hq
    rw [← RR.out.1] at htq
    have ht63 : t ≤ 65536 * 140737488355327 := Nat.le_trans htq (Nat.mul_le_mul_right _ (by omega))
    by_cases hlt : q < nv
    · have d1 : (q : Int) < (nv : Int) := by omega
      rcases HA.out with e | ⟨b, o, rfl, hb, hv⟩
      · omega
      obtain ⟨c0, c1, c2⟩ := (hv.below RR.out.2 hb) q (by omega)
      have hts := tot_succ vs q (by omega)
      have hok := HS.out (vs[q]!) (by rw [getElem!_pos vs q (by omega)]; exact List.getElem_mem _)
      obtain ⟨p, hp⟩ : ∃ p, vs[q]! = p := ⟨_, rfl⟩
      rw [hp] at c0 c1 c2 hts hok
      obtain ⟨⟨kd, nn⟩, s⟩ := p
      simp only at c0 c1 c2 hts hok
      obtain ⟨hok1, _⟩ := hok
      have ht2 := htl.out (q + 1) (by omega)
      rw [hts, ← RR.out.1] at ht2
      have ht64 : t + s.size ≤ 65536 * 140737488355327 := Nat.le_trans ht2 (Nat.mul_le_mul_right _ (by omega))
      have HTS : Hid (t + s.size = tot vs (q + 1)) := (by rw [hts, RR.out.1] : t + s.size = tot vs (q + 1))
      clear hp hts ht2 htq hv
      have hBw := RR.out.2.size
      go_wp2_with fail
      go_roundg (nv - (q + 1))
      case measure => omega
      case rel => exact ⟨q + 1, t + s.size, by go_num, by go_num, by omega, by omega, (⟨HTS.out, RR.out.2.alloc hBw _⟩ : t + s.size = tot vs (q + 1) ∧ RowKit.Below w.heap.size w _)⟩
    · have hqn : q = nv := by omega
      subst hqn
      have d1 : decide ((q : Int) < (q : Int)) = false := decide_eq_false (by omega)
      by_cases hbig : 1048576 < t
      · have d2 : (1048576 : Int) < (t : Int) := by omega
        go_wp2_with fail
        go_ret
        exact ⟨rfl, RR.out.2⟩
      · have d2 : decide ((1048576 : Int) < (t : Int)) = false := decide_eq_false (by omega)
        have OK : Hid (ValsOk vs) := fun v hv => by
          have h1 := le_tot vs hv
          rw [hvl, ← RR.out.1] at h1
          have h2 := bounds_i64 (HS.out v hv).2
          exact ⟨by omega, h2.1, h2.2⟩
        have HBL : Hid (RowKit.Below w.heap.size w wr) := RR.out.2
        clear RR htq ht63 htl
        by_cases hgt : q < k5
        · have d3 : (q : Int) < (k5 : Int) := by omega
          by_cases hz : q = 0
          · subst hz
            obtain ⟨i29, hi29, hz290, hz291, hz292⟩ := info29'
            go_wp2_with (at_make; refine wpList_make_full _ rfl (.tmp 61) (.tmp 61) 26 rfl wr.heap.size 29 i29 _ 3 Ybaf.underlying26 hi29 hz290 hz291 _ _ _ _ 0 rfl rfl rfl rfl (by simp) (by decide) (Nat.le_refl _) ?_; intro w2 ho2 hg2)
            have D0 : Hid (BD w wr.heap.size 0 0 vs w2) := BD.made HBL.out ho2 hg2
            obtain ⟨bb, hbb⟩ : ∃ bb, wr.heap.size = bb := ⟨_, rfl⟩
            rw [hbb] at D0 ⊢
            clear ho2 hg2 hbb HBL
            go_loopg [65] 1 (fun gg s65 wr => s65 = .int .i64 0 ∧ wr = w2)
            case atStart => exact ⟨rfl, rfl⟩
            case round =>
              obtain ⟨rfl, hwr⟩ := hrel
              have hwr' := hwr.symm
              subst hwr'
              clear hwr
              have VB : Hid (ValsAt w2 bb 0 []) := fun j hj => absurd hj (by simp)
              have HBL : Hid (RowKit.Below w.heap.size w w2) := D0.out.bel
              have hbl := D0.out.lt
              have hbw := D0.out.hb
              clear D0
              go_wp2_with fail
              refine (clone_at bb 0 0 [] w2 rfl (by omega) VB.out).mono ?_
              rintro e w3 ⟨v3, rfl, ho3, hn3, bl3⟩
              obtain ⟨sg, sc, hv3, hsg, VS3⟩ := own_vals (vs := []) ho3 hn3
              subst hv3
              obtain ⟨i95, hi95, hz950, hz951, hz952⟩ := info95
              go_wp2_with (at_make; refine wpList_make_full _ rfl (.tmp 90) (.tmp 90) 33 rfl w3.heap.size 95 i95 _ 3 Ybaf.underlying33 hi95 hz950 hz951 _ _ _ _ 0 rfl rfl rfl rfl (by simp) (by decide) (Nat.le_refl _) ?_; intro w4 ho4 hg4)
              have bl4 : RowKit.Below w3.heap.size w3 w4 := (RowKit.Below.refl _ _).grown hg4 (Nat.le_refl _) (fun k e => by cases e)
              obtain ⟨tb, htb⟩ : ∃ tb, w3.heap.size = tb := ⟨_, rfl⟩
              have s3 := bl3.size
              have s4 := bl4.size
              have B4 : Hid (RowKit.Below w.heap.size w w4) := (HBL.out.trans (bl3.mono (by omega))).trans (bl4.mono (by omega))
              rw [htb] at s4 hsg ⊢
              clear ho3 ho4 hg4 bl3 bl4 VS3 HBL VB hi95 hz950 hz951 hz952 hn3
              have B5 : Hid (RowKit.Below w.heap.size w (w4.alloc (Obj.cells #[.slice (some ⟨tb, 0, none⟩) 0 0, .slice (some ⟨bb, 0, none⟩) 0 0] 35))) := B4.out.alloc (by omega) _
              have X5 := heap_alloc_new w4 (Obj.cells #[.slice (some ⟨tb, 0, none⟩) 0 0, .slice (some ⟨bb, 0, none⟩) 0 0] 35)
              obtain ⟨pb, hpb⟩ : ∃ pb, w4.heap.size = pb := ⟨_, rfl⟩
              have hz5 : (w4.alloc (Obj.cells #[.slice (some ⟨tb, 0, none⟩) 0 0, .slice (some ⟨bb, 0, none⟩) 0 0] 35)).heap.size = pb + 1 := by rw [World.size_alloc, hpb]
              rw [hpb] at X5 ⊢
              have hww : w.heap.size ≤ pb + 1 := by omega
              generalize w4.alloc (Obj.cells #[.slice (some ⟨tb, 0, none⟩) 0 0, .slice (some ⟨bb, 0, none⟩) 0 0] 35) = W5 at B5 X5 hz5 ⊢
              have HX5 : Hid (W5.heap[pb]? = some (Obj.cells #[.slice (some ⟨tb, 0, none⟩) 0 0, .slice (some ⟨bb, 0, none⟩) 0 0] 35)) := X5
              clear B4 X5 hpb htb s3 s4 hsg hbl hbw
              have p0 : W5.cell? ⟨pb, 0, none⟩ = some (.slice (some ⟨tb, 0, none⟩) 0 0) := by simp [World.cell?, HX5.out]
              have p1 : W5.cell? ⟨pb, 1, none⟩ = some (.slice (some ⟨bb, 0, none⟩) 0 0) := by simp [World.cell?, HX5.out]
              refine (desc_zero pb 0 0 i _ _ W5 p0 p1 (by omega)).mono ?_
              rintro e W6 ⟨rfl, bl6⟩
              have B6 : Hid (RowKit.Below w.heap.size w W6) := B5.out.trans (bl6.mono (by omega))
              have HX6 : Hid (W6.heap[pb]? = some (Obj.cells #[.slice (some ⟨tb, 0, none⟩) 0 0, .slice (some ⟨bb, 0, none⟩) 0 0] 35)) := (bl6.block pb (by omega)).trans HX5.out
              clear B5 HX5 bl6 p0 p1 hz5
              go_wp2_with fail
              go_loopg [18, 19] 1 (fun gg s18 s19 wr => s18 = .slice none 0 0 ∧ s19 = .int .i64 0 ∧ wr = W6)
              case atStart => exact ⟨rfl, rfl, rfl⟩
              case round =>
                obtain ⟨rfl, rfl, hwr⟩ := hrel
                have hwr' := hwr.symm
                subst hwr'
                clear hwr
                have hcv := conv_any (B := W6.heap.size) (v := .slice none 0 0) (l := []) (w := W6) ⟨World.ownsRow_nil _ _ _ _, Nat.le_refl _⟩
                have p0 : ∀ q, (W6.drewN q).cell? ⟨pb, 0, none⟩ = some (.slice (some ⟨tb, 0, none⟩) 0 0) := fun _ => by show W6.cell? _ = _; simp [World.cell?, HX6.out]
                have p0' : W6.cell? ⟨pb, 0, none⟩ = some (.slice (some ⟨tb, 0, none⟩) 0 0) := p0 0
                have p1 : W6.cell? ⟨pb, 1, none⟩ = some (.slice (some ⟨bb, 0, none⟩) 0 0) := by simp [World.cell?, HX6.out]
                have VB7 : Hid (ValsAt W6 bb 0 []) := fun j hj => absurd hj (by simp)
                have VS7 : Hid (ValsAt W6 sg 0 []) := fun j hj => absurd hj (by simp)
                go_wp2_with fail
                refine (equal_at bb 0 sg sc 0 [] _ rfl VB7.out VS7.out (by omega)).mono ?_
                rintro e w8 ⟨rfl, q8, rfl⟩
                go_wp2_with fail
                go_ret
                exact ⟨rfl, ⟨B6.out.os, B6.out.tape, B6.out.output, B6.out.size, B6.out.block⟩⟩
          · have d4 : (0 : Int) < (q : Int) := by omega
            obtain ⟨i29, hi29, hz290, hz291, hz292⟩ := info29'
            have hb29 : i29.bytes * q ≤ 281474976710656 := by rw [hz292]; omega
            have hb2 : q ≤ maxLen := by unfold maxLen; omega
            have HIX : Hid (0 * q + q ≤ q) := (by omega : 0 * q + q ≤ q)
            go_wp2_with (at_make; refine wpList_make_full _ rfl (.tmp 61) (.tmp 61) 26 rfl wr.heap.size 29 i29 _ 3 Ybaf.underlying26 hi29 hz290 hz291 _ _ _ _ q rfl rfl rfl rfl hb29 hb2 (Nat.le_refl _) ?_; intro w2 ho2 hg2)
            have D0 : Hid (BD w wr.heap.size q 0 vs w2) := BD.made HBL.out ho2 hg2
            obtain ⟨bb, hbb⟩ : ∃ bb, wr.heap.size = bb := ⟨_, rfl⟩
            rw [hbb] at D0 ⊢
            clear ho2 hg2 hbb HBL hb29 hb2
            go_loopg [65] q (fun gg s65 wr => ∃ (j : Nat), s65 = .int .i64 j ∧ j ≤ q ∧ q - j ≤ gg ∧ Hid (BD w bb q j vs wr))
            case atStart => exact ⟨0, rfl, Nat.zero_le _, Nat.le_refl _, D0⟩
            case round =>
              obtain ⟨j, rfl, hj, hgj, DD⟩ := hrel
              clear D0
              by_cases hjn : j < q
              · have d5 : (j : Int) < (q : Int) := by omega
                have d6 : (j : Int) < (q : Int) := by omega
                rcases HA.out with e | ⟨b, o, rfl, hb, hv⟩
                · omega
                obtain ⟨c0, c1, c2⟩ := (hv.below DD.out.bel hb) j (by omega)
                obtain ⟨⟨x0, z0⟩, f0⟩ := DD.out.any (i := j * 3) (by omega)
                obtain ⟨⟨x1, z1⟩, f1⟩ := DD.out.any (i := j * 3 + 1) (by omega)
                obtain ⟨⟨x2, z2⟩, f2⟩ := DD.out.any (i := j * 3 + 2) (by omega)
                obtain ⟨p, hp⟩ : ∃ p, vs[j]! = p := ⟨_, rfl⟩
                rw [hp] at c0 c1 c2
                obtain ⟨⟨kd, nn⟩, s⟩ := p
                simp only at c0 c1 c2
                have DS : Hid (BD w bb q (j + 1) vs (((wr.setCell ⟨bb, j * 3, none⟩ (.int .u8 kd)).setCell ⟨bb, j * 3 + 1, none⟩ (.int .i64 nn)).setCell ⟨bb, j * 3 + 2, none⟩ (.string s))) := DD.out.step hjn hp
                clear hv hp
                go_wp2_with fail
                go_region
                go_wp2_with fail
                go_roundg (q - (j + 1))
                case measure => omega
                case rel => exact ⟨j + 1, by go_num, by omega, by omega, DS.out.drew⟩
              · have hjn' : j = q := by omega
                have hjn2 := hjn'.symm
                subst hjn2
                have d5 : decide ((q : Int) < (q : Int)) = false := decide_eq_false (by omega)
                have VB : Hid (ValsAt wr bb 0 (vs.take q)) := DD.out.vals (by omega)
                have hln : (vs.take q).length = q := by rw [List.length_take]; omega
                have HBL : Hid (RowKit.Below w.heap.size w wr) := DD.out.bel
                have hbl := DD.out.lt
                have hbw := DD.out.hb
                clear DD
                go_wp2_with fail
                refine (clone_at bb q q (vs.take q) wr hln (by omega) VB.out).mono ?_
                rintro e w3 ⟨v3, rfl, ho3, hn3, bl3⟩
                obtain ⟨sg, sc, hv3, hsg, VS3⟩ := own_vals ho3 hn3
                subst hv3
                obtain ⟨i95, hi95, hz950, hz951, hz952⟩ := info95
                have hb95 : i95.bytes * q ≤ 281474976710656 := by rw [hz952]; omega
                have hm95 : q ≤ maxLen := by unfold maxLen; omega
                go_wp2_with (at_make; refine wpList_make_full _ rfl (.tmp 90) (.tmp 90) 33 rfl w3.heap.size 95 i95 _ 3 Ybaf.underlying33 hi95 hz950 hz951 _ _ _ _ q rfl rfl rfl rfl hb95 hm95 (Nat.le_refl _) ?_; intro w4 ho4 hg4)
                have bl4 : RowKit.Below w3.heap.size w3 w4 := (RowKit.Below.refl _ _).grown hg4 (Nat.le_refl _) (fun k e => by cases e)
                obtain ⟨tb, htb⟩ : ∃ tb, w3.heap.size = tb := ⟨_, rfl⟩
                have s3 := bl3.size
                have s4 := bl4.size
                have V4 : Hid (ValsAt w4 bb 0 (vs.take q)) := (VB.out.below bl3 hbl).below bl4 (by omega)
                have VS4 : Hid (ValsAt w4 sg 0 (vs.take q)) := VS3.below bl4 hsg
                have B4 : Hid (RowKit.Below w.heap.size w w4) := (HBL.out.trans (bl3.mono (by omega))).trans (bl4.mono (by omega))
                rw [htb] at s4 hsg ⊢
                clear ho3 ho4 hg4 bl3 bl4 VS3 HBL VB hb95 hm95 hi95 hz950 hz951 hz952 hn3
                have V5 : Hid (ValsAt (w4.alloc (Obj.cells #[.slice (some ⟨tb, 0, none⟩) q q, .slice (some ⟨bb, 0, none⟩) q q] 35)) bb 0 (vs.take q)) := V4.out.below ((RowKit.Below.refl w4.heap.size _).alloc (Nat.le_refl _) _) (by omega)
                have VS5 : Hid (ValsAt (w4.alloc (Obj.cells #[.slice (some ⟨tb, 0, none⟩) q q, .slice (some ⟨bb, 0, none⟩) q q] 35)) sg 0 (vs.take q)) := VS4.out.below ((RowKit.Below.refl w4.heap.size _).alloc (Nat.le_refl _) _) (by omega)
                have B5 : Hid (RowKit.Below w.heap.size w (w4.alloc (Obj.cells #[.slice (some ⟨tb, 0, none⟩) q q, .slice (some ⟨bb, 0, none⟩) q q] 35))) := B4.out.alloc (by omega) _
                have X5 := heap_alloc_new w4 (Obj.cells #[.slice (some ⟨tb, 0, none⟩) q q, .slice (some ⟨bb, 0, none⟩) q q] 35)
                obtain ⟨pb, hpb⟩ : ∃ pb, w4.heap.size = pb := ⟨_, rfl⟩
                have hz5 : (w4.alloc (Obj.cells #[.slice (some ⟨tb, 0, none⟩) q q, .slice (some ⟨bb, 0, none⟩) q q] 35)).heap.size = pb + 1 := by rw [World.size_alloc, hpb]
                rw [hpb] at X5 ⊢
                have hbb5 : bb < pb + 1 := by omega
                have hsg5 : sg < pb + 1 := by omega
                have hww : w.heap.size ≤ pb + 1 := by omega
                generalize w4.alloc (Obj.cells #[.slice (some ⟨tb, 0, none⟩) q q, .slice (some ⟨bb, 0, none⟩) q q] 35) = W5 at V5 VS5 B5 X5 hz5 ⊢
                have HX5 : Hid (W5.heap[pb]? = some (Obj.cells #[.slice (some ⟨tb, 0, none⟩) q q, .slice (some ⟨bb, 0, none⟩) q q] 35)) := X5
                clear V4 VS4 B4 X5 hpb htb s3 s4 hsg hbl hbw
                have p0 : W5.cell? ⟨pb, 0, none⟩ = some (.slice (some ⟨tb, 0, none⟩) q q) := by simp [World.cell?, HX5.out]
                have p1 : W5.cell? ⟨pb, 1, none⟩ = some (.slice (some ⟨bb, 0, none⟩) q q) := by simp [World.cell?, HX5.out]
                have VG := V5.out.grp hln HIX.out
                have hgl := grp_len hln HIX.out
                have OKG : Hid (ValsOk (grp (vs.take q) 0 q)) := grp_ok (take_ok OK.out q) 0 q
                refine (desc_any pb q q q q 0 bb _ (grp (vs.take q) 0 q) W5 p0 p1 (by omega) (by omega) HIX.out (by omega) (Nat.le_refl _) VG hgl OKG.out (by omega) (by omega) (fun w' h' => HT.out w' (B5.out.trans (h'.mono (by omega))))).mono ?_
                rintro e W6 ⟨rfl, bl6⟩
                have V6 : Hid (ValsAt W6 bb 0 (vs.take q)) := V5.out.below bl6 (by omega)
                have VS6 : Hid (ValsAt W6 sg 0 (vs.take q)) := VS5.out.below bl6 (by omega)
                have B6 : Hid (RowKit.Below w.heap.size w W6) := B5.out.trans (bl6.mono (by omega))
                have HX6 : Hid (W6.heap[pb]? = some (Obj.cells #[.slice (some ⟨tb, 0, none⟩) q q, .slice (some ⟨bb, 0, none⟩) q q] 35)) := (bl6.block pb (by omega)).trans HX5.out
                have s6 := bl6.size
                rw [hz5] at s6
                clear V5 VS5 B5 HX5 bl6 p0 p1 VG hz5
                have hwrapm : ∀ m : Nat, m < q → 0 * q + m ≤ 65536 := fun m hm => by have := HIX.out; omega
                have HWM : Hid (∀ m : Nat, m < q → 0 * q + m ≤ 65536) := hwrapm
                have hik : 0 * q ≤ 65536 := by have := HIX.out; omega
                clear hwrapm
                obtain ⟨i5, hi5, hz50, hz51, hz52⟩ := info_parts info5
                go_wp2_with fail
                have Q0 : Hid (BR W6.heap.size (.slice none 0 0) (joinL (grp (vs.take q) 0 q) 0) W6 ∧ RowKit.Below W6.heap.size W6 W6) := (⟨⟨World.ownsRow_nil _ _ _ _, Nat.le_refl _⟩, RowKit.Below.refl _ _⟩ : BR W6.heap.size (.slice none 0 0) (joinL (grp (vs.take q) 0 q) 0) W6 ∧ RowKit.Below W6.heap.size W6 W6)
                go_loopg [18, 19] q (fun gg s18 s19 wr => ∃ (m : Nat), s19 = .int .i64 m ∧ m ≤ q ∧ q - m ≤ gg ∧ Hid (BR W6.heap.size s18 (joinL (grp (vs.take q) 0 q) m) wr ∧ RowKit.Below W6.heap.size W6 wr))
                case atStart => exact ⟨0, rfl, by omega, by omega, Q0⟩
                case round =>
                  obtain ⟨m, rfl, hm, hgm, QQ⟩ := hrel
                  clear Q0
                  have hjl := joinL_len (grp (vs.take q) 0 q) OKG.out m (by omega)
                  obtain ⟨va, vc, hva⟩ := shape QQ.out.1.own
                  obtain ⟨ln, hln2⟩ : ∃ ln, (joinL (grp (vs.take q) 0 q) m).length = ln := ⟨_, rfl⟩
                  rw [hln2] at hva hjl
                  have rk := QQ.out.1.own
                  rw [hln2] at rk
                  subst hva
                  by_cases hmk : m < q
                  · have d8 : (m : Int) < (q : Int) := by omega
                    have hwm := HWM.out m hmk
                    obtain ⟨c0, c1, c2⟩ := (VS6.out.below QQ.out.2 (by omega)) (0 * q + m) (by rw [hln]; have := HIX.out; omega)
                    have hgg := grp_get hln HIX.out hmk
                    have hok := OKG.out.at (j := m) (by omega)
                    have hjs : joinL (grp (vs.take q) 0 q) (m + 1) = joinL (grp (vs.take q) 0 q) m ++ ((if 0 < m then [44] else []) ++ oneL (grp (vs.take q) 0 q)[m]!) := rfl
                    obtain ⟨p, hp⟩ : ∃ p, (vs.take q)[0 * q + m]! = p := ⟨_, rfl⟩
                    rw [hp] at c0 c1 c2 hgg
                    rw [hgg] at hok hjs
                    obtain ⟨⟨kd, nn⟩, s⟩ := p
                    simp only at c0 c1 c2 hok
                    rw [Nat.zero_add] at c0 c1 c2
                    simp only [Nat.zero_mul, Nat.zero_add] at c0 c1 c2
                    have HJ : Hid (joinL (grp (vs.take q) 0 q) (m + 1) = joinL (grp (vs.take q) 0 q) m ++ ((if 0 < m then [44] else []) ++ oneL ((kd, nn), s))) := hjs
                    obtain ⟨o1, o2, o3⟩ := hok
                    clear hp hgg hjs
                    have hcb : 0 * q + m < q := by have := HIX.out; omega
                    by_cases hm0 : m = 0
                    · have d9 : decide (0 < m) = false := decide_eq_false (by omega)
                      have HJ5 : Hid (joinL (grp (vs.take q) 0 q) (m + 1) = joinL (grp (vs.take q) 0 q) m ++ oneL ((kd, nn), s)) := by have := HJ.out; rw [if_neg (by omega)] at this; exact this
                      clear hm0
                      go_wp2_with fail
                      refine (one_any W6.heap.size _ _ kd nn s _ QQ.out.1 o1 (by rw [hln2]; omega) o2 o3).mono ?_
                      rintro e w7 ⟨v7, rfl, R7, bl7⟩
                      have Q7 : Hid (BR W6.heap.size v7 (joinL (grp (vs.take q) 0 q) (m + 1)) w7 ∧ RowKit.Below W6.heap.size W6 w7) := by
                        refine (⟨?_, QQ.out.2.trans bl7⟩ : BR W6.heap.size v7 (joinL (grp (vs.take q) 0 q) (m + 1)) w7 ∧ RowKit.Below W6.heap.size W6 w7)
                        rw [HJ5.out]; exact R7
                      clear R7 bl7
                      go_wp2_with fail
                      go_roundg (q - (m + 1))
                      case measure => omega
                      case rel => exact ⟨m + 1, by go_num, by omega, by omega, Q7⟩
                    · have d9 : 0 < m := by omega
                      have HJ5 : Hid (joinL (grp (vs.take q) 0 q) (m + 1) = (joinL (grp (vs.take q) 0 q) m ++ [44]) ++ oneL ((kd, nn), s)) := by have := HJ.out; rw [if_pos (by omega), ← List.append_assoc] at this; exact this
                      have hBr := QQ.out.1.hB
                      go_wp2_with (at_builtin; refine wpList_append_lies _ rfl (.tmp 105) (.tmp 106) 37 rfl W6.heap.size 5 i5 _ 1 1 Ybaf.underlying37 hi5 hz50 hz51 hz52 rfl (by decide) (.slice va ln vc) ln _ rfl (rk.alloc _) ⟨wr.heap.size, 0, none⟩ 1 1 [.int .u8 44] rfl rfl (news1 _ _ _) (one_bytes [44]) (by decide) (by unfold maxLen; omega) (by omega) (by rw [World.size_alloc]; omega) (wr.heap.size + 1) (by rw [World.size_alloc]) ?_; intro g2 cp2 wz o4 y4 z4 l4; have AA := BR.app (m := [44]) QQ.out.1 hln2 ((RowKit.Below.refl _ _).alloc QQ.out.1.hB _) o4 y4; have HAA : Hid (BR W6.heap.size (.slice (some ⟨g2, 0, none⟩) (ln + 1) cp2) (joinL (grp (vs.take q) 0 q) m ++ [44]) wz ∧ RowKit.Below W6.heap.size wr wz) := AA; have e0 := (AA.2.cell (p := ⟨sg, m * 3, none⟩) (by show sg < _; omega)).trans c0; have e1 := (AA.2.cell (p := ⟨sg, m * 3 + 1, none⟩) (by show sg < _; omega)).trans c1; have e2 := (AA.2.cell (p := ⟨sg, m * 3 + 2, none⟩) (by show sg < _; omega)).trans c2; clear AA o4 y4 z4 l4 c0 c1 c2 rk)
                      refine (one_any W6.heap.size _ _ kd nn s _ HAA.out.1 o1 (by rw [List.length_append, hln2]; simp; omega) o2 o3).mono ?_
                      rintro e w7 ⟨v7, rfl, R7, bl7⟩
                      have Q7 : Hid (BR W6.heap.size v7 (joinL (grp (vs.take q) 0 q) (m + 1)) w7 ∧ RowKit.Below W6.heap.size W6 w7) := by
                        refine (⟨?_, (QQ.out.2.trans HAA.out.2).trans bl7⟩ : BR W6.heap.size v7 (joinL (grp (vs.take q) 0 q) (m + 1)) w7 ∧ RowKit.Below W6.heap.size W6 w7)
                        rw [HJ5.out]; exact R7
                      clear R7 bl7
                      go_wp2_with fail
                      go_roundg (q - (m + 1))
                      case measure => omega
                      case rel => exact ⟨m + 1, by go_num, by omega, by omega, Q7⟩
                  · have hmk' : m = q := by omega
                    have hmk2 := hmk'.symm
                    subst hmk2
                    have d8 : decide ((q : Int) < (q : Int)) = false := decide_eq_false (by omega)
                    have hcv := conv_any QQ.out.1
                    have hxx := (QQ.out.2.block pb (by omega)).trans HX6.out
                    have HX7 : Hid (wr.heap[pb]? = some (Obj.cells #[.slice (some ⟨tb, 0, none⟩) q q, .slice (some ⟨bb, 0, none⟩) q q] 35)) := hxx
                    have VB7 : Hid (ValsAt wr bb 0 (vs.take q)) := V6.out.below QQ.out.2 (by omega)
                    have VS7 : Hid (ValsAt wr sg 0 (vs.take q)) := VS6.out.below QQ.out.2 (by omega)
                    have B7 : Hid (RowKit.Below w.heap.size w wr) := B6.out.trans (QQ.out.2.mono (by omega))
                    have p0 : ∀ dq, (wr.drewN dq).cell? ⟨pb, 0, none⟩ = some (.slice (some ⟨tb, 0, none⟩) q q) := fun _ => by show wr.cell? _ = _; simp [World.cell?, HX7.out]
                    have p0' : wr.cell? ⟨pb, 0, none⟩ = some (.slice (some ⟨tb, 0, none⟩) q q) := p0 0
                    have p1 : wr.cell? ⟨pb, 1, none⟩ = some (.slice (some ⟨bb, 0, none⟩) q q) := by simp [World.cell?, HX7.out]
                    clear QQ hxx rk hjl V6 VS6 B6 HX6
                    go_wp2_with fail
                    refine (equal_at bb q sg sc q (vs.take q) _ hln VB7.out VS7.out (by omega)).mono ?_
                    rintro e w8 ⟨rfl, q8, rfl⟩
                    go_wp2_with fail
                    go_ret
                    exact ⟨rfl, ⟨B7.out.os, B7.out.tape, B7.out.output, B7.out.size, B7.out.block⟩⟩
        · have d3 : decide ((q : Int) < (k5 : Int)) = false := decide_eq_false (by omega)
          by_cases hz : k5 = 0
          · subst hz
            obtain ⟨i29, hi29, hz290, hz291, hz292⟩ := info29'
            go_wp2_with (at_make; refine wpList_make_full _ rfl (.tmp 61) (.tmp 61) 26 rfl wr.heap.size 29 i29 _ 3 Ybaf.underlying26 hi29 hz290 hz291 _ _ _ _ 0 rfl rfl rfl rfl (by simp) (by decide) (Nat.le_refl _) ?_; intro w2 ho2 hg2)
            have D0 : Hid (BD w wr.heap.size 0 0 vs w2) := BD.made HBL.out ho2 hg2
            obtain ⟨bb, hbb⟩ : ∃ bb, wr.heap.size = bb := ⟨_, rfl⟩
            rw [hbb] at D0 ⊢
            clear ho2 hg2 hbb HBL
            go_loopg [65] 1 (fun gg s65 wr => s65 = .int .i64 0 ∧ wr = w2)
            case atStart => exact ⟨rfl, rfl⟩
            case round =>
              obtain ⟨rfl, hwr⟩ := hrel
              have hwr' := hwr.symm
              subst hwr'
              clear hwr
              have VB : Hid (ValsAt w2 bb 0 []) := fun j hj => absurd hj (by simp)
              have HBL : Hid (RowKit.Below w.heap.size w w2) := D0.out.bel
              have hbl := D0.out.lt
              have hbw := D0.out.hb
              clear D0
              go_wp2_with fail
              refine (clone_at bb 0 0 [] w2 rfl (by omega) VB.out).mono ?_
              rintro e w3 ⟨v3, rfl, ho3, hn3, bl3⟩
              obtain ⟨sg, sc, hv3, hsg, VS3⟩ := own_vals (vs := []) ho3 hn3
              subst hv3
              obtain ⟨i95, hi95, hz950, hz951, hz952⟩ := info95
              go_wp2_with (at_make; refine wpList_make_full _ rfl (.tmp 90) (.tmp 90) 33 rfl w3.heap.size 95 i95 _ 3 Ybaf.underlying33 hi95 hz950 hz951 _ _ _ _ 0 rfl rfl rfl rfl (by simp) (by decide) (Nat.le_refl _) ?_; intro w4 ho4 hg4)
              have bl4 : RowKit.Below w3.heap.size w3 w4 := (RowKit.Below.refl _ _).grown hg4 (Nat.le_refl _) (fun k e => by cases e)
              obtain ⟨tb, htb⟩ : ∃ tb, w3.heap.size = tb := ⟨_, rfl⟩
              have s3 := bl3.size
              have s4 := bl4.size
              have B4 : Hid (RowKit.Below w.heap.size w w4) := (HBL.out.trans (bl3.mono (by omega))).trans (bl4.mono (by omega))
              rw [htb] at s4 hsg ⊢
              clear ho3 ho4 hg4 bl3 bl4 VS3 HBL VB hi95 hz950 hz951 hz952 hn3
              have B5 : Hid (RowKit.Below w.heap.size w (w4.alloc (Obj.cells #[.slice (some ⟨tb, 0, none⟩) 0 0, .slice (some ⟨bb, 0, none⟩) 0 0] 35))) := B4.out.alloc (by omega) _
              have X5 := heap_alloc_new w4 (Obj.cells #[.slice (some ⟨tb, 0, none⟩) 0 0, .slice (some ⟨bb, 0, none⟩) 0 0] 35)
              obtain ⟨pb, hpb⟩ : ∃ pb, w4.heap.size = pb := ⟨_, rfl⟩
              have hz5 : (w4.alloc (Obj.cells #[.slice (some ⟨tb, 0, none⟩) 0 0, .slice (some ⟨bb, 0, none⟩) 0 0] 35)).heap.size = pb + 1 := by rw [World.size_alloc, hpb]
              rw [hpb] at X5 ⊢
              have hww : w.heap.size ≤ pb + 1 := by omega
              generalize w4.alloc (Obj.cells #[.slice (some ⟨tb, 0, none⟩) 0 0, .slice (some ⟨bb, 0, none⟩) 0 0] 35) = W5 at B5 X5 hz5 ⊢
              have HX5 : Hid (W5.heap[pb]? = some (Obj.cells #[.slice (some ⟨tb, 0, none⟩) 0 0, .slice (some ⟨bb, 0, none⟩) 0 0] 35)) := X5
              clear B4 X5 hpb htb s3 s4 hsg hbl hbw
              have p0 : W5.cell? ⟨pb, 0, none⟩ = some (.slice (some ⟨tb, 0, none⟩) 0 0) := by simp [World.cell?, HX5.out]
              have p1 : W5.cell? ⟨pb, 1, none⟩ = some (.slice (some ⟨bb, 0, none⟩) 0 0) := by simp [World.cell?, HX5.out]
              refine (desc_zero pb 0 0 i _ _ W5 p0 p1 (by omega)).mono ?_
              rintro e W6 ⟨rfl, bl6⟩
              have B6 : Hid (RowKit.Below w.heap.size w W6) := B5.out.trans (bl6.mono (by omega))
              have HX6 : Hid (W6.heap[pb]? = some (Obj.cells #[.slice (some ⟨tb, 0, none⟩) 0 0, .slice (some ⟨bb, 0, none⟩) 0 0] 35)) := (bl6.block pb (by omega)).trans HX5.out
              clear B5 HX5 bl6 p0 p1 hz5
              go_wp2_with fail
              go_loopg [18, 19] 1 (fun gg s18 s19 wr => s18 = .slice none 0 0 ∧ s19 = .int .i64 0 ∧ wr = W6)
              case atStart => exact ⟨rfl, rfl, rfl⟩
              case round =>
                obtain ⟨rfl, rfl, hwr⟩ := hrel
                have hwr' := hwr.symm
                subst hwr'
                clear hwr
                have hcv := conv_any (B := W6.heap.size) (v := .slice none 0 0) (l := []) (w := W6) ⟨World.ownsRow_nil _ _ _ _, Nat.le_refl _⟩
                have p0 : ∀ q, (W6.drewN q).cell? ⟨pb, 0, none⟩ = some (.slice (some ⟨tb, 0, none⟩) 0 0) := fun _ => by show W6.cell? _ = _; simp [World.cell?, HX6.out]
                have p0' : W6.cell? ⟨pb, 0, none⟩ = some (.slice (some ⟨tb, 0, none⟩) 0 0) := p0 0
                have p1 : W6.cell? ⟨pb, 1, none⟩ = some (.slice (some ⟨bb, 0, none⟩) 0 0) := by simp [World.cell?, HX6.out]
                have VB7 : Hid (ValsAt W6 bb 0 []) := fun j hj => absurd hj (by simp)
                have VS7 : Hid (ValsAt W6 sg 0 []) := fun j hj => absurd hj (by simp)
                go_wp2_with fail
                refine (equal_at bb 0 sg sc 0 [] _ rfl VB7.out VS7.out (by omega)).mono ?_
                rintro e w8 ⟨rfl, q8, rfl⟩
                go_wp2_with fail
                go_ret
                exact ⟨rfl, ⟨B6.out.os, B6.out.tape, B6.out.output, B6.out.size, B6.out.block⟩⟩
          · have d4 : (0 : Int) < (k5 : Int) := by omega
            obtain ⟨np, n, ix, e6, e7, hnp1, hnp2, hn, hnq, hixn, hixk, ew, eu, ei, em, hnp3, hb1, hb2⟩ := counts q k5 i h (Nat.pos_of_ne_zero hz) (Nat.le_of_not_lt hgt) hk54
            have HN : Hid (np * k5 = n) := hn
            have HIX : Hid (ix * k5 + k5 ≤ n) := hixk
            have HB1 : Hid (1 ≤ np ∧ np ≤ 65536 ∧ n ≤ q ∧ ix < np ∧ 32 * n ≤ 281474976710656 ∧ n ≤ maxLen) := ⟨hnp1, hnp2, hnq, hixn, hb1, hb2⟩
            have HEI : Hid (wrap64 ((IntKind.u64.wrap i).tmod (np : Int)) = (ix : Int)) := ei
            have HEM : Hid (wrap64 ((np : Int) * (k5 : Int)) = (n : Int)) := em
            clear hnq hixn hn hixk hb1 hb2 ew eu ei em
            obtain ⟨i29, hi29, hz290, hz291, hz292⟩ := info29'
            have hb29 : i29.bytes * n ≤ 281474976710656 := by rw [hz292]; exact HB1.out.2.2.2.2.1
            go_wp2_with (at_make; refine wpList_make_full _ rfl (.tmp 61) (.tmp 61) 26 rfl wr.heap.size 29 i29 _ 3 Ybaf.underlying26 hi29 hz290 hz291 _ _ _ _ n rfl rfl HEM.out HEM.out hb29 HB1.out.2.2.2.2.2 (Nat.le_refl _) ?_; intro w2 ho2 hg2)
            rw [HEI.out]
            obtain ⟨hnp1', hnp2', hnq, hixn, hb1, hb2⟩ := HB1.out
            have D0 : Hid (BD w wr.heap.size n 0 vs w2) := BD.made HBL.out ho2 hg2
            obtain ⟨bb, hbb⟩ : ∃ bb, wr.heap.size = bb := ⟨_, rfl⟩
            rw [hbb] at D0 ⊢
            clear ho2 hg2 hbb HBL hb29 HB1 hb1 hb2
            go_loopg [65] n (fun gg s65 wr => ∃ (j : Nat), s65 = .int .i64 j ∧ j ≤ n ∧ n - j ≤ gg ∧ Hid (BD w bb n j vs wr))
            case atStart => exact ⟨0, rfl, Nat.zero_le _, Nat.le_refl _, D0⟩
            case round =>
              obtain ⟨j, rfl, hj, hgj, DD⟩ := hrel
              clear D0
              by_cases hjn : j < n
              · have d5 : (j : Int) < (n : Int) := by omega
                have d6 : (j : Int) < (q : Int) := by omega
                rcases HA.out with e | ⟨b, o, rfl, hb, hv⟩
                · omega
                obtain ⟨c0, c1, c2⟩ := (hv.below DD.out.bel hb) j (by omega)
                obtain ⟨⟨x0, z0⟩, f0⟩ := DD.out.any (i := j * 3) (by omega)
                obtain ⟨⟨x1, z1⟩, f1⟩ := DD.out.any (i := j * 3 + 1) (by omega)
                obtain ⟨⟨x2, z2⟩, f2⟩ := DD.out.any (i := j * 3 + 2) (by omega)
                obtain ⟨p, hp⟩ : ∃ p, vs[j]! = p := ⟨_, rfl⟩
                rw [hp] at c0 c1 c2
                obtain ⟨⟨kd, nn⟩, s⟩ := p
                simp only at c0 c1 c2
                have DS : Hid (BD w bb n (j + 1) vs (((wr.setCell ⟨bb, j * 3, none⟩ (.int .u8 kd)).setCell ⟨bb, j * 3 + 1, none⟩ (.int .i64 nn)).setCell ⟨bb, j * 3 + 2, none⟩ (.string s))) := DD.out.step hjn hp
                clear hv hp
                go_wp2_with fail
                go_region
                go_wp2_with fail
                go_roundg (n - (j + 1))
                case measure => omega
                case rel => exact ⟨j + 1, by go_num, by omega, by omega, DS.out.drew⟩
              · have hjn' : j = n := by omega
                subst hjn'
                have d5 : decide ((j : Int) < (j : Int)) = false := decide_eq_false (by omega)
                have VB : Hid (ValsAt wr bb 0 (vs.take j)) := DD.out.vals (by omega)
                have hln : (vs.take j).length = j := by rw [List.length_take]; omega
                have HBL : Hid (RowKit.Below w.heap.size w wr) := DD.out.bel
                have hbl := DD.out.lt
                have hbw := DD.out.hb
                clear DD
                go_wp2_with fail
                refine (clone_at bb j j (vs.take j) wr hln (by omega) VB.out).mono ?_
                rintro e w3 ⟨v3, rfl, ho3, hn3, bl3⟩
                obtain ⟨sg, sc, hv3, hsg, VS3⟩ := own_vals ho3 hn3
                subst hv3
                obtain ⟨i95, hi95, hz950, hz951, hz952⟩ := info95
                have hb95 : i95.bytes * k5 ≤ 281474976710656 := by rw [hz952]; omega
                have hm95 : k5 ≤ maxLen := by unfold maxLen; omega
                go_wp2_with (at_make; refine wpList_make_full _ rfl (.tmp 90) (.tmp 90) 33 rfl w3.heap.size 95 i95 _ 3 Ybaf.underlying33 hi95 hz950 hz951 _ _ _ _ k5 rfl rfl rfl rfl hb95 hm95 (Nat.le_refl _) ?_; intro w4 ho4 hg4)
                have bl4 : RowKit.Below w3.heap.size w3 w4 := (RowKit.Below.refl _ _).grown hg4 (Nat.le_refl _) (fun k e => by cases e)
                obtain ⟨tb, htb⟩ : ∃ tb, w3.heap.size = tb := ⟨_, rfl⟩
                have s3 := bl3.size
                have s4 := bl4.size
                have V4 : Hid (ValsAt w4 bb 0 (vs.take j)) := (VB.out.below bl3 hbl).below bl4 (by omega)
                have VS4 : Hid (ValsAt w4 sg 0 (vs.take j)) := VS3.below bl4 hsg
                have B4 : Hid (RowKit.Below w.heap.size w w4) := (HBL.out.trans (bl3.mono (by omega))).trans (bl4.mono (by omega))
                rw [htb] at s4 hsg ⊢
                clear ho3 ho4 hg4 bl3 bl4 VS3 HBL VB hb95 hm95 hi95 hz950 hz951 hz952 hn3
                have V5 : Hid (ValsAt (w4.alloc (Obj.cells #[.slice (some ⟨tb, 0, none⟩) k5 k5, .slice (some ⟨bb, 0, none⟩) j j] 35)) bb 0 (vs.take j)) := V4.out.below ((RowKit.Below.refl w4.heap.size _).alloc (Nat.le_refl _) _) (by omega)
                have VS5 : Hid (ValsAt (w4.alloc (Obj.cells #[.slice (some ⟨tb, 0, none⟩) k5 k5, .slice (some ⟨bb, 0, none⟩) j j] 35)) sg 0 (vs.take j)) := VS4.out.below ((RowKit.Below.refl w4.heap.size _).alloc (Nat.le_refl _) _) (by omega)
                have B5 : Hid (RowKit.Below w.heap.size w (w4.alloc (Obj.cells #[.slice (some ⟨tb, 0, none⟩) k5 k5, .slice (some ⟨bb, 0, none⟩) j j] 35))) := B4.out.alloc (by omega) _
                have X5 := heap_alloc_new w4 (Obj.cells #[.slice (some ⟨tb, 0, none⟩) k5 k5, .slice (some ⟨bb, 0, none⟩) j j] 35)
                obtain ⟨pb, hpb⟩ : ∃ pb, w4.heap.size = pb := ⟨_, rfl⟩
                have hz5 : (w4.alloc (Obj.cells #[.slice (some ⟨tb, 0, none⟩) k5 k5, .slice (some ⟨bb, 0, none⟩) j j] 35)).heap.size = pb + 1 := by rw [World.size_alloc, hpb]
                rw [hpb] at X5 ⊢
                have hbb5 : bb < pb + 1 := by omega
                have hsg5 : sg < pb + 1 := by omega
                have hww : w.heap.size ≤ pb + 1 := by omega
                generalize w4.alloc (Obj.cells #[.slice (some ⟨tb, 0, none⟩) k5 k5, .slice (some ⟨bb, 0, none⟩) j j] 35) = W5 at V5 VS5 B5 X5 hz5 ⊢
                have HX5 : Hid (W5.heap[pb]? = some (Obj.cells #[.slice (some ⟨tb, 0, none⟩) k5 k5, .slice (some ⟨bb, 0, none⟩) j j] 35)) := X5
                clear V4 VS4 B4 X5 hpb htb s3 s4 hsg hbl hbw
                have p0 : W5.cell? ⟨pb, 0, none⟩ = some (.slice (some ⟨tb, 0, none⟩) k5 k5) := by simp [World.cell?, HX5.out]
                have p1 : W5.cell? ⟨pb, 1, none⟩ = some (.slice (some ⟨bb, 0, none⟩) j j) := by simp [World.cell?, HX5.out]
                have VG := V5.out.grp hln HIX.out
                have hgl := grp_len hln HIX.out
                have OKG : Hid (ValsOk (grp (vs.take j) ix k5)) := grp_ok (take_ok OK.out j) ix k5
                refine (desc_any pb k5 k5 j j ix bb _ (grp (vs.take j) ix k5) W5 p0 p1 (by omega) (by omega) HIX.out (by omega) (Nat.le_refl _) VG hgl OKG.out (by omega) (by omega) (fun w' h' => HT.out w' (B5.out.trans (h'.mono (by omega))))).mono ?_
                rintro e W6 ⟨rfl, bl6⟩
                have V6 : Hid (ValsAt W6 bb 0 (vs.take j)) := V5.out.below bl6 (by omega)
                have VS6 : Hid (ValsAt W6 sg 0 (vs.take j)) := VS5.out.below bl6 (by omega)
                have B6 : Hid (RowKit.Below w.heap.size w W6) := B5.out.trans (bl6.mono (by omega))
                have HX6 : Hid (W6.heap[pb]? = some (Obj.cells #[.slice (some ⟨tb, 0, none⟩) k5 k5, .slice (some ⟨bb, 0, none⟩) j j] 35)) := (bl6.block pb (by omega)).trans HX5.out
                have s6 := bl6.size
                rw [hz5] at s6
                clear V5 VS5 B5 HX5 bl6 p0 p1 VG hz5
                have hwrapm : ∀ m : Nat, m < k5 → ix * k5 + m ≤ 65536 := fun m hm => by have := HIX.out; omega
                have HWM : Hid (∀ m : Nat, m < k5 → ix * k5 + m ≤ 65536) := hwrapm
                have hik : ix * k5 ≤ 65536 := by have := HIX.out; omega
                clear hwrapm
                obtain ⟨i5, hi5, hz50, hz51, hz52⟩ := info_parts info5
                go_wp2_with fail
                have Q0 : Hid (BR W6.heap.size (.slice none 0 0) (joinL (grp (vs.take j) ix k5) 0) W6 ∧ RowKit.Below W6.heap.size W6 W6) := (⟨⟨World.ownsRow_nil _ _ _ _, Nat.le_refl _⟩, RowKit.Below.refl _ _⟩ : BR W6.heap.size (.slice none 0 0) (joinL (grp (vs.take j) ix k5) 0) W6 ∧ RowKit.Below W6.heap.size W6 W6)
                go_loopg [18, 19] k5 (fun gg s18 s19 wr => ∃ (m : Nat), s19 = .int .i64 m ∧ m ≤ k5 ∧ k5 - m ≤ gg ∧ Hid (BR W6.heap.size s18 (joinL (grp (vs.take j) ix k5) m) wr ∧ RowKit.Below W6.heap.size W6 wr))
                case atStart => exact ⟨0, rfl, by omega, by omega, Q0⟩
                case round =>
                  obtain ⟨m, rfl, hm, hgm, QQ⟩ := hrel
                  clear Q0
                  have hjl := joinL_len (grp (vs.take j) ix k5) OKG.out m (by omega)
                  obtain ⟨va, vc, hva⟩ := shape QQ.out.1.own
                  obtain ⟨ln, hln2⟩ : ∃ ln, (joinL (grp (vs.take j) ix k5) m).length = ln := ⟨_, rfl⟩
                  rw [hln2] at hva hjl
                  have rk := QQ.out.1.own
                  rw [hln2] at rk
                  subst hva
                  by_cases hmk : m < k5
                  · have d8 : (m : Int) < (k5 : Int) := by omega
                    have hwm := HWM.out m hmk
                    obtain ⟨c0, c1, c2⟩ := (VS6.out.below QQ.out.2 (by omega)) (ix * k5 + m) (by rw [hln]; have := HIX.out; omega)
                    have hgg := grp_get hln HIX.out hmk
                    have hok := OKG.out.at (j := m) (by omega)
                    have hjs : joinL (grp (vs.take j) ix k5) (m + 1) = joinL (grp (vs.take j) ix k5) m ++ ((if 0 < m then [44] else []) ++ oneL (grp (vs.take j) ix k5)[m]!) := rfl
                    obtain ⟨p, hp⟩ : ∃ p, (vs.take j)[ix * k5 + m]! = p := ⟨_, rfl⟩
                    rw [hp] at c0 c1 c2 hgg
                    rw [hgg] at hok hjs
                    obtain ⟨⟨kd, nn⟩, s⟩ := p
                    simp only at c0 c1 c2 hok
                    rw [Nat.zero_add] at c0 c1 c2
                    have HJ : Hid (joinL (grp (vs.take j) ix k5) (m + 1) = joinL (grp (vs.take j) ix k5) m ++ ((if 0 < m then [44] else []) ++ oneL ((kd, nn), s))) := hjs
                    obtain ⟨o1, o2, o3⟩ := hok
                    clear hp hgg hjs
                    have hcb : ix * k5 + m < j := by have := HIX.out; omega
                    by_cases hm0 : m = 0
                    · have d9 : decide (0 < m) = false := decide_eq_false (by omega)
                      have HJ5 : Hid (joinL (grp (vs.take j) ix k5) (m + 1) = joinL (grp (vs.take j) ix k5) m ++ oneL ((kd, nn), s)) := by have := HJ.out; rw [if_neg (by omega)] at this; exact this
                      clear hm0
                      go_wp2_with fail
                      refine (one_any W6.heap.size _ _ kd nn s _ QQ.out.1 o1 (by rw [hln2]; omega) o2 o3).mono ?_
                      rintro e w7 ⟨v7, rfl, R7, bl7⟩
                      have Q7 : Hid (BR W6.heap.size v7 (joinL (grp (vs.take j) ix k5) (m + 1)) w7 ∧ RowKit.Below W6.heap.size W6 w7) := by
                        refine (⟨?_, QQ.out.2.trans bl7⟩ : BR W6.heap.size v7 (joinL (grp (vs.take j) ix k5) (m + 1)) w7 ∧ RowKit.Below W6.heap.size W6 w7)
                        rw [HJ5.out]; exact R7
                      clear R7 bl7
                      go_wp2_with fail
                      go_roundg (k5 - (m + 1))
                      case measure => omega
                      case rel => exact ⟨m + 1, by go_num, by omega, by omega, Q7⟩
                    · have d9 : 0 < m := by omega
                      have HJ5 : Hid (joinL (grp (vs.take j) ix k5) (m + 1) = (joinL (grp (vs.take j) ix k5) m ++ [44]) ++ oneL ((kd, nn), s)) := by have := HJ.out; rw [if_pos (by omega), ← List.append_assoc] at this; exact this
                      have hBr := QQ.out.1.hB
                      go_wp2_with (at_builtin; refine wpList_append_lies _ rfl (.tmp 105) (.tmp 106) 37 rfl W6.heap.size 5 i5 _ 1 1 Ybaf.underlying37 hi5 hz50 hz51 hz52 rfl (by decide) (.slice va ln vc) ln _ rfl (rk.alloc _) ⟨wr.heap.size, 0, none⟩ 1 1 [.int .u8 44] rfl rfl (news1 _ _ _) (one_bytes [44]) (by decide) (by unfold maxLen; omega) (by omega) (by rw [World.size_alloc]; omega) (wr.heap.size + 1) (by rw [World.size_alloc]) ?_; intro g2 cp2 wz o4 y4 z4 l4; have AA := BR.app (m := [44]) QQ.out.1 hln2 ((RowKit.Below.refl _ _).alloc QQ.out.1.hB _) o4 y4; have HAA : Hid (BR W6.heap.size (.slice (some ⟨g2, 0, none⟩) (ln + 1) cp2) (joinL (grp (vs.take j) ix k5) m ++ [44]) wz ∧ RowKit.Below W6.heap.size wr wz) := AA; have e0 := (AA.2.cell (p := ⟨sg, (ix * k5 + m) * 3, none⟩) (by show sg < _; omega)).trans c0; have e1 := (AA.2.cell (p := ⟨sg, (ix * k5 + m) * 3 + 1, none⟩) (by show sg < _; omega)).trans c1; have e2 := (AA.2.cell (p := ⟨sg, (ix * k5 + m) * 3 + 2, none⟩) (by show sg < _; omega)).trans c2; clear AA o4 y4 z4 l4 c0 c1 c2 rk)
                      refine (one_any W6.heap.size _ _ kd nn s _ HAA.out.1 o1 (by rw [List.length_append, hln2]; simp; omega) o2 o3).mono ?_
                      rintro e w7 ⟨v7, rfl, R7, bl7⟩
                      have Q7 : Hid (BR W6.heap.size v7 (joinL (grp (vs.take j) ix k5) (m + 1)) w7 ∧ RowKit.Below W6.heap.size W6 w7) := by
                        refine (⟨?_, (QQ.out.2.trans HAA.out.2).trans bl7⟩ : BR W6.heap.size v7 (joinL (grp (vs.take j) ix k5) (m + 1)) w7 ∧ RowKit.Below W6.heap.size W6 w7)
                        rw [HJ5.out]; exact R7
                      clear R7 bl7
                      go_wp2_with fail
                      go_roundg (k5 - (m + 1))
                      case measure => omega
                      case rel => exact ⟨m + 1, by go_num, by omega, by omega, Q7⟩
                  · have hmk' : m = k5 := by omega
                    subst hmk'
                    have d8 : decide ((m : Int) < (m : Int)) = false := decide_eq_false (by omega)
                    have hcv := conv_any QQ.out.1
                    have hxx := (QQ.out.2.block pb (by omega)).trans HX6.out
                    have HX7 : Hid (wr.heap[pb]? = some (Obj.cells #[.slice (some ⟨tb, 0, none⟩) m m, .slice (some ⟨bb, 0, none⟩) j j] 35)) := hxx
                    have VB7 : Hid (ValsAt wr bb 0 (vs.take j)) := V6.out.below QQ.out.2 (by omega)
                    have VS7 : Hid (ValsAt wr sg 0 (vs.take j)) := VS6.out.below QQ.out.2 (by omega)
                    have B7 : Hid (RowKit.Below w.heap.size w wr) := B6.out.trans (QQ.out.2.mono (by omega))
                    have p0 : ∀ dq, (wr.drewN dq).cell? ⟨pb, 0, none⟩ = some (.slice (some ⟨tb, 0, none⟩) m m) := fun _ => by show wr.cell? _ = _; simp [World.cell?, HX7.out]
                    have p0' : wr.cell? ⟨pb, 0, none⟩ = some (.slice (some ⟨tb, 0, none⟩) m m) := p0 0
                    have p1 : wr.cell? ⟨pb, 1, none⟩ = some (.slice (some ⟨bb, 0, none⟩) j j) := by simp [World.cell?, HX7.out]
                    clear QQ hxx rk hjl V6 VS6 B6 HX6
                    go_wp2_with fail
                    refine (equal_at bb j sg sc j (vs.take j) _ hln VB7.out VS7.out (by omega)).mono ?_
                    rintro e w8 ⟨rfl, q8, rfl⟩
                    go_wp2_with fail
                    go_ret
                    exact ⟨rfl, ⟨B7.out.os, B7.out.tape, B7.out.output, B7.out.size, B7.out.block⟩⟩
end Go.Proofs.YbulkdneaFmt
