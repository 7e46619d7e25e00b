/- WALK: zzs5707autoa. -/
import Derived.Test.YbulkdneaFmtQuote
import Derived.Lib.ItoaMem
namespace Go.Proofs.YbulkdneaFmt
open Go.RowKit

/-- The digits laid so far. -/
structure DG (w : World) (u n : Nat) (wr : World) : Prop where
  box : ∃ cs : Array Value, wr.heap[w.heap.size]? = some (.cells cs 57) ∧ cs.size = 20 ∧ ∀ i, i < n → cs[i]? = some (.int .u8 (Lib.dg u i).toNat)
  gr : w.grownBy wr none
  sz : wr.heap.size = w.heap.size + 1

theorem DG.cell {w : World} {u n : Nat} {wr : World} (h : DG w u n wr) {i : Nat} (hi : i < n) : wr.cell? ⟨w.heap.size, i, none⟩ = some (.int .u8 (Lib.dg u i).toNat) := by
  obtain ⟨cs, hb, hs, hc⟩ := h.box
  have := hc i hi
  simp [World.cell?, hb, this]
theorem DG.any {w : World} {u n : Nat} {wr : World} (h : DG w u n wr) {i : Nat} (hi : i < 20) : (∃ v, wr.cell? ⟨w.heap.size, i, none⟩ = some v) ∧ wr.frozen? ⟨w.heap.size, i, none⟩ = false := by
  obtain ⟨cs, hb, hs, hc⟩ := h.box
  refine ⟨⟨cs[i]'(by omega), ?_⟩, by simp [World.frozen?, hb]⟩
  simp [World.cell?, hb, hs, hi]
theorem DG.step {w : World} {u n : Nat} {wr : World} (h : DG w u n wr) (hn : n < 20) : DG w u (n + 1) (wr.setCell ⟨w.heap.size, n, none⟩ (.int .u8 (Lib.dg u n).toNat)) := by
  obtain ⟨cs, hb, hs, hc⟩ := h.box
  refine ⟨⟨cs.setIfInBounds n (.int .u8 (Lib.dg u n).toNat), by simp [World.setCell, Array.getElem?_modify, hb], by simpa using hs, fun i hi => ?_⟩, ⟨h.gr.os, h.gr.tape, h.gr.output, by simpa [World.setCell] using h.gr.size, fun k hk _ => ?_⟩, by simpa [World.setCell] using h.sz⟩
  · rw [Array.getElem?_setIfInBounds]
    by_cases e : n = i
    · subst e; simp; omega
    · rw [if_neg e]; exact hc i (by omega)
  · rw [Below.heap_setCell _ _ _ _ (by simp; omega)]
    exact h.gr.block k hk (by simp)

theorem digits_le : ∀ (n u : Nat), u < 10 ^ n → 1 ≤ n → Lib.nDigits u ≤ n
  | 0, u, _, h => by omega
  | n + 1, u, h, _ => by
    by_cases c : u < 10
    · rw [Lib.nDigits_small c]; omega
    · rw [Lib.nDigits_big c]
      rcases Nat.eq_zero_or_pos n with e | e
      · subst e; simp at h; omega
      · have := digits_le n (u / 10) (by rw [Nat.pow_succ] at h; omega) e
        omega
theorem pow_step {u n : Nat} (h : n < Lib.nDigits u) : (u / 10 ^ n / 10 = 0 → Lib.nDigits u = n + 1) ∧ (u / 10 ^ n / 10 ≠ 0 → n + 1 < Lib.nDigits u) := by
  have hp : 0 < 10 ^ n := Nat.pow_pos (by decide)
  rw [Nat.div_div_eq_div_mul, ← Nat.pow_succ]
  constructor
  · intro h0
    have hlt : u < 10 ^ (n + 1) := by
      rcases Nat.div_eq_zero_iff.1 h0 with e | e
      · have : 0 < 10 ^ (n + 1) := Nat.pow_pos (by decide)
        omega
      · exact e
    rcases Nat.eq_zero_or_pos n with e | e
    · subst e
      exact Lib.nDigits_small (by simpa using hlt)
    · refine Lib.nDigits_unique n u ?_ hlt
      rcases Nat.lt_or_ge u (10 ^ n) with c | c
      · exfalso
        obtain ⟨m, rfl⟩ : ∃ m, n = m + 1 := ⟨n - 1, by omega⟩
        have := digits_le (m + 1) u c (by omega)
        omega
      · exact c
  · intro h0
    rcases Nat.lt_or_ge (n + 1) (Lib.nDigits u) with c | c
    · exact c
    · exfalso
      apply h0
      have h1 := Lib.lt_pow_nDigits u
      have h2 : (10 : Nat) ^ Lib.nDigits u ≤ 10 ^ (n + 1) := Nat.pow_le_pow_right (by decide) c
      exact Nat.div_eq_of_lt (by omega)

theorem dg_val {u n x : Nat} (h : x = u / 10 ^ n) : ((Lib.dg u n).toNat : Int) = 48 + (x : Int) % 10 := by
  subst h
  unfold Lib.dg
  rw [UInt8.toNat_ofNat']
  omega

theorem digs_succ (u N m : Nat) (hm : m + 1 ≤ N) : (List.range (N - m)).map (fun t => Lib.dg u (N - 1 - t)) = (List.range (N - (m + 1))).map (fun t => Lib.dg u (N - 1 - t)) ++ [Lib.dg u m] := by
  rw [show N - m = (N - (m + 1)) + 1 by omega, List.range_succ, List.map_append]
  simp
  congr 1
  omega

/-- What the second loop keeps. -/
structure U2 (B : Nat) (w : World) (l : List UInt8) (u N m : Nat) (v : Value) (wr : World) : Prop where
  br : BR B v (l ++ (List.range (N - m)).map (fun t => Lib.dg u (N - 1 - t))) wr
  bel : RowKit.Below B w wr
  cl : ∀ i, i < N → wr.cell? ⟨w.heap.size, i, none⟩ = some (.int .u8 (Lib.dg u i).toNat)
  lt : w.heap.size < wr.heap.size
  ne : v.ownBlock ≠ some w.heap.size

theorem U2.of {B : Nat} {w : World} {l : List UInt8} {u N : Nat} {v : Value} {wr : World} (h : BR B v l w) (d : DG w u N wr) : U2 B w l u N N v wr := by
  refine ⟨⟨?_, ?_⟩, ?_, fun i hi => d.cell hi, by have := d.sz; omega, fun e => by have := (h.own.lt _ e).2; omega⟩
  · rw [Nat.sub_self]
    simp only [List.range_zero, List.map_nil, List.append_nil]
    exact h.own.kept d.gr (by cases hv : v.ownBlock <;> simp)
  · have := d.sz; have := h.hB; omega
  · exact (RowKit.Below.refl _ _).grown d.gr h.hB (fun k e => by cases e)

theorem U2.step {B : Nat} {w : World} {l : List UInt8} {u N m n : Nat} {v v' : Value} {wr w' : World} (h : U2 B w l u N (m + 1) v wr) (hm : m + 1 ≤ N) (hn : (l ++ (List.range (N - (m + 1))).map (fun t => Lib.dg u (N - 1 - t))).length = n) {o : Obj}
    (ow : w'.ownsRow B 5 1 v' (n + 1) (Lib.byteCells (l ++ (List.range (N - (m + 1))).map (fun t => Lib.dg u (N - 1 - t))) ++ [.int .u8 (Lib.dg u m).toNat])) (g : (wr.alloc o).grownBy w' v.ownBlock) {g' : Nat} (hv' : v'.ownBlock = some g') (z : v.ownBlock = some g' ∨ g' = wr.heap.size + 1) : U2 B w l u N m v' w' := by
  have AA := BR.app (m := [Lib.dg u m]) h.br hn ((RowKit.Below.refl _ _).alloc h.br.hB o) ow g
  have hl := h.lt
  have hs := g.size
  rw [World.size_alloc] at hs
  refine ⟨?_, h.bel.trans AA.2, fun i hi => ?_, by omega, ?_⟩
  · rw [digs_succ u N m hm, ← List.append_assoc]; exact AA.1
  · have e := g.block w.heap.size (by rw [World.size_alloc]; omega) (fun e => h.ne e.symm)
    rw [heap_alloc_old _ _ hl] at e
    exact (World.cell?_of_block (a := ⟨w.heap.size, i, none⟩) e).trans (h.cl i hi)
  · rw [hv']
    intro e
    cases e
    rcases z with z | z
    · exact h.ne z
    · omega

set_option maxHeartbeats 1000000 in
set_option maxRecDepth 100000 in
theorem utoa_any (B : Nat) (v : Value) (l : List UInt8) (u : Nat) (w : World) (h : BR B v l w) (hu : u < 18446744073709551616) (hl : l.length ≤ 100000000) :
    Calls Ybaf.prog 12 #[v, .int .u64 u] w fun e w' => ∃ v', e = .returned v' ∧ BR B v' (l ++ utoaL u) w' ∧ RowKit.Below B w w' := by
  obtain ⟨i5, hi5, hz50, hz51, hz52⟩ := info_parts info5
  have HH : Hid (BR B v l w) := h
  have hd := nDigits_le u hu
  have D0 : Hid (DG w u 0 (w.alloc (.cells (Array.replicate 20 (.int .u8 0)) 57))) :=
    (⟨⟨_, heap_alloc_new _ _, by simp, fun i hi => by omega⟩, World.grownBy_alloc _ _ _, by simp⟩ : DG w u 0 (w.alloc (.cells (Array.replicate 20 (.int .u8 0)) 57)))
  have D1 : Hid (DG w u 0 (w.alloc (.cells #[.int .u8 0, .int .u8 0, .int .u8 0, .int .u8 0, .int .u8 0, .int .u8 0, .int .u8 0, .int .u8 0, .int .u8 0, .int .u8 0, .int .u8 0, .int .u8 0, .int .u8 0, .int .u8 0, .int .u8 0, .int .u8 0, .int .u8 0, .int .u8 0, .int .u8 0, .int .u8 0] 57))) := D0
  clear h D0
  have hnp := Lib.nDigits_pos u
  go_enter Ybaf.func12, Ybaf.ntmps12
  go_wp2_with fail
  generalize w.alloc (.cells #[.int .u8 0, .int .u8 0, .int .u8 0, .int .u8 0, .int .u8 0, .int .u8 0, .int .u8 0, .int .u8 0, .int .u8 0, .int .u8 0, .int .u8 0, .int .u8 0, .int .u8 0, .int .u8 0, .int .u8 0, .int .u8 0, .int .u8 0, .int .u8 0, .int .u8 0, .int .u8 0] 57) = W1 at D1 ⊢
  obtain ⟨N, hN⟩ : ∃ N, Lib.nDigits u = N := ⟨_, rfl⟩
  rw [hN] at hd hnp
  obtain ⟨q, hq⟩ : ∃ q, w.heap.size = q := ⟨_, rfl⟩
  rw [hq]
  have HQ : Hid (w.heap.size = q) := hq
  clear hq
  go_loopg [1, 6] N (fun gg s1 s6 wr => ∃ n x : Nat, s1 = .int .u64 x ∧ s6 = .int .i64 n ∧ n < N ∧ N - n ≤ gg ∧ Hid (x = u / 10 ^ n ∧ DG w u n wr))
  case atStart => exact ⟨0, u, rfl, rfl, by omega, by omega, (⟨by simp, D1⟩ : u = u / 10 ^ 0 ∧ DG w u 0 W1)⟩
  case round =>
    obtain ⟨n, x, rfl, rfl, hn, hg, RR⟩ := hrel
    clear D1
    have hx : x < 18446744073709551616 := by rw [RR.out.1]; exact Nat.lt_of_le_of_lt (Nat.div_le_self _ _) hu
    obtain ⟨⟨v0, c0⟩, f0⟩ := RR.out.2.any (i := n) (by omega)
    rw [HQ.out] at c0 f0
    have hps := pow_step (u := u) (n := n) (by omega)
    rw [← RR.out.1] at hps
    have hdv := dg_val RR.out.1
    have DS := RR.out.2.step (by omega)
    rw [HQ.out, hdv] at DS
    have HDS : Hid (DG w u (n + 1) (wr.setCell ⟨q, n, none⟩ (.int .u8 (48 + (x : Int) % 10)))) := DS
    clear DS hdv
    by_cases hz : x / 10 = 0
    · have e0 : ((x : Int) / 10 == 0) = true := by rw [beq_iff_eq]; omega
      have hN1 : N = n + 1 := by rw [← hN]; exact hps.1 hz
      go_wp2_with fail
      have U0 : Hid (U2 B w l u N N v (wr.setCell ⟨q, n, none⟩ (.int .u8 (48 + (x : Int) % 10)))) := U2.of HH.out (by rw [hN1]; exact HDS.out)
      generalize wr.setCell ⟨q, n, none⟩ (.int .u8 (48 + (x : Int) % 10)) = W5 at U0 ⊢
      clear HDS hps RR e0 c0 f0
      go_loopg [0, 6] N (fun gg s0 s6 wr => ∃ m : Nat, s6 = .int .i64 m ∧ m ≤ N ∧ m ≤ gg ∧ Hid (U2 B w l u N m s0 wr))
      case atStart => exact ⟨N, by rw [hN1]; go_num, by omega, by omega, U0⟩
      case round =>
        obtain ⟨m, rfl, hm, hgm, UU⟩ := hrel
        clear U0
        have hlen : (l ++ (List.range (N - m)).map (fun t => Lib.dg u (N - 1 - t))).length = l.length + (N - m) := by simp
        obtain ⟨k, hk⟩ : ∃ k, (l ++ (List.range (N - m)).map (fun t => Lib.dg u (N - 1 - t))).length = k := ⟨_, rfl⟩
        have rk := UU.out.br.own
        rw [hk] at rk hlen
        obtain ⟨va, vc, hv⟩ := shape rk
        subst hv
        have hkb : k ≤ 100000020 := by omega
        by_cases hm0 : 0 < m
        · obtain ⟨m', rfl⟩ : ∃ m', m = m' + 1 := ⟨m - 1, by omega⟩
          have d5 : (0 : Int) < ((m' + 1 : Nat) : Int) := by omega
          have cc := UU.out.cl m' (by omega)
          rw [HQ.out] at cc
          have hBr := UU.out.br.hB
          clear hlen
          go_wp2_with (at_builtin; refine wpList_append_lies _ rfl (.tmp 23) (.tmp 27) 37 rfl B 5 i5 _ 1 1 Ybaf.underlying37 hi5 hz50 hz51 hz52 rfl (by decide) (.slice va k vc) k _ rfl (rk.alloc _) ⟨wr.heap.size, 0, none⟩ 1 1 [.int .u8 (Lib.dg u m').toNat] rfl rfl (news1 _ _ _) (one_bytes [Lib.dg u m']) (by decide) (by unfold maxLen; omega) (by omega) (by rw [World.size_alloc]; omega) (wr.heap.size + 1) (by rw [World.size_alloc]) ?_; intro g2 cp2 wz o2 y2 z2 l2)
          have U3 : Hid (U2 B w l u N m' (.slice (some ⟨g2, 0, none⟩) (k + 1) cp2) wz) := UU.out.step (by omega) hk o2 y2 rfl z2
          clear o2 y2 z2 l2 rk cc
          go_wp2_with fail
          go_roundg m'
          case measure => omega
          case rel => exact ⟨m', by go_num, by omega, by omega, U3⟩
        · obtain rfl : m = 0 := by omega
          go_wp2_with fail
          go_ret
          refine ⟨_, rfl, ?_, UU.out.bel⟩
          have := UU.out.br
          unfold utoaL
          rw [Lib.decDigits_eq, hN]
          exact this
    · have e0 : ((x : Int) / 10 == 0) = false := by rw [beq_eq_false_iff_ne]; omega
      have hN1 := hps.2 hz
      rw [hN] at hN1
      go_wp2_with fail
      go_roundg (N - (n + 1))
      case measure => omega
      case rel => exact ⟨n + 1, x / 10, by go_num, by go_num, by omega, by omega, (⟨by rw [RR.out.1, Nat.div_div_eq_div_mul, ← Nat.pow_succ], HDS.out⟩ : x / 10 = u / 10 ^ (n + 1) ∧ DG w u (n + 1) _)⟩
end Go.Proofs.YbulkdneaFmt
