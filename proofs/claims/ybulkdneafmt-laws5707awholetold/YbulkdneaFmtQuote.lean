/- WALK: zzs5707aquote. -/
import Derived.Test.YbulkdneaFmtPlain
namespace Go.Proofs.YbulkdneaFmt
open Go.RowKit

theorem ne_byte {c : UInt8} {k : Nat} (h : c ≠ OfNat.ofNat k) (hk : k < 256 := by decide) : (c.toNat : Int) ≠ (k : Int) := by
  intro e
  apply h
  have : c.toNat = k := by omega
  apply UInt8.toNat_inj.1
  rw [this]
  show k = (UInt8.ofNat k).toNat
  simp; omega
theorem esc_cases (c : UInt8) : c = 39 ∨ c = 92 ∨ c = 0 ∨ c = 10 ∨ c = 13 ∨ c = 26 ∨ (c ≠ 39 ∧ c ≠ 92 ∧ c ≠ 0 ∧ c ≠ 10 ∧ c ≠ 13 ∧ c ≠ 26) := by
  by_cases h1 : c = 39
  · exact .inl h1
  by_cases h2 : c = 92
  · exact .inr (.inl h2)
  by_cases h3 : c = 0
  · exact .inr (.inr (.inl h3))
  by_cases h4 : c = 10
  · exact .inr (.inr (.inr (.inl h4)))
  by_cases h5 : c = 13
  · exact .inr (.inr (.inr (.inr (.inl h5))))
  by_cases h6 : c = 26
  · exact .inr (.inr (.inr (.inr (.inr (.inl h6)))))
  exact .inr (.inr (.inr (.inr (.inr (.inr ⟨h1, h2, h3, h4, h5, h6⟩)))))
theorem shape {w : World} {B e n : Nat} {v : Value} {xs : List Value} (h : w.ownsRow B e 1 v n xs) : ∃ a c, v = .slice a n c := by
  rcases h.2 with ⟨rfl, rfl⟩ | ⟨g, cap, cur, rfl, _⟩
  · exact ⟨none, 0, rfl⟩
  · exact ⟨_, cap, rfl⟩

set_option maxHeartbeats 1000000 in
set_option maxRecDepth 100000 in
theorem zquote_any (B : Nat) (v : Value) (l : List UInt8) (s : ByteArray) (w : World) (h : BR B v l w) (hs : s.size ≤ 1048576) (hl : l.length ≤ 100000000) :
    Calls Ybaf.prog 11 #[v, .string s] w fun e w' => ∃ v', e = .returned v' ∧ BR B v' (l ++ quoteL s) w' ∧ RowKit.Below B w w' := by
  obtain ⟨i5, hi5, hz50, hz51, hz52⟩ := info_parts info5
  have HH : Hid (BR B v l w) := h
  have ho := h.own
  have hB := h.hB
  obtain ⟨n, hn⟩ : ∃ n, l.length = n := ⟨_, rfl⟩
  rw [hn] at ho hl
  clear h
  go_enter Ybaf.func11, Ybaf.ntmps11
  go_wp2_with (at_builtin; refine wpList_append_lies _ rfl (.tmp 7) (.tmp 8) 37 rfl B 5 i5 _ 1 1 Ybaf.underlying37 hi5 hz50 hz51 hz52 rfl (by decide) v n (Lib.byteCells l) rfl (ho.alloc _) ⟨w.heap.size, 0, none⟩ 1 1 [.int .u8 39] rfl rfl (news1 _ _ _) (one_bytes [39]) (by decide) (by unfold maxLen; omega) (by omega) (by rw [World.size_alloc]; omega) (w.heap.size + 1) (by rw [World.size_alloc]) ?_; intro g1 cp1 wy o1 y1 z1 l1)
  have AA := BR.app (m := [39]) HH.out hn ((RowKit.Below.refl _ _).alloc HH.out.hB _) o1 y1
  have R0 : Hid (BR B (.slice (some ⟨g1, 0, none⟩) (n + 1) cp1) (l ++ 39 :: body s 0) wy ∧ RowKit.Below B w wy) := AA
  clear AA o1 y1 z1 l1 ho
  go_loopg [0, 5] s.size (fun gg s0 s5 wr => ∃ j : Nat, s5 = .int .i64 j ∧ j ≤ s.size ∧ s.size - j ≤ gg ∧ Hid (BR B s0 (l ++ 39 :: body s j) wr ∧ RowKit.Below B w wr))
  case atStart => exact ⟨0, rfl, by omega, by omega, R0⟩
  case round =>
    obtain ⟨j, rfl, hj, hg, RR⟩ := hrel
    clear R0
    have hlen := body_len s j
    have hm' : (l ++ 39 :: body s j).length = n + 1 + (body s j).length := by rw [List.length_append, List.length_cons, hn]; omega
    have rk := RR.out.1.own
    have hBr := RR.out.1.hB
    obtain ⟨m, hm⟩ : ∃ m, (l ++ 39 :: body s j).length = m := ⟨_, rfl⟩
    rw [hm] at rk hm'
    have hmb : m ≤ 110000000 := by omega
    clear hm' hlen
    obtain ⟨va, vc, hv⟩ := shape rk
    subst hv
    by_cases hlt : j < s.size
    · have d1 : (j : Int) < (s.size : Int) := by omega
      obtain ⟨c, hc⟩ : ∃ c, s[j]'hlt = c := ⟨_, rfl⟩
      rcases esc_cases c with e | e | e | e | e | e | ⟨q1, q2, q3, q4, q5, q6⟩
      · subst e
        have HE : Hid (esc 39 = [39, 39]) := (by decide : esc 39 = [39, 39])
        go_wp2_with (at_builtin; refine wpList_append_lies _ rfl (.tmp 21) (.tmp 22) 37 rfl B 5 i5 _ 1 1 Ybaf.underlying37 hi5 hz50 hz51 hz52 rfl (by decide) (.slice va m vc) m (Lib.byteCells (l ++ 39 :: body s j)) rfl (rk.alloc _) ⟨wr.heap.size, 0, none⟩ 2 2 [.int .u8 39, .int .u8 39] rfl rfl (news2 _ _ _ _) (one_bytes [39, 39]) (by decide) (by unfold maxLen; omega) (by omega) (by rw [World.size_alloc]; omega) (wr.heap.size + 1) (by rw [World.size_alloc]) ?_; intro g2 cp2 wz o2 y2 z2 l2)
        have AA := BR.app (m := [39, 39]) RR.out.1 hm ((RowKit.Below.refl _ _).alloc RR.out.1.hB _) o2 y2
        have R2 : Hid (BR B (.slice (some ⟨g2, 0, none⟩) (m + 2) cp2) (l ++ 39 :: body s (j + 1)) wz ∧ RowKit.Below B w wz) := by
          refine (⟨?_, RR.out.2.trans AA.2⟩ : BR B (.slice (some ⟨g2, 0, none⟩) (m + 2) cp2) (l ++ 39 :: body s (j + 1)) wz ∧ RowKit.Below B w wz)
          have e := AA.1
          rw [List.append_assoc, List.cons_append] at e
          rw [body_succ s j hlt, hc, HE.out]
          exact e
        clear AA o2 y2 z2 l2 rk
        go_wp2_with fail
        go_roundg (s.size - (j + 1))
        case measure => omega
        case rel => exact ⟨j + 1, by go_num, by omega, by omega, R2⟩
      · subst e
        have HE : Hid (esc 92 = [92, 92]) := (by decide : esc 92 = [92, 92])
        go_wp2_with (at_builtin; refine wpList_append_lies _ rfl (.tmp 26) (.tmp 27) 37 rfl B 5 i5 _ 1 1 Ybaf.underlying37 hi5 hz50 hz51 hz52 rfl (by decide) (.slice va m vc) m (Lib.byteCells (l ++ 39 :: body s j)) rfl (rk.alloc _) ⟨wr.heap.size, 0, none⟩ 2 2 [.int .u8 92, .int .u8 92] rfl rfl (news2 _ _ _ _) (one_bytes [92, 92]) (by decide) (by unfold maxLen; omega) (by omega) (by rw [World.size_alloc]; omega) (wr.heap.size + 1) (by rw [World.size_alloc]) ?_; intro g2 cp2 wz o2 y2 z2 l2)
        have AA := BR.app (m := [92, 92]) RR.out.1 hm ((RowKit.Below.refl _ _).alloc RR.out.1.hB _) o2 y2
        have R2 : Hid (BR B (.slice (some ⟨g2, 0, none⟩) (m + 2) cp2) (l ++ 39 :: body s (j + 1)) wz ∧ RowKit.Below B w wz) := by
          refine (⟨?_, RR.out.2.trans AA.2⟩ : BR B (.slice (some ⟨g2, 0, none⟩) (m + 2) cp2) (l ++ 39 :: body s (j + 1)) wz ∧ RowKit.Below B w wz)
          have e := AA.1
          rw [List.append_assoc, List.cons_append] at e
          rw [body_succ s j hlt, hc, HE.out]
          exact e
        clear AA o2 y2 z2 l2 rk
        go_wp2_with fail
        go_roundg (s.size - (j + 1))
        case measure => omega
        case rel => exact ⟨j + 1, by go_num, by omega, by omega, R2⟩
      · subst e
        have HE : Hid (esc 0 = [92, 48]) := (by decide : esc 0 = [92, 48])
        go_wp2_with (at_builtin; refine wpList_append_lies _ rfl (.tmp 31) (.tmp 32) 37 rfl B 5 i5 _ 1 1 Ybaf.underlying37 hi5 hz50 hz51 hz52 rfl (by decide) (.slice va m vc) m (Lib.byteCells (l ++ 39 :: body s j)) rfl (rk.alloc _) ⟨wr.heap.size, 0, none⟩ 2 2 [.int .u8 92, .int .u8 48] rfl rfl (news2 _ _ _ _) (one_bytes [92, 48]) (by decide) (by unfold maxLen; omega) (by omega) (by rw [World.size_alloc]; omega) (wr.heap.size + 1) (by rw [World.size_alloc]) ?_; intro g2 cp2 wz o2 y2 z2 l2)
        have AA := BR.app (m := [92, 48]) RR.out.1 hm ((RowKit.Below.refl _ _).alloc RR.out.1.hB _) o2 y2
        have R2 : Hid (BR B (.slice (some ⟨g2, 0, none⟩) (m + 2) cp2) (l ++ 39 :: body s (j + 1)) wz ∧ RowKit.Below B w wz) := by
          refine (⟨?_, RR.out.2.trans AA.2⟩ : BR B (.slice (some ⟨g2, 0, none⟩) (m + 2) cp2) (l ++ 39 :: body s (j + 1)) wz ∧ RowKit.Below B w wz)
          have e := AA.1
          rw [List.append_assoc, List.cons_append] at e
          rw [body_succ s j hlt, hc, HE.out]
          exact e
        clear AA o2 y2 z2 l2 rk
        go_wp2_with fail
        go_roundg (s.size - (j + 1))
        case measure => omega
        case rel => exact ⟨j + 1, by go_num, by omega, by omega, R2⟩
      · subst e
        have HE : Hid (esc 10 = [92, 110]) := (by decide : esc 10 = [92, 110])
        go_wp2_with (at_builtin; refine wpList_append_lies _ rfl (.tmp 36) (.tmp 37) 37 rfl B 5 i5 _ 1 1 Ybaf.underlying37 hi5 hz50 hz51 hz52 rfl (by decide) (.slice va m vc) m (Lib.byteCells (l ++ 39 :: body s j)) rfl (rk.alloc _) ⟨wr.heap.size, 0, none⟩ 2 2 [.int .u8 92, .int .u8 110] rfl rfl (news2 _ _ _ _) (one_bytes [92, 110]) (by decide) (by unfold maxLen; omega) (by omega) (by rw [World.size_alloc]; omega) (wr.heap.size + 1) (by rw [World.size_alloc]) ?_; intro g2 cp2 wz o2 y2 z2 l2)
        have AA := BR.app (m := [92, 110]) RR.out.1 hm ((RowKit.Below.refl _ _).alloc RR.out.1.hB _) o2 y2
        have R2 : Hid (BR B (.slice (some ⟨g2, 0, none⟩) (m + 2) cp2) (l ++ 39 :: body s (j + 1)) wz ∧ RowKit.Below B w wz) := by
          refine (⟨?_, RR.out.2.trans AA.2⟩ : BR B (.slice (some ⟨g2, 0, none⟩) (m + 2) cp2) (l ++ 39 :: body s (j + 1)) wz ∧ RowKit.Below B w wz)
          have e := AA.1
          rw [List.append_assoc, List.cons_append] at e
          rw [body_succ s j hlt, hc, HE.out]
          exact e
        clear AA o2 y2 z2 l2 rk
        go_wp2_with fail
        go_roundg (s.size - (j + 1))
        case measure => omega
        case rel => exact ⟨j + 1, by go_num, by omega, by omega, R2⟩
      · subst e
        have HE : Hid (esc 13 = [92, 114]) := (by decide : esc 13 = [92, 114])
        go_wp2_with (at_builtin; refine wpList_append_lies _ rfl (.tmp 41) (.tmp 42) 37 rfl B 5 i5 _ 1 1 Ybaf.underlying37 hi5 hz50 hz51 hz52 rfl (by decide) (.slice va m vc) m (Lib.byteCells (l ++ 39 :: body s j)) rfl (rk.alloc _) ⟨wr.heap.size, 0, none⟩ 2 2 [.int .u8 92, .int .u8 114] rfl rfl (news2 _ _ _ _) (one_bytes [92, 114]) (by decide) (by unfold maxLen; omega) (by omega) (by rw [World.size_alloc]; omega) (wr.heap.size + 1) (by rw [World.size_alloc]) ?_; intro g2 cp2 wz o2 y2 z2 l2)
        have AA := BR.app (m := [92, 114]) RR.out.1 hm ((RowKit.Below.refl _ _).alloc RR.out.1.hB _) o2 y2
        have R2 : Hid (BR B (.slice (some ⟨g2, 0, none⟩) (m + 2) cp2) (l ++ 39 :: body s (j + 1)) wz ∧ RowKit.Below B w wz) := by
          refine (⟨?_, RR.out.2.trans AA.2⟩ : BR B (.slice (some ⟨g2, 0, none⟩) (m + 2) cp2) (l ++ 39 :: body s (j + 1)) wz ∧ RowKit.Below B w wz)
          have e := AA.1
          rw [List.append_assoc, List.cons_append] at e
          rw [body_succ s j hlt, hc, HE.out]
          exact e
        clear AA o2 y2 z2 l2 rk
        go_wp2_with fail
        go_roundg (s.size - (j + 1))
        case measure => omega
        case rel => exact ⟨j + 1, by go_num, by omega, by omega, R2⟩
      · subst e
        have HE : Hid (esc 26 = [92, 90]) := (by decide : esc 26 = [92, 90])
        go_wp2_with (at_builtin; refine wpList_append_lies _ rfl (.tmp 46) (.tmp 47) 37 rfl B 5 i5 _ 1 1 Ybaf.underlying37 hi5 hz50 hz51 hz52 rfl (by decide) (.slice va m vc) m (Lib.byteCells (l ++ 39 :: body s j)) rfl (rk.alloc _) ⟨wr.heap.size, 0, none⟩ 2 2 [.int .u8 92, .int .u8 90] rfl rfl (news2 _ _ _ _) (one_bytes [92, 90]) (by decide) (by unfold maxLen; omega) (by omega) (by rw [World.size_alloc]; omega) (wr.heap.size + 1) (by rw [World.size_alloc]) ?_; intro g2 cp2 wz o2 y2 z2 l2)
        have AA := BR.app (m := [92, 90]) RR.out.1 hm ((RowKit.Below.refl _ _).alloc RR.out.1.hB _) o2 y2
        have R2 : Hid (BR B (.slice (some ⟨g2, 0, none⟩) (m + 2) cp2) (l ++ 39 :: body s (j + 1)) wz ∧ RowKit.Below B w wz) := by
          refine (⟨?_, RR.out.2.trans AA.2⟩ : BR B (.slice (some ⟨g2, 0, none⟩) (m + 2) cp2) (l ++ 39 :: body s (j + 1)) wz ∧ RowKit.Below B w wz)
          have e := AA.1
          rw [List.append_assoc, List.cons_append] at e
          rw [body_succ s j hlt, hc, HE.out]
          exact e
        clear AA o2 y2 z2 l2 rk
        go_wp2_with fail
        go_roundg (s.size - (j + 1))
        case measure => omega
        case rel => exact ⟨j + 1, by go_num, by omega, by omega, R2⟩
      · have HE : Hid (esc c = [c]) := (by unfold esc; simp [q1, q2, q3, q4, q5, q6] : esc c = [c])
        have e1 : (c.toNat : Int) ≠ 39 := ne_byte q1
        have e2 : (c.toNat : Int) ≠ 92 := ne_byte q2
        have e3 : (c.toNat : Int) ≠ 0 := ne_byte q3
        have e4 : (c.toNat : Int) ≠ 10 := ne_byte q4
        have e5 : (c.toNat : Int) ≠ 13 := ne_byte q5
        have e6 : (c.toNat : Int) ≠ 26 := ne_byte q6
        clear q1 q2 q3 q4 q5 q6
        go_wp2_with (at_builtin; refine wpList_append_lies _ rfl (.tmp 49) (.tmp 51) 37 rfl B 5 i5 _ 1 1 Ybaf.underlying37 hi5 hz50 hz51 hz52 rfl (by decide) (.slice va m vc) m (Lib.byteCells (l ++ 39 :: body s j)) rfl (rk.alloc _) ⟨wr.heap.size, 0, none⟩ 1 1 [.int .u8 c.toNat] rfl rfl (news1 _ _ _) (one_bytes [c]) (by decide) (by unfold maxLen; omega) (by omega) (by rw [World.size_alloc]; omega) (wr.heap.size + 1) (by rw [World.size_alloc]) ?_; intro g2 cp2 wz o2 y2 z2 l2)
        have AA := BR.app (m := [c]) RR.out.1 hm ((RowKit.Below.refl _ _).alloc RR.out.1.hB _) o2 y2
        have R2 : Hid (BR B (.slice (some ⟨g2, 0, none⟩) (m + 1) cp2) (l ++ 39 :: body s (j + 1)) wz ∧ RowKit.Below B w wz) := by
          refine (⟨?_, RR.out.2.trans AA.2⟩ : BR B (.slice (some ⟨g2, 0, none⟩) (m + 1) cp2) (l ++ 39 :: body s (j + 1)) wz ∧ RowKit.Below B w wz)
          have e := AA.1
          rw [List.append_assoc, List.cons_append] at e
          rw [body_succ s j hlt, hc, HE.out]
          exact e
        clear AA o2 y2 z2 l2 rk
        go_wp2_with fail
        go_roundg (s.size - (j + 1))
        case measure => omega
        case rel => exact ⟨j + 1, by go_num, by omega, by omega, R2⟩
    · have hjn : j = s.size := by omega
      subst hjn
      have d1 : decide ((s.size : Int) < (s.size : Int)) = false := decide_eq_false (by omega)
      go_wp2_with (at_builtin; refine wpList_append_lies _ rfl (.tmp 53) (.tmp 54) 37 rfl B 5 i5 _ 1 1 Ybaf.underlying37 hi5 hz50 hz51 hz52 rfl (by decide) (.slice va m vc) m (Lib.byteCells (l ++ 39 :: body s s.size)) rfl (rk.alloc _) ⟨wr.heap.size, 0, none⟩ 1 1 [.int .u8 39] rfl rfl (news1 _ _ _) (one_bytes [39]) (by decide) (by unfold maxLen; omega) (by omega) (by rw [World.size_alloc]; omega) (wr.heap.size + 1) (by rw [World.size_alloc]) ?_; intro g2 cp2 wz o2 y2 z2 l2)
      have AA := BR.app (m := [39]) RR.out.1 hm ((RowKit.Below.refl _ _).alloc RR.out.1.hB _) o2 y2
      go_ret
      refine ⟨_, rfl, ?_, RR.out.2.trans AA.2⟩
      have e := AA.1
      rw [List.append_assoc, List.cons_append, body_all] at e
      exact e
end Go.Proofs.YbulkdneaFmt
