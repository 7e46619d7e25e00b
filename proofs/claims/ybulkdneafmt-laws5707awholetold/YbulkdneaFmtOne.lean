/- WALK: zzs5707aone. -/
import Derived.Test.YbulkdneaFmtUtoa
import Derived.Lib.AppendStr
namespace Go.Proofs.YbulkdneaFmt
open Go.RowKit

theorem BR.alloc {B : Nat} {v : Value} {l : List UInt8} {w : World} (h : BR B v l w) (o : Obj) : BR B v l (w.alloc o) := ⟨h.own.alloc o, by rw [World.size_alloc]; have := h.hB; omega⟩

theorem oneL_len (v : VV) (hs : v.2.size ≤ 1048576) (n0 : -9223372036854775808 ≤ v.1.2) (n1 : v.1.2 ≤ 9223372036854775807) : (oneL v).length ≤ 2097154 := by
  unfold oneL
  have hq : (quoteL v.2).length ≤ 2097154 := by
    unfold quoteL
    have := flat_esc_len v.2.data.toList
    have h2 : v.2.data.toList.length = v.2.size := by simp
    simp only [List.length_cons, List.length_append, List.length_nil]
    omega
  have hi : (Lib.itoa v.1.2).length ≤ 21 := by
    unfold Lib.itoa
    split
    · rw [List.length_cons]
      have := utoaL_len v.1.2.natAbs (by omega)
      unfold utoaL at this; omega
    · have := utoaL_len v.1.2.toNat (by omega)
      unfold utoaL at this; omega
  have hu := utoaL_len (v.1.2 % 18446744073709551616).toNat (by omega)
  have h2 : v.2.data.toList.length = v.2.size := by simp
  (repeat' split) <;> first | omega | (simp; done) | (simp; omega)

set_option maxHeartbeats 1000000 in
set_option maxRecDepth 100000 in
theorem one_any (B : Nat) (v : Value) (l : List UInt8) (kd n : Int) (s : ByteArray) (w : World) (h : BR B v l w) (hs : s.size ≤ 1048576) (hl : l.length ≤ 90000000) (n0 : -9223372036854775808 ≤ n) (n1 : n ≤ 9223372036854775807) :
    Calls Ybaf.prog 6 #[v, .agg #[.int .u8 kd, .int .i64 n, .string s]] w fun e w' => ∃ v', e = .returned v' ∧ BR B v' (l ++ oneL ((kd, n), s)) w' ∧ RowKit.Below B w w' := by
  obtain ⟨i5, hi5, hz50, hz51, hz52⟩ := info_parts info5
  have HH : Hid (BR B v l w) := h
  have hB := h.hB
  have ha : ∀ o, BR B v l (w.alloc o) := fun o => h.alloc o
  have hb : ∀ o, RowKit.Below B w (w.alloc o) := fun o => (RowKit.Below.refl _ _).alloc hB o
  have HA : Hid (∀ o, BR B v l (w.alloc o)) := ha
  have HBB : Hid (∀ o, RowKit.Below B w (w.alloc o)) := hb
  have ho := h.own
  obtain ⟨m, hm⟩ : ∃ m, l.length = m := ⟨_, rfl⟩
  rw [hm] at ho hl
  clear h ha hb
  by_cases k34 : kd = 3 ∨ kd = 4
  · have e : oneL ((kd, n), s) = quoteL s := by unfold oneL; rw [if_pos k34]
    rw [e]
    rcases k34 with rfl | rfl
    · go_enter Ybaf.func6, Ybaf.ntmps6
      go_wp2_with fail
      refine (zquote_any B v l s _ (HA.out _) hs (by omega)).mono ?_
      rintro e w' ⟨v', rfl, R, bl⟩
      go_wp2_with fail
      go_ret
      exact ⟨_, rfl, R, (HBB.out _).trans bl⟩
    · go_enter Ybaf.func6, Ybaf.ntmps6
      go_wp2_with fail
      refine (zquote_any B v l s _ (HA.out _) hs (by omega)).mono ?_
      rintro e w' ⟨v', rfl, R, bl⟩
      go_wp2_with fail
      go_ret
      exact ⟨_, rfl, R, (HBB.out _).trans bl⟩
  have k3 : kd ≠ 3 := fun e => k34 (.inl e)
  have k4 : kd ≠ 4 := fun e => k34 (.inr e)
  by_cases k1 : kd = 1
  · subst k1
    have e : oneL ((1, n), s) = Lib.itoa n := by unfold oneL; simp
    rw [e]
    by_cases hneg : n < 0
    · obtain ⟨u, hu⟩ : ∃ u : Nat, n.natAbs = u := ⟨_, rfl⟩
      have hwr : IntKind.u64.wrap (-IntKind.u64.wrap n) = (u : Int) := by rw [IntKind.wrap_u64, IntKind.wrap_u64]; omega
      have hit : Lib.itoa n = [45] ++ utoaL u := by unfold Lib.itoa utoaL; rw [if_pos hneg, hu]; rfl
      rw [hit]
      have hu64 : u < 18446744073709551616 := by omega
      clear hit hu e
      go_enter Ybaf.func6, Ybaf.ntmps6
      go_wp2_with (at_builtin; refine wpList_append_lies _ rfl (.tmp 23) (.tmp 24) 37 rfl B 5 i5 _ 1 1 Ybaf.underlying37 hi5 hz50 hz51 hz52 rfl (by decide) v m (Lib.byteCells l) rfl ((ho.alloc _).alloc _) ⟨w.heap.size + 1, 0, none⟩ 1 1 [.int .u8 45] rfl rfl (by have := news1 (w.alloc (Obj.cells #[.int .u8 1, .int .i64 n, .string s] 29)) (.int .u8 45) 5; rw [World.size_alloc] at this; exact this) (one_bytes [45]) (by decide) (by unfold maxLen; omega) (by omega) (by rw [World.size_alloc, World.size_alloc]; omega) (w.heap.size + 2) (by rw [World.size_alloc, World.size_alloc]) ?_; intro g1 cp1 wy o1 y1 z1 l1)
      have AA := BR.app (m := [45]) HH.out hm ((HBB.out _).alloc (by rw [World.size_alloc]; omega) _) o1 y1
      refine (utoa_any B _ (l ++ [45]) u _ AA.1 hu64 (by rw [List.length_append, hm]; simp; omega)).mono ?_
      rintro e w' ⟨v', rfl, R, bl⟩
      go_wp2_with fail
      go_ret
      have e3 : l ++ 45 :: utoaL u = (l ++ [45]) ++ utoaL u := by simp
      exact ⟨_, rfl, by rw [e3]; exact R, AA.2.trans bl⟩
    · obtain ⟨u, rfl⟩ : ∃ u : Nat, n = u := ⟨n.toNat, by omega⟩
      have hit : Lib.itoa (u : Int) = utoaL u := by unfold Lib.itoa utoaL; rw [if_neg hneg]; rfl
      rw [hit]
      have d : decide ((u : Int) < 0) = false := decide_eq_false hneg
      clear hit e
      go_enter Ybaf.func6, Ybaf.ntmps6
      go_wp2_with fail
      refine (utoa_any B _ l u _ (HA.out _) (by omega) (by omega)).mono ?_
      rintro e w' ⟨v', rfl, R, bl⟩
      go_wp2_with fail
      go_ret
      exact ⟨_, rfl, R, (HBB.out _).trans bl⟩
  by_cases k2 : kd = 2
  · subst k2
    have e : oneL ((2, n), s) = utoaL (n % 18446744073709551616).toNat := by unfold oneL; simp
    rw [e]
    obtain ⟨u, hu⟩ : ∃ u : Nat, (n % 18446744073709551616).toNat = u := ⟨_, rfl⟩
    have hu64 : u < 18446744073709551616 := by omega
    have hw : IntKind.u64.wrap n = (u : Int) := by rw [IntKind.wrap_u64]; omega
    rw [hu]
    clear hu e
    go_enter Ybaf.func6, Ybaf.ntmps6
    go_wp2_with fail
    refine (utoa_any B _ l u _ (HA.out _) hu64 (by omega)).mono ?_
    rintro e w' ⟨v', rfl, R, bl⟩
    go_wp2_with fail
    go_ret
    exact ⟨_, rfl, R, (HBB.out _).trans bl⟩
  by_cases k7 : kd = 7
  · subst k7
    have e : oneL ((7, n), s) = [78, 85, 76, 76] := by unfold oneL; simp
    rw [e]
    go_enter Ybaf.func6, Ybaf.ntmps6
    go_wp2_with (at_builtin; refine Lib.wpList_append_own_string _ rfl (.tmp 40) _ 37 9 rfl B 5 i5 Ybaf.underlying37 Ybaf.underlying9 hi5 hz50 hz51 hz52 v m _ rfl (ho.alloc _) ⟨#[78, 85, 76, 76]⟩ rfl (by unfold maxLen; simp [ByteArray.size]; omega) (by simp [ByteArray.size]; omega) (by rw [World.size_alloc]; omega) ?_; intro v' wy o1 y1 z1)
    have AA := BR.app (m := [78, 85, 76, 76]) HH.out hm (HBB.out _) o1 y1
    go_ret
    exact ⟨_, rfl, AA.1, AA.2⟩
  by_cases k8 : kd = 8
  · subst k8
    have e : oneL ((8, n), s) = [77, 65, 88, 86, 65, 76, 85, 69] := by unfold oneL; simp
    rw [e]
    go_enter Ybaf.func6, Ybaf.ntmps6
    go_wp2_with (at_builtin; refine Lib.wpList_append_own_string _ rfl (.tmp 44) _ 37 9 rfl B 5 i5 Ybaf.underlying37 Ybaf.underlying9 hi5 hz50 hz51 hz52 v m _ rfl (ho.alloc _) ⟨#[77, 65, 88, 86, 65, 76, 85, 69]⟩ rfl (by unfold maxLen; simp [ByteArray.size]; omega) (by simp [ByteArray.size]; omega) (by rw [World.size_alloc]; omega) ?_; intro v' wy o1 y1 z1)
    have AA := BR.app (m := [77, 65, 88, 86, 65, 76, 85, 69]) HH.out hm (HBB.out _) o1 y1
    go_ret
    exact ⟨_, rfl, AA.1, AA.2⟩
  · have e : oneL ((kd, n), s) = s.data.toList := by unfold oneL; simp [k3, k4, k1, k2, k7, k8]
    rw [e]
    go_enter Ybaf.func6, Ybaf.ntmps6
    go_wp2_with (at_builtin; refine Lib.wpList_append_own_string _ rfl (.tmp 46) _ 37 9 rfl B 5 i5 Ybaf.underlying37 Ybaf.underlying9 hi5 hz50 hz51 hz52 v m _ rfl (ho.alloc _) s rfl (by unfold maxLen; omega) (by omega) (by rw [World.size_alloc]; omega) ?_; intro v' wy o1 y1 z1)
    have hsz : s.data.toList.length = s.size := by simp
    have AA := BR.app (m := s.data.toList) HH.out hm (HBB.out _) (by rw [hsz]; exact o1) y1
    go_ret
    exact ⟨_, rfl, AA.1, AA.2⟩
end Go.Proofs.YbulkdneaFmt
