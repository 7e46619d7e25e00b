/- The law LawS5707CWhole: the program's order on signed magnitudes is the order of the keys. -/
import Derived.Test.YbulkdneaRows
import Derived.WalkKit
import Derived.ProofKit
import Derived.OpenShut
import Derived.ShutString
import Derived.Laws.BitsAllLaws
namespace Go.Proofs.Ybulkdnea.lawS5707CWhole
open Go.ChangeShapes Go.WideShapes Go.ChangeAt Go.RowKit
open Go.ChangeMaps (open_string shut_string)

theorem own : ownKnob Yba.prog.godebug = none := by kernel_rfl

/-! ### STEP 1: THE WALK -/
theorem nan_any (a : Int) (w : World) : Calls Yba.prog 9 #[.int .u64 a] w fun e w' => e = .returned (.bool false) ∧ w' = w := by
  go_enter Yba.func9, Yba.ntmps9
  go_wp2
  go_ret
  exact ⟨by simp, rfl⟩
def cmp3 (a b : Int) : Int := if a < b then -1 else if b < a then 1 else 0
theorem compare_any (a b : Int) (w : World) : Calls Yba.prog 7 #[.int .u64 a, .int .u64 b] w fun e w' => e = .returned (.int .i64 (cmp3 a b)) ∧ w' = w := by
  rcases Int.lt_trichotomy a b with h | h | h
  · have e1 : cmp3 a b = -1 := by unfold cmp3; rw [if_pos h]
    rw [e1]
    go_enter Yba.func7, Yba.ntmps7
    go_wp2_with fail
    refine (nan_any a _).mono ?_
    rintro e w' ⟨rfl, rfl⟩
    go_wp2_with fail
    refine (nan_any b _).mono ?_
    rintro e w' ⟨rfl, rfl⟩
    go_wp2_with fail
    go_ret
    exact ⟨rfl, rfl⟩
  · subst h
    have e1 : cmp3 a a = 0 := by unfold cmp3; rw [if_neg (by omega), if_neg (by omega)]
    rw [e1]
    have d1 : decide (a < a) = false := decide_eq_false (by omega)
    go_enter Yba.func7, Yba.ntmps7
    go_wp2_with fail
    refine (nan_any a _).mono ?_
    rintro e w' ⟨rfl, rfl⟩
    go_wp2_with fail
    refine (nan_any a _).mono ?_
    rintro e w' ⟨rfl, rfl⟩
    go_wp2_with fail
    go_ret
    exact ⟨rfl, rfl⟩
  · have e1 : cmp3 a b = 1 := by unfold cmp3; rw [if_neg (by omega), if_pos h]
    rw [e1]
    have d1 : decide (a < b) = false := decide_eq_false (by omega)
    go_enter Yba.func7, Yba.ntmps7
    go_wp2_with fail
    refine (nan_any a _).mono ?_
    rintro e w' ⟨rfl, rfl⟩
    go_wp2_with fail
    refine (nan_any b _).mono ?_
    rintro e w' ⟨rfl, rfl⟩
    go_wp2_with fail
    go_ret
    exact ⟨rfl, rfl⟩
theorem not64 (m : Int) (h0 : 0 ≤ m) (h1 : m < 18446744073709551616) : bits .xor .u64 IntKind.u64.max m = 18446744073709551615 - m := by
  rw [show IntKind.u64.max = 18446744073709551615 from by decide, u64_xor 18446744073709551615 m (by omega) (by omega) h0 h1]
  have h2 : m.toNat < 2 ^ 64 := by omega
  have : (18446744073709551615 : Int).toNat ^^^ m.toNat = 18446744073709551615 - m.toNat := by
    have e := congrArg BitVec.toNat (show BitVec.allOnes 64 ^^^ BitVec.ofNat 64 m.toNat = ~~~ BitVec.ofNat 64 m.toNat from BitVec.allOnes_xor)
    rw [BitVec.toNat_xor, BitVec.toNat_not, BitVec.toNat_allOnes, BitVec.toNat_ofNat, Nat.mod_eq_of_lt h2] at e
    exact e
  rw [this]; omega
theorem key_any (n : Bool) (m : Int) (hm : (Lit.int .u64 m).wf = true) (w : World) : Calls Yba.prog 8 #[.bool n, .int .u64 m] w fun e w' => e = .returned (.tuple #[.int .u8 (if n then 0 else 1), .int .u64 (if n then 18446744073709551615 - m else m)]) ∧ w' = w := by
  cases n
  · go_enter Yba.func8, Yba.ntmps8
    go_wp2
    exact bodyPost_ret (v := .tuple #[.int .u8 1, .int .u64 m]) (by simp [results, Yba.results8, go_sem]) rfl ⟨rfl, rfl⟩
  · go_enter Yba.func8, Yba.ntmps8
    go_wp2
    have hb := bounds_u64 hm
    exact bodyPost_ret (v := .tuple #[.int .u8 0, .int .u64 (bits .xor .u64 IntKind.u64.max m)]) (by simp [results, Yba.results8, go_sem]) rfl ⟨by rw [not64 m hb.1 (by omega)], rfl⟩
theorem bool_any (a b : Bool) (w : World) : Calls Yba.prog 6 #[.bool a, .bool b] w fun e w' => e = .returned (.int .i64 (if a = b then 0 else if a then 1 else -1)) ∧ w' = w := by
  cases a <;> cases b
  all_goals
    go_enter Yba.func6, Yba.ntmps6
    go_wp2
    go_ret
    exact ⟨rfl, rfl⟩


def ref (n1 : Bool) (m1 : Int) (n2 : Bool) (m2 : Int) : Int :=
  if n1 = n2 then cmp3 (if n1 then 18446744073709551615 - m1 else m1) (if n1 then 18446744073709551615 - m2 else m2) else if n1 then -1 else 1
theorem cmp3_neg (a b : Int) : cmp3 (18446744073709551615 - a) (18446744073709551615 - b) = cmp3 b a := by
  unfold cmp3
  by_cases h : b < a
  · rw [if_pos (by omega), if_pos h]
  · by_cases h2 : a < b
    · rw [if_neg (by omega), if_pos (by omega), if_neg h, if_pos h2]
    · rw [if_neg (by omega), if_neg (by omega), if_neg h, if_neg h2]
theorem wide_any (n1 : Bool) (m1 : Int) (n2 : Bool) (m2 : Int) (w0 w : World) (H0 : Grown w0 w) : Calls Yba.prog 4 #[.agg #[.bool n1, .int .u64 m1], .agg #[.bool n2, .int .u64 m2]] w fun e w' => e = .returned (.int .i64 (ref n1 m1 n2 m2)) ∧ Grown w0 w' := by
  have HH : Hid (_) := H0
  clear H0
  cases n1 <;> cases n2
  case false.false =>
    go_enter Yba.func4, Yba.ntmps4
    go_wp2_with fail
    refine (compare_any m1 m2 _).mono ?_
    rintro e w' ⟨rfl, rfl⟩
    go_wp2_with fail
    go_ret
    exact ⟨rfl, by repeat (first | exact HH.out | apply Grown.drew | apply Grown.alloc)⟩
  case true.true =>
    go_enter Yba.func4, Yba.ntmps4
    go_wp2_with fail
    refine (compare_any m2 m1 _).mono ?_
    rintro e w' ⟨rfl, rfl⟩
    go_wp2_with fail
    go_ret
    exact ⟨by rw [← cmp3_neg]; rfl, by repeat (first | exact HH.out | apply Grown.drew | apply Grown.alloc)⟩
  case false.true =>
    go_enter Yba.func4, Yba.ntmps4
    go_wp2_with fail
    refine (bool_any true false _).mono ?_
    rintro e w' ⟨rfl, rfl⟩
    go_wp2_with fail
    go_ret
    exact ⟨rfl, by repeat (first | exact HH.out | apply Grown.drew | apply Grown.alloc)⟩
  case true.false =>
    go_enter Yba.func4, Yba.ntmps4
    go_wp2_with fail
    refine (bool_any false true _).mono ?_
    rintro e w' ⟨rfl, rfl⟩
    go_wp2_with fail
    go_ret
    exact ⟨rfl, by repeat (first | exact HH.out | apply Grown.drew | apply Grown.alloc)⟩

theorem expect_any (n1 : Bool) (m1 : Int) (n2 : Bool) (m2 : Int) (h1 : (Lit.int .u64 m1).wf = true) (h2 : (Lit.int .u64 m2).wf = true) (w : World) : Calls Yba.prog 5 #[.bool n1, .int .u64 m1, .bool n2, .int .u64 m2] w fun e w' => e = .returned (.int .i64 (ref n1 m1 n2 m2)) ∧ w' = w := by
  by_cases hn : n1 = n2
  · subst hn
    have e0 : ref n1 m1 n1 m2 = cmp3 (if n1 then 18446744073709551615 - m1 else m1) (if n1 then 18446744073709551615 - m2 else m2) := by unfold ref; rw [if_pos rfl]
    rw [e0]
    clear e0
    have K1 := key_any n1 m1 h1
    have K2 := key_any n1 m2 h2
    generalize (if n1 = true then 18446744073709551615 - m1 else m1) = x at K1 ⊢
    generalize (if n1 = true then 18446744073709551615 - m2 else m2) = y at K2 ⊢
    have K1' : Hid (∀ w, _) := K1
    have K2' : Hid (∀ w, _) := K2
    clear K1 K2
    rcases Int.lt_trichotomy x y with h | h | h
    · have e1 : cmp3 x y = -1 := by unfold cmp3; rw [if_pos h]
      rw [e1]
      cases n1
      all_goals
        go_enter Yba.func5, Yba.ntmps5
        go_wp2_with fail
        refine (K1'.out _).mono ?_
        rintro e w' ⟨rfl, rfl⟩
        go_wp2_with fail
        refine (K2'.out _).mono ?_
        rintro e w' ⟨rfl, rfl⟩
        go_wp2_with fail
        go_ret
        exact ⟨rfl, rfl⟩
    · subst h
      have e1 : cmp3 x x = 0 := by unfold cmp3; rw [if_neg (by omega), if_neg (by omega)]
      rw [e1]
      have d1 : decide (x < x) = false := decide_eq_false (by omega)
      cases n1
      all_goals
        go_enter Yba.func5, Yba.ntmps5
        go_wp2_with fail
        refine (K1'.out _).mono ?_
        rintro e w' ⟨rfl, rfl⟩
        go_wp2_with fail
        refine (K2'.out _).mono ?_
        rintro e w' ⟨rfl, rfl⟩
        go_wp2_with fail
        go_ret
        exact ⟨rfl, rfl⟩
    · have e1 : cmp3 x y = 1 := by unfold cmp3; rw [if_neg (by omega), if_pos h]
      rw [e1]
      have d1 : decide (x < y) = false := decide_eq_false (by omega)
      cases n1
      all_goals
        go_enter Yba.func5, Yba.ntmps5
        go_wp2_with fail
        refine (K1'.out _).mono ?_
        rintro e w' ⟨rfl, rfl⟩
        go_wp2_with fail
        refine (K2'.out _).mono ?_
        rintro e w' ⟨rfl, rfl⟩
        go_wp2_with fail
        go_ret
        exact ⟨rfl, rfl⟩
  · cases n1 <;> cases n2
    case false.false => exact absurd rfl hn
    case true.true => exact absurd rfl hn
    all_goals
      clear hn
      go_enter Yba.func5, Yba.ntmps5
      go_wp2_with fail
      refine (key_any _ m1 h1 _).mono ?_
      rintro e w' ⟨rfl, rfl⟩
      go_wp2_with fail
      refine (key_any _ m2 h2 _).mono ?_
      rintro e w' ⟨rfl, rfl⟩
      go_wp2_with fail
      go_ret
      exact ⟨rfl, rfl⟩

theorem walk (a0 : Bool) (a1 : Int) (a2 : Bool) (a3 : Int) (w1 : (Lit.int .u64 a1).wf = true) (w3 : (Lit.int .u64 a3).wf = true) (w : World) :
    Calls Yba.prog 3 #[.bool a0, .int .u64 a1, .bool a2, .int .u64 a3] w fun e w' => e = .returned (.bool true) ∧ Grown w w' := by
  go_enter Yba.func3, Yba.ntmps3
  go_wp2_with fail
  refine (wide_any a0 a1 a2 a3 w _ (Grown.alloc (Grown.alloc (Grown.refl w) _ _) _ _)).mono ?_
  rintro e w' ⟨rfl, g1⟩
  have G1 : Hid (_) := g1
  clear g1
  go_wp2_with fail
  refine (expect_any a0 a1 a2 a3 w1 w3 _).mono ?_
  rintro e w'' ⟨rfl, rfl⟩
  go_wp2_with fail
  go_ret
  exact ⟨by simp, G1.out⟩

/-! ### THE ROW's STEP: WRITTEN OUT: LEAVE IT -/
set_option maxRecDepth 100000 in
theorem lifted (os : Os) (started : os.Started) (H : Type) (enc : TypeId × Value → H) :
    ReturnsInHanded {} Yba.checked os 3 .any (Rows.lawS5707CWholeSpec.pre6 enc Yba.prog Yba.f3 Rows.lawS5707CWholeRow.domain false) (Rows.lawS5707CWholeSpec.post enc Yba.prog Yba.f3 false true false false) := by
  refine returnsInHanded_of_change (C := Yba.checked) own started (by kernel_rfl) Yba.func3
    (ChangeSpec.witness6 (enc := enc) (C := Yba.checked) false ⟨#[], #[.bool false, .int .u64 0, .bool false, .int .u64 0], []⟩ 8 (by kernel_rfl) (by kernel_rfl) (by kernel_rfl) (by kernel_rfl)) ?_
  intro W base args ds gs before hval0 hW hcnd _
  have hval : ∀ (j : Nat) t v, Yba.f3.params[j]? = some t → args[j]? = some v → Value.okWide Yba.prog W .any base t v := hval0
  have hW' := hW
  obtain ⟨p, q, hA0, hV, rfl, hfz, hnd⟩ := hW
  have hA : DataW.TrodAll enc Yba.prog W 0 (fun _ => true) true Yba.f3.params.toList args.toList ds p := hA0
  rw [Yba.params3] at hA hval
  obtain ⟨v0, vs0, d0, ds0, p0, q0, hargs, rfl, rfl, h0, r0⟩ := trodAll_cons hA
  obtain ⟨v1, vs1, d1, ds1, p1, q1, rfl, rfl, rfl, h1, r1⟩ := trodAll_cons r0
  obtain ⟨v2, vs2, d2, ds2, p2, q2, rfl, rfl, rfl, h2, r2⟩ := trodAll_cons r1
  obtain ⟨v3, vs3, d3, ds3, p3, q3, rfl, rfl, rfl, h3, r3⟩ := trodAll_cons r2
  obtain ⟨rfl, rfl, rfl⟩ := trodAll_nil r3
  obtain rfl : args = #[v0, v1, v2, v3] := by cases args; simp_all
  obtain ⟨rfl, rfl⟩ := trodVars_none hV
  obtain ⟨a0, rfl, rfl, rfl⟩ := open_bool Yba.underlying4 (hval 0 4 v0 rfl rfl) h0
  obtain ⟨a1, rfl, rfl, rfl, w1⟩ := open_int Yba.underlying22 (hval 1 22 v1 rfl rfl) h1
  obtain ⟨a2, rfl, rfl, rfl⟩ := open_bool Yba.underlying4 (hval 2 4 v2 rfl rfl) h2
  obtain ⟨a3, rfl, rfl, rfl, w3⟩ := open_int Yba.underlying22 (hval 3 22 v3 rfl rfl) h3
  clear hA0 hval0
  simp only [List.append_nil] at hW'
  refine (walk a0 a1 a2 a3 w1 w3 W).mono fun e W' ⟨he, hg⟩ => ?_
  subst he
  exact ⟨_, rfl, post_of_same (pa := []) (pv := []) hW' (fun _ _ _ => (trodAll_cons_mk (shut_bool Yba.underlying4 _) trodAll_mk0)) (fun sp _ => (trodAll_cons_mk (shut_bool Yba.underlying4 _) (trodAll_cons_mk (shut_int Yba.underlying22 w1) (trodAll_cons_mk (shut_bool Yba.underlying4 _) (trodAll_cons_mk (shut_int Yba.underlying22 w3) trodAll_mk0))))) (fun _ _ => rfl) rfl
    (hg.frame _) hg.2.1 (ok_one (by kernel_rfl) rfl (okWide_bool_mk Yba.underlying4 _))⟩

theorem over : Rows.lawS5707CWholeRow.holds Yba.pinned (OpenSpec.ofChange Rows.lawS5707CWholeSpec) :=
  OpenClaim.holds_of_wide 3 Yba.f3 rfl rfl rfl rfl rfl rfl rfl ⟨rfl, rfl, rfl, rfl, rfl⟩ rfl rfl rfl rfl rfl (by kernel_rfl) Yba.func3 (by kernel_rfl)
    (of_decide_eq_true (by kernel_rfl)) (by unfold Func.isWrapper; first | (rw [if_pos (by decide +kernel)]; kernel_rfl) | (rw [if_neg (by decide +kernel)]; exact ⟨rfl, rfl⟩))
    (fun os started H enc _ => lifted os started H enc)

/-- ████ THE STATEMENT ████ -/
theorem proved : Rows.LawS5707CWholeSaid :=
  over
end Go.Proofs.Ybulkdnea.lawS5707CWhole
