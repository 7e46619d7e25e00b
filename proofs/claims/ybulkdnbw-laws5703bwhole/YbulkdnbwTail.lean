/- A REGION THAT DRAWS ITS ORDER: a head whose operations are quiet in a class of worlds, behind it one forced chain. The library has the head alone ('wp_region_quiet') and, over one world, head and chain ('wp_region_still_tail'); here both at once. -/
import Derived.StillTail
import Derived.Deep.QuietTactic
import Derived.Shelf.SlSortCmp.QuietGrown
namespace Go.Proofs.Ybulkdnbw
open Go Go.Sort

section
variable {P : Program} {ops : Array Oper} {md : Region.Mode} {C : World → Prop}

/-- Whatever order the head takes; behind it 'L'. -/
def headAny (P : Program) (md : Region.Mode) (ops : Array Oper) (C : World → Prop) (n : Nat) (L : Array Bool → Act → Prop) : Nat → Array Bool → Act → Prop
  | 0, listed, a => L listed a
  | f + 1, listed, a =>
    Region.ready md ops listed ≠ [] ∧ ∀ i ∈ Region.ready md ops listed, i < n ∧ qOp P ops C i (headAny P md ops C n L f (listed.setIfInBounds i true)) a

theorem headAny_wp {n g : Nat} {L : Array Bool → Act → Prop} {Q' : Exit → Act → World → Prop} (hL : ∀ listed a w, C w → L listed a → wpAny P md ops Q' g listed a w) :
    ∀ (f : Nat) (listed : Array Bool) (a : Act) (w : World), C w → headAny P md ops C n L f listed a → wpAny P md ops Q' (f + g) listed a w
  | 0, listed, a, w, hw, h => by rw [Nat.zero_add]; exact hL _ _ _ hw h
  | f + 1, listed, a, w, hw, h => by
    rw [show f + 1 + g = (f + g) + 1 by omega]
    exact ⟨fun h0 => absurd h0 h.1, fun i hi => wpOp_of_qOp hw (fun a' w' hw' h' => headAny_wp hL f _ a' w' hw' h') (h.2 i hi).2⟩

theorem headAny_first {n i : Nat} {oi : Oper} {v : Value} {L : Array Bool → Act → Prop} (hi : ops[i]? = some oi) (hsel : ∀ (j : Nat) (o : Oper) cs b, ops[j]? = some o → o.op ≠ .select cs b)
    (hT : ∀ listed, HeadInv md ops n listed → ∀ i, i < n → listed.getD i true = false → ∀ t, n ≤ t → t ∉ Region.ready md ops listed) (hin : i < n)
    (hdone : ∀ listed a, L listed a → ∀ j ∈ Region.ready md ops listed, n ≤ j) :
    ∀ (f : Nat) (listed : Array Bool) (a : Act), HeadInv md ops n listed →
      (∀ j oj, ops[j]? = some oj → j ≠ i → listed.getD j true = false → (∀ e ∈ oj.after, Region.binds md e = true → e.on ≠ i) → oi.apart ops oj = true) →
      i ∈ Region.ready md ops listed → YieldsIn P ops C oi v a →
      headAny P md ops C n L f (listed.setIfInBounds i true) (a.put oi.dst v) → headAny P md ops C n L (f + 1) listed a := by
  intro f
  induction f with
  | zero =>
    intro listed a inv _ hr hy H
    have hun := (mem_ready.1 hr).1
    refine ⟨fun h => (by rw [h] at hr; cases hr), fun j hj => ?_⟩
    have hjn : j < n := by
      rcases Nat.lt_or_ge j n with h | h
      · exact h
      · exact absurd hj (hT listed inv i hin hun j h)
    refine ⟨hjn, ?_⟩
    by_cases hji : j = i
    · subst hji; exact hy.qOp hi H
    · have := hdone _ _ H j (ready_mono hj hji)
      omega
  | succ f ih =>
    intro listed a inv hfree hr hy H
    have hun := (mem_ready.1 hr).1
    refine ⟨fun h => (by rw [h] at hr; cases hr), fun j hj => ?_⟩
    have hjn : j < n := by
      rcases Nat.lt_or_ge j n with h | h
      · exact h
      · exact absurd hj (hT listed inv i hin hun j h)
    refine ⟨hjn, ?_⟩
    by_cases hji : j = i
    · subst hji; exact hy.qOp hi H
    · have h1 := (H.2 j (ready_mono hj hji)).2
      obtain ⟨hjun, oj, hoj, hall⟩ := mem_ready.1 hj
      have hnot : ∀ e ∈ oj.after, Region.binds md e = true → e.on ≠ i := fun e he hb heq => by
        have h1 := hall e he hb
        rw [heq, getD_both hun] at h1
        cases h1
      have h2 := qOp_put hoj (hfree j oj hoj hji hjun hnot) (fun cs b => hsel i oi cs b hi) (fun cs b => hsel j oj cs b hoj) hy h1
      have hfree' : ∀ k ok, ops[k]? = some ok → k ≠ i → (listed.setIfInBounds j true).getD k true = false →
          (∀ e ∈ ok.after, Region.binds md e = true → e.on ≠ i) → oi.apart ops ok = true := fun k ok hk hki hun hno => by
        refine hfree k ok hk hki ?_ hno
        by_cases hjk : j = k
        · subst hjk; exact hjun
        · rw [getD_set_ne true hjk] at hun; exact hun
      refine qOp_mono (fun a' h3 => ih (listed.setIfInBounds j true) a' (inv.set hj hjn) hfree' (ready_mono hr (Ne.symm hji)) h3.1 ?_) h2
      rw [Array.setIfInBounds_comm _ _ hji]
      exact h3.2

/-- The head may be taken in the order of the text; behind it 'fin' of what has come up. -/
def lexHd (md : Region.Mode) (ops : Array Oper) (fin : Array Bool → Bool) : Nat → Nat → Array Bool → Bool
  | 0, _, listed => fin listed
  | f + 1, k, listed => (Region.ready md ops listed).contains k && Region.free md ops listed k && lexHd md ops fin f (k + 1) (listed.setIfInBounds k true)

theorem headAny_lex {n : Nat} {Lq : Act → Prop} {fin : Array Bool → Bool} (hsel : Region.noSelect ops = true)
    (hT : ∀ listed, HeadInv md ops n listed → ∀ i, i < n → listed.getD i true = false → ∀ t, n ≤ t → t ∉ Region.ready md ops listed)
    (hF : ∀ listed, fin listed = true → ∀ j ∈ Region.ready md ops listed, n ≤ j) :
    ∀ (l : List Oper) (k : Nat) (listed : Array Bool) (a : Act), (∀ j, j < l.length → l[j]? = ops[k + j]?) → k + l.length = n → HeadInv md ops n listed →
    lexHd md ops fin l.length k listed = true → wpQuiet P ops C Lq l a →
    headAny P md ops C n (fun listed' a' => fin listed' = true ∧ Lq a') l.length listed a
  | [], _, _, _, _, _, _, hB, h => ⟨by simpa [lexHd] using hB, h⟩
  | o :: l, k, listed, a, hl, hk, inv, hB, h => by
    have h0 : ops[k]? = some o := by simpa using (hl 0 (by simp)).symm
    simp only [List.length_cons, lexHd, Bool.and_eq_true] at hB
    obtain ⟨⟨hr, hf⟩, hB'⟩ := hB
    have hkn : k < n := by simp only [List.length_cons] at hk; omega
    have hr' : k ∈ Region.ready md ops listed := by simpa using hr
    have hst : qOp P ops C k (wpQuiet P ops C Lq l) a := by unfold qOp; simp only [h0]; exact h
    obtain ⟨v, hy, hK⟩ := yieldsIn_of_qOp h0 hst
    exact headAny_first h0 (Region.noSelect_spec hsel) hT hkn (fun listed' a' hL => hF listed' hL.1) l.length listed a inv (Region.free_spec h0 hf) hr' hy
      (headAny_lex hsel hT hF l (k + 1) _ _ (fun j hj => by have := hl (j + 1) (by simp; omega); simpa [Nat.add_assoc, Nat.add_comm 1 j] using this) (by simp only [List.length_cons] at hk; omega) (inv.set hr' hkn) hB' hK)

theorem headInv_start (n : Nat) : HeadInv md ops n (Array.replicate ops.size false) :=
  ⟨by simp, fun j oj _ hl => (by rw [getD_replicate_false] at hl; cases hl), fun t _ ht => getD_in (by simpa using ht) (getD_replicate_false _ _)⟩

/-- THE HEAD QUIET IN THE CLASS; what is left, from every world of the class, in whatever order. -/
theorem wp_region_quiet_rest {id : Nat} {Q : Exit → Act → World → Prop} {a : Act} {w : World} {l : List Oper} (n : Nat) {fin : Array Bool → Bool} (hm : P.follows .mixedOrders = true) (hn : n ≤ l.length)
    (hsel : Region.noSelect l.toArray = true) (hlex : lexHd .any l.toArray fin n 0 (Array.replicate l.toArray.size false) = true)
    (hT : ∀ listed, HeadInv .any l.toArray n listed → ∀ i, i < n → listed.getD i true = false → ∀ t, n ≤ t → t ∉ Region.ready .any l.toArray listed)
    (hF : ∀ listed, fin listed = true → ∀ j ∈ Region.ready .any l.toArray listed, n ≤ j) (hC : C { w with drawn := w.drawn + 1 })
    {Lq : Act → Prop} (hL : ∀ listed a' w', C w' → fin listed = true → Lq a' → wpAny P .any l.toArray Q (l.toArray.size - n) listed a' w')
    (h : wpQuiet P l.toArray C Lq (l.take n) a) : (Code.region id l.toArray true).wp P Q a w := by
  have htl : (l.take n).length = n := by simp; omega
  have H := headAny_lex (md := .any) (fin := fin) hsel hT hF (l.take n) 0 _ a (fun j hj => by
    have hj' : j < n := by rw [htl] at hj; exact hj
    simp [hj']) (by simpa using htl) (headInv_start n) (by rw [htl]; exact hlex) h
  refine wp_region_any hm ?_
  have := headAny_wp (Q' := Q) (g := l.toArray.size - n) (fun listed a' w' hw' hh => hL listed a' w' hw' hh.1 hh.2) _ _ _ _ hC H
  rw [htl, show n + (l.toArray.size - n) = l.toArray.size by simp; omega] at this
  exact this

theorem lexHd_of_lexHead {g : Nat} : ∀ (f k : Nat) (listed : Array Bool), Region.lexHead md ops g f k listed = true → lexHd md ops (Region.seqB md ops g (k + f)) f k listed = true
  | 0, k, listed, h => by simpa [Region.lexHead, lexHd] using h
  | f + 1, k, listed, h => by
    simp only [Region.lexHead, lexHd, Bool.and_eq_true] at h ⊢
    have := lexHd_of_lexHead f (k + 1) _ h.2
    rw [show k + 1 + f = k + (f + 1) by omega] at this
    exact ⟨h.1, this⟩

/-- THE HEAD QUIET IN THE CLASS, THE TAIL ONE CHAIN: walked once, from every world of the class. -/
theorem wp_region_quiet_tail {id : Nat} {Q : Exit → Act → World → Prop} {a : Act} {w : World} {l : List Oper} (n : Nat) (hm : P.follows .mixedOrders = true) (hB : Region.lexTailB .any l.toArray n = true)
    (hC : C { w with drawn := w.drawn + 1 })
    (h : wpQuiet P l.toArray C (fun a' => ∀ w', C w' → wpList P l.toArray Q (l.drop n) a' w') (l.take n) a) : (Code.region id l.toArray true).wp P Q a w := by
  simp only [Region.lexTailB, Bool.and_eq_true, decide_eq_true_eq] at hB
  obtain ⟨⟨⟨⟨hsel, hn⟩, hs⟩, hc⟩, hlex⟩ := hB
  have hn' : n < l.length := by simpa using hn
  have hdl : (l.drop n).length = l.toArray.size - n := by simp
  have hlex' := lexHd_of_lexHead _ _ _ hlex
  rw [Nat.zero_add] at hlex'
  refine wp_region_quiet_rest n hm (by omega) hsel hlex' (fun listed inv i hi hun t ht => tail_waits hs hc hn inv _ i rfl hi hun t ht) (fun listed hf => seqB_ready hf) hC ?_ h
  intro listed a' w' hw' hf hL
  have := wpAny_of_seq (md := .any) (Q' := Q) (l.drop n) n listed a' w' (fun j => by simp [List.getElem?_drop]) (by rw [hdl]; exact hf) (hL w' hw')
  rwa [hdl] at this

/-- .. at the class 'w, some draws on, some blocks laid behind it'. -/
theorem wp_region_grown_tail {id : Nat} {Q : Exit → Act → World → Prop} {a : Act} {w : World} {l : List Oper} (n : Nat) (hm : P.follows .mixedOrders = true) (hB : Region.lexTailB .any l.toArray n = true)
    (h : wpQuiet P l.toArray (fun w' => ∃ p : GrownBy, w' = grow (w.drewN p.n) p.os) (fun a' => ∀ w', (∃ p : GrownBy, w' = grow (w.drewN p.n) p.os) → wpList P l.toArray Q (l.drop n) a' w') (l.take n) a) : (Code.region id l.toArray true).wp P Q a w :=
  wp_region_quiet_tail (C := fun w' => ∃ p : GrownBy, w' = grow (w.drewN p.n) p.os) n hm hB ⟨⟨1, #[]⟩, by rw [grow_empty]; rfl⟩ h

/-- .. at the class 'w, some draws on'. -/
theorem wp_region_drawn_tail {id : Nat} {Q : Exit → Act → World → Prop} {a : Act} {w : World} {l : List Oper} (n : Nat) (hm : P.follows .mixedOrders = true) (hB : Region.lexTailB .any l.toArray n = true)
    (h : wpQuiet P l.toArray (fun w' => ∃ n, w' = w.drewN n) (fun a' => ∀ w', (∃ n, w' = w.drewN n) → wpList P l.toArray Q (l.drop n) a' w') (l.take n) a) : (Code.region id l.toArray true).wp P Q a w :=
  wp_region_quiet_tail (C := fun w' => ∃ n, w' = w.drewN n) n hm hB ⟨1, rfl⟩ h

/-! ### an exchange: a head of quiet operations, named by their numbers; behind it two addresses and two stores -/
def headAnyI (P : Program) (md : Region.Mode) (ops : Array Oper) (C : World → Prop) (H : Nat → Bool) (L : Array Bool → Act → Prop) : Nat → Array Bool → Act → Prop
  | 0, listed, a => L listed a
  | f + 1, listed, a =>
    Region.ready md ops listed ≠ [] ∧ ∀ i ∈ Region.ready md ops listed, H i = true ∧ qOp P ops C i (headAnyI P md ops C H L f (listed.setIfInBounds i true)) a

theorem headAnyI_wp {H : Nat → Bool} {g : Nat} {L : Array Bool → Act → Prop} {Q' : Exit → Act → World → Prop} (hL : ∀ listed a w, C w → L listed a → wpAny P md ops Q' g listed a w) :
    ∀ (f : Nat) (listed : Array Bool) (a : Act) (w : World), C w → headAnyI P md ops C H L f listed a → wpAny P md ops Q' (f + g) listed a w
  | 0, listed, a, w, hw, h => by rw [Nat.zero_add]; exact hL _ _ _ hw h
  | f + 1, listed, a, w, hw, h => by
    rw [show f + 1 + g = (f + g) + 1 by omega]
    exact ⟨fun h0 => absurd h0 h.1, fun i hi => wpOp_of_qOp hw (fun a' w' hw' h' => headAnyI_wp hL f _ a' w' hw' h') (h.2 i hi).2⟩

/-- What has come up is closed under what it waited for. -/
def ClosedL (md : Region.Mode) (ops : Array Oper) (listed : Array Bool) : Prop :=
  ∀ j oj, ops[j]? = some oj → listed.getD j false = true → ∀ e ∈ oj.after, Region.binds md e = true → listed.getD e.on false = true

theorem ClosedL.set {i : Nat} {listed : Array Bool} (inv : ClosedL md ops listed) (hi : i ∈ Region.ready md ops listed) : ClosedL md ops (listed.setIfInBounds i true) := by
  obtain ⟨_, oi, hoi, hall⟩ := mem_ready.1 hi
  intro j oj hj hl e he hb
  by_cases hij : i = j
  · subst hij
    have : oj = oi := Option.some.inj (hj.symm.trans hoi)
    subst this
    exact getD_set_true (hall e he hb)
  · rw [getD_set_ne false hij] at hl
    exact getD_set_true (inv j oj hj hl e he hb)

/-- .. and x has come up. -/
structure InvL (md : Region.Mode) (ops : Array Oper) (x : Nat) (listed : Array Bool) : Prop where
  closed : ClosedL md ops listed
  has : listed.getD x true = true
theorem InvL.set {x i : Nat} {listed : Array Bool} (inv : InvL md ops x listed) (hi : i ∈ Region.ready md ops listed) : InvL md ops x (listed.setIfInBounds i true) := by
  refine ⟨inv.closed.set hi, ?_⟩
  by_cases h : i = x
  · subst h
    have := (mem_ready.1 hi).1
    rw [inv.has] at this; cases this
  · rw [getD_set_ne true h]; exact inv.has

/-- Nothing beyond the head comes up before the head is through. -/
def TailWaits (md : Region.Mode) (ops : Array Oper) (x : Nat) (H : Nat → Bool) : Prop :=
  ∀ listed, InvL md ops x listed → ∀ i, H i = true → listed.getD i true = false → ∀ t, H t = false → t ∉ Region.ready md ops listed

theorem headAnyI_first {x : Nat} {H : Nat → Bool} {i : Nat} {oi : Oper} {v : Value} {L : Array Bool → Act → Prop} (hi : ops[i]? = some oi) (hsel : ∀ (j : Nat) (o : Oper) cs b, ops[j]? = some o → o.op ≠ .select cs b)
    (hT : TailWaits md ops x H) (hin : H i = true) (hdone : ∀ listed a, L listed a → ∀ j ∈ Region.ready md ops listed, H j = false) :
    ∀ (f : Nat) (listed : Array Bool) (a : Act), InvL md ops x listed →
      (∀ j oj, ops[j]? = some oj → j ≠ i → listed.getD j true = false → (∀ e ∈ oj.after, Region.binds md e = true → e.on ≠ i) → oi.apart ops oj = true) →
      i ∈ Region.ready md ops listed → YieldsIn P ops C oi v a →
      headAnyI P md ops C H L f (listed.setIfInBounds i true) (a.put oi.dst v) → headAnyI P md ops C H L (f + 1) listed a := by
  intro f
  induction f with
  | zero =>
    intro listed a inv _ hr hy G
    have hun := (mem_ready.1 hr).1
    refine ⟨fun h => (by rw [h] at hr; cases hr), fun j hj => ?_⟩
    have hjn : H j = true := by
      cases h : H j with
      | true => rfl
      | false => exact absurd hj (hT listed inv i hin hun j h)
    refine ⟨hjn, ?_⟩
    by_cases hji : j = i
    · subst hji; exact hy.qOp hi G
    · have := hdone _ _ G j (ready_mono hj hji)
      rw [hjn] at this; cases this
  | succ f ih =>
    intro listed a inv hfree hr hy G
    have hun := (mem_ready.1 hr).1
    refine ⟨fun h => (by rw [h] at hr; cases hr), fun j hj => ?_⟩
    have hjn : H j = true := by
      cases h : H j with
      | true => rfl
      | false => exact absurd hj (hT listed inv i hin hun j h)
    refine ⟨hjn, ?_⟩
    by_cases hji : j = i
    · subst hji; exact hy.qOp hi G
    · have h1 := (G.2 j (ready_mono hj hji)).2
      obtain ⟨hjun, oj, hoj, hall⟩ := mem_ready.1 hj
      have hnot : ∀ e ∈ oj.after, Region.binds md e = true → e.on ≠ i := fun e he hb heq => by
        have h1 := hall e he hb
        rw [heq, getD_both hun] at h1
        cases h1
      have h2 := qOp_put hoj (hfree j oj hoj hji hjun hnot) (fun cs b => hsel i oi cs b hi) (fun cs b => hsel j oj cs b hoj) hy h1
      have hfree' : ∀ k ok, ops[k]? = some ok → k ≠ i → (listed.setIfInBounds j true).getD k true = false →
          (∀ e ∈ ok.after, Region.binds md e = true → e.on ≠ i) → oi.apart ops ok = true := fun k ok hk hki hun hno => by
        refine hfree k ok hk hki ?_ hno
        by_cases hjk : j = k
        · subst hjk; exact hjun
        · rw [getD_set_ne true hjk] at hun; exact hun
      refine qOp_mono (fun a' h3 => ih (listed.setIfInBounds j true) a' (inv.set hj) hfree' (ready_mono hr (Ne.symm hji)) h3.1 ?_) h2
      rw [Array.setIfInBounds_comm _ _ hji]
      exact h3.2

def lexHdI (md : Region.Mode) (ops : Array Oper) (H : Nat → Bool) (fin : Array Bool → Bool) : List Nat → Array Bool → Bool
  | [], listed => fin listed
  | k :: is, listed => H k && (Region.ready md ops listed).contains k && Region.free md ops listed k && lexHdI md ops H fin is (listed.setIfInBounds k true)

theorem headAnyI_lex {x : Nat} {H : Nat → Bool} {Lq : Act → Prop} {fin : Array Bool → Bool} (hsel : Region.noSelect ops = true) (hT : TailWaits md ops x H)
    (hF : ∀ listed, fin listed = true → ∀ j ∈ Region.ready md ops listed, H j = false) :
    ∀ (is : List Nat) (l : List Oper) (listed : Array Bool) (a : Act), is.map (fun i => ops[i]?) = l.map some → InvL md ops x listed →
    lexHdI md ops H fin is listed = true → wpQuiet P ops C Lq l a →
    headAnyI P md ops C H (fun listed' a' => fin listed' = true ∧ Lq a') is.length listed a
  | [], [], _, _, _, _, hB, h => ⟨by simpa [lexHdI] using hB, h⟩
  | [], _ :: _, _, _, hl, _, _, _ => by simp at hl
  | _ :: _, [], _, _, hl, _, _, _ => by simp at hl
  | k :: is, o :: l, listed, a, hl, inv, hB, h => by
    simp only [List.map_cons, List.cons.injEq] at hl
    obtain ⟨h0, hl⟩ := hl
    simp only [lexHdI, Bool.and_eq_true] at hB
    obtain ⟨⟨⟨hk, hr⟩, hf⟩, hB'⟩ := hB
    have hr' : k ∈ Region.ready md ops listed := by simpa using hr
    have hst : qOp P ops C k (wpQuiet P ops C Lq l) a := by unfold qOp; simp only [h0]; exact h
    obtain ⟨v, hy, hK⟩ := yieldsIn_of_qOp h0 hst
    exact headAnyI_first h0 (Region.noSelect_spec hsel) hT hk (fun listed' a' hL => hF listed' hL.1) is.length listed a inv (Region.free_spec h0 hf) hr' hy
      (headAnyI_lex hsel hT hF is l _ _ hl (inv.set hr') hB' hK)

/-- What an operation waits for. -/
def depsOf (ops : Array Oper) (j : Nat) : List Nat :=
  match ops[j]? with
  | some o => (o.after.toList.filter fun e => Region.binds .any e).map fun e => e.on
  | none => []
/-- .. and what that waits for, and so on, from the top down. -/
def closeD (ops : Array Oper) : Nat → List Nat → List Nat
  | 0, S => S
  | j + 1, S => closeD ops j (if S.contains j then S ++ depsOf ops j else S)

theorem deps_listed {listed : Array Bool} (inv : ClosedL .any ops listed) {j : Nat} (hj : listed.getD j false = true) : ∀ x ∈ depsOf ops j, listed.getD x false = true := by
  intro x hx
  unfold depsOf at hx
  split at hx
  · rename_i o ho
    obtain ⟨e, he, rfl⟩ := List.mem_map.1 hx
    obtain ⟨he1, he2⟩ := List.mem_filter.1 he
    exact inv j o ho hj e (by simpa using he1) he2
  · cases hx

theorem close_listed {listed : Array Bool} (inv : ClosedL .any ops listed) : ∀ (j : Nat) (S : List Nat), (∀ x ∈ S, listed.getD x false = true) → ∀ x ∈ closeD ops j S, listed.getD x false = true
  | 0, _, h => h
  | j + 1, S, h => close_listed inv j _ (by
    split
    · rename_i hc
      intro x hx
      rcases List.mem_append.1 hx with hx | hx
      · exact h x hx
      · exact deps_listed inv (h j (by simpa using hc)) x hx
    · exact h)

/-- Every operation beyond the head waits, at some remove, for all of it. -/
def waitsB (ops : Array Oper) (is : List Nat) (rest : List Nat) : Bool := rest.all fun t => is.all fun i => (closeD ops ops.size (depsOf ops t)).contains i
theorem waitsB_spec {is rest : List Nat} {x : Nat} (hR : ∀ t, t < ops.size → is.contains t = false → t ∈ rest ∨ t = x) (h : waitsB ops is rest = true) : TailWaits .any ops x (fun t => is.contains t) := by
  intro listed inv i hi hun t ht hr
  obtain ⟨htun, ot, hot, hall⟩ := mem_ready.1 hr
  have htlt : t < ops.size := (Array.getElem?_eq_some_iff.1 hot).1
  rcases hR t htlt ht with hm | hm
  · have h1 := List.all_eq_true.1 (List.all_eq_true.1 h t hm) i (by simpa using hi)
    have h2 := close_listed inv.closed ops.size (depsOf ops t) (fun x hx => by
      unfold depsOf at hx
      rw [hot] at hx
      obtain ⟨e, he, rfl⟩ := List.mem_map.1 hx
      obtain ⟨he1, he2⟩ := List.mem_filter.1 he
      exact hall e (by simpa using he1) he2) i (by simpa using h1)
    rw [getD_both hun] at h2
    cases h2
  · subst hm
    rw [inv.has] at htun; cases htun

def seqIB (ops : Array Oper) (is : List Nat) (x n : Nat) : Bool :=
  Region.noSelect ops && decide (x < ops.size) && (List.range ops.size).all (fun t => is.contains t || t == x || decide (n ≤ t)) && is.all (fun i => decide (i < n)) &&
  (depsOf ops x).isEmpty && waitsB ops is ((List.range ops.size).filter fun t => decide (n ≤ t)) && lexHdI .any ops (fun t => is.contains t) (Region.seqB .any ops (ops.size - n) n) is ((Array.replicate ops.size false).setIfInBounds x true)

/-- Operation x, which waits for nothing, taken already; the head 'is' in whatever order; what is left: one chain. -/
theorem wpAny_seq {Q : Exit → Act → World → Prop} {a : Act} {w : World} {l : List Oper} (is : List Nat) (lis : List Oper) (x n : Nat) (hB : seqIB l.toArray is x n = true) (hlis : is.map (fun i => l.toArray[i]?) = lis.map some)
    (hC : C w) (h : wpQuiet P l.toArray C (fun a' => ∀ w', C w' → wpList P l.toArray Q (l.drop n) a' w') lis a) :
    wpAny P .any l.toArray Q (is.length + (l.toArray.size - n)) ((Array.replicate l.toArray.size false).setIfInBounds x true) a w := by
  simp only [seqIB, Bool.and_eq_true, decide_eq_true_eq] at hB
  obtain ⟨⟨⟨⟨⟨⟨hsel, hxs⟩, hall⟩, hlt⟩, hdx⟩, hwt⟩, hlex⟩ := hB
  have inv : InvL .any l.toArray x ((Array.replicate l.toArray.size false).setIfInBounds x true) := by
    refine ⟨?_, by simp at hxs ⊢⟩
    intro j oj hj hl e he hb
    by_cases hxj : x = j
    · subst hxj
      have : e.on ∈ depsOf l.toArray x := by
        unfold depsOf; rw [hj]
        exact List.mem_map.2 ⟨e, List.mem_filter.2 ⟨by simpa using he, hb⟩, rfl⟩
      rw [List.isEmpty_iff.1 hdx] at this
      cases this
    · rw [getD_set_ne false hxj, getD_replicate_false] at hl; cases hl
  have hF : ∀ listed, Region.seqB .any l.toArray (l.toArray.size - n) n listed = true → ∀ j ∈ Region.ready .any l.toArray listed, is.contains j = false := by
    intro listed hf j hj
    have h1 := seqB_ready hf j hj
    cases hc : is.contains j with
    | false => rfl
    | true =>
      have := of_decide_eq_true (List.all_eq_true.1 hlt j (by simpa using hc))
      omega
  have hT : TailWaits .any l.toArray x (fun t => is.contains t) := waitsB_spec (fun t ht hc => by
    have h1 := List.all_eq_true.1 hall t (List.mem_range.2 ht)
    rw [hc, Bool.false_or, Bool.or_eq_true] at h1
    rcases h1 with h1 | h1
    · exact .inr (by simpa using h1)
    · exact .inl (List.mem_filter.2 ⟨List.mem_range.2 ht, h1⟩)) hwt
  have G := headAnyI_lex (md := .any) (fin := Region.seqB .any l.toArray (l.toArray.size - n) n) hsel hT hF is lis _ a hlis inv hlex h
  refine headAnyI_wp (Q' := Q) (g := l.toArray.size - n) (fun listed a' w' hw' hh => ?_) _ _ _ _ hC G
  obtain ⟨hf, hL⟩ := hh
  have hdl : (l.drop n).length = l.toArray.size - n := by simp
  have := wpAny_of_seq (md := .any) (Q' := Q) (l.drop n) n listed a' w' (fun j => by simp [List.getElem?_drop]) (by rw [hdl]; exact hf) (hL w' hw')
  rwa [hdl] at this

theorem is_of_take {l : List Oper} (x m : Nat) (h : x + 1 + m ≤ l.length) : (List.range x ++ (List.range m).map fun j => j + (x + 1)).map (fun i => l.toArray[i]?) = (l.take x ++ (l.drop (x + 1)).take m).map some := by
  rw [List.map_append, List.map_append]
  congr 1
  · refine List.ext_getElem (by simp; omega) fun j h1 h2 => ?_
    have hj : j < x := by simpa using h1
    simp [List.getElem?_eq_getElem (show j < l.length by omega)]
  · refine List.ext_getElem (by simp; omega) fun j h1 h2 => ?_
    have hj : j < m := by simpa using h1
    simp [List.getElem?_eq_getElem (show j + (x + 1) < l.length by omega)]
    congr 1
    omega

/-- .. the head: all that stand ahead of operation n, but x. -/
theorem wpAny_seq_at {Q : Exit → Act → World → Prop} {a : Act} {w : World} {l : List Oper} (x m n : Nat) (hlen : x + 1 + m ≤ l.length) (hB : seqIB l.toArray (List.range x ++ (List.range m).map fun j => j + (x + 1)) x n = true)
    (hC : C w) (h : wpQuiet P l.toArray C (fun a' => ∀ w', C w' → wpList P l.toArray Q (l.drop n) a' w') (l.take x ++ (l.drop (x + 1)).take m) a) :
    wpAny P .any l.toArray Q (x + m + (l.toArray.size - n)) ((Array.replicate l.toArray.size false).setIfInBounds x true) a w := by
  have := wpAny_seq (P := P) (C := C) (Q := Q) (a := a) (w := w) (l := l) _ _ x n hB (is_of_take x m hlen) hC h
  have e : (List.range x ++ (List.range m).map fun j => j + (x + 1)).length = x + m := by simp
  rwa [e] at this

/-! ### whole structs, k cells as one -/
theorem run_loadAt_agg {ty : TypeId} {p : Addr} {k : Nat} {cs : Array Value} {W : World} (hA : ∀ w, (isAgg ty).run P w = .ok true w) (hS : ∀ w, (Go.sizeOf ty).run P w = .ok k w)
    (hl : Sem.run P (loadCellsFrom p 0 k #[]) W = .ok cs W) : (Instr.loadAt ty (.pointer (some p))).run P W = .ok (.agg cs) W := by
  simp only [Instr.loadAt, Instr.sureAddr, loadVar, loadCells, Sem.run_bind, Sem.run_pure, Result.andThen_ok, hA, hS, hl, if_true]
theorem run_storeAt_agg {ty : TypeId} {p : Addr} {k : Nat} {cs : List Value} {W W' : World} (hS : ∀ w, (Go.sizeOf ty).run P w = .ok k w) (hn : cs.length = k)
    (hs : Sem.run P (storeCells p cs 0) W = .ok () W') : (Instr.storeAt ty (.pointer (some p)) (.agg cs.toArray)).run P W = .ok () W' := by
  simp [Instr.storeAt, Instr.sureAddr, storeVar, Sem.run_bind, hS, Value.cells, hn, hs]

/-- A struct is loaded: a quiet step. -/
theorem wpQuiet_load {Q : Act → Prop} {a : Act} {o : Oper} {rest : List Oper} (ty : TypeId) (x : Operand) (ho : o.op = .load ty x) (hg : o.guard = none) (p : Addr) (hx : a.eval x = .pointer (some p)) (cs : Array Value)
    (hl : ∀ w, C w → (Instr.loadAt ty (.pointer (some p))).run P w = .ok (.agg cs) w) (h : wpQuiet P ops C Q rest (a.put o.dst (.agg cs))) : wpQuiet P ops C Q (o :: rest) a := by
  unfold wpQuiet
  simp only [Region.wanted, hg, if_true]
  refine ⟨.agg cs, fun w hw => ?_, h⟩
  unfold Oper.quietAt execOp
  simp only [ho, hx, Sem.run_bind, hl w hw, Result.andThen_ok, Sem.run_pure, Oper.quietUpon]
  exact ⟨by trivial, by trivial⟩

/-- A struct is loaded, the guard met: a quiet step. -/
theorem wpQuiet_load_g {Q : Act → Prop} {a : Act} {o : Oper} {rest : List Oper} (ty : TypeId) (x : Operand) (ho : o.op = .load ty x) (hg : Region.wanted o (yielded ops a.tmps) = true) (p : Addr) (hx : a.eval x = .pointer (some p)) (cs : Array Value)
    (hl : ∀ w, C w → (Instr.loadAt ty (.pointer (some p))).run P w = .ok (.agg cs) w) (h : wpQuiet P ops C Q rest (a.put o.dst (.agg cs))) : wpQuiet P ops C Q (o :: rest) a := by
  unfold wpQuiet
  rw [if_pos hg]
  refine ⟨.agg cs, fun w hw => ?_, h⟩
  unfold Oper.quietAt execOp
  simp only [ho, hx, Sem.run_bind, hl w hw, Result.andThen_ok, Sem.run_pure, Oper.quietUpon]
  exact ⟨by trivial, by trivial⟩

/-- A struct is loaded, in a list of operations. -/
theorem wpList_load {Q : Exit → Act → World → Prop} {a : Act} {w : World} {o : Oper} {rest : List Oper} (ty : TypeId) (x : Operand) (ho : o.op = .load ty x) (hg : o.guard = none) (p : Addr) (hx : a.eval x = .pointer (some p)) (cs : Array Value)
    (hl : (Instr.loadAt ty (.pointer (some p))).run P w = .ok (.agg cs) w) (h : wpList P ops Q rest (a.put o.dst (.agg cs)) w) : wpList P ops Q (o :: rest) a w :=
  wpList_plain hg fun K hK => by
    unfold Oper.wp execOp
    simp only [ho, hx, Sem.run_bind, hl, Result.andThen_ok, Sem.run_pure]
    exact hK _ _ h
/-- A struct is stored. -/
theorem wpList_store {Q : Exit → Act → World → Prop} {a : Act} {w w1 : World} {o : Oper} {rest : List Oper} (ty : TypeId) (x y : Operand) (ho : o.op = .store ty x y) (hg : o.guard = none) (hd : o.dst = none) (p : Addr) (hx : a.eval x = .pointer (some p)) (v : Value) (hy : a.eval y = v)
    (hl : (Instr.storeAt ty (.pointer (some p)) v).run P w = .ok () w1) (h : wpList P ops Q rest a w1) : wpList P ops Q (o :: rest) a w :=
  wpList_plain hg fun K hK => by
    unfold Oper.wp execOp
    simp only [ho, hx, hy, Sem.run_bind, hl, Result.andThen_ok, Sem.run_pure, Oper.upon_skip, hd]
    exact hK _ _ h
theorem run_store_skip {ρ : Operand → Value} {w w1 : World} {o : Oper} (ty : TypeId) (x y : Operand) (ho : o.op = .store ty x y) (p : Addr) (hx : ρ x = .pointer (some p)) (v : Value) (hy : ρ y = v)
    (hl : (Instr.storeAt ty (.pointer (some p)) v).run P w = .ok () w1) : (execOp ρ o).run P w = .ok .skip w1 := by
  unfold execOp
  simp only [ho, hx, hy, Sem.run_bind, hl, Result.andThen_ok, Sem.run_pure]
end
end Go.Proofs.Ybulkdnbw
